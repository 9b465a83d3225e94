import PyProof.Rows.All
import Wide.All
import OpenK.AllK
import Wide.FinOn
import PyProof.GenRules
import PyProof.NeKinds
import PyProof.ListIndexNeg
import KE.KIsBytes
import PySem.Challenge.RW_bj0064_02
open PySem PySem.W PyProof.Rows
set_option Elab.async false
set_option linter.all false
namespace Mine
set_option maxRecDepth 100000 in
set_option maxHeartbeats 8000000 in
open_top hd for PySem.Challenge.rw_bj0064_02
section
open PySem PySem.W PyProof.Rows PySem.Calls

/-- names of attributes, by number -/
def nmS : List String := ["append", "extend", "isdigit", "find", "decode", "join", "buffer", "length", "put", "put_bit", "get", "mode", "data", "write", "version", "_version", "error_correction", "box_size", "border", "mask_pattern", "_mask_pattern", "image_factory", "precomputed_qr_blanks", "clear", "modules", "modules_count", "data_cache", "data_list", "add_data", "best_fit", "makeImpl", "setup_position_probe_pattern", "setup_timing_pattern", "setup_position_adjust_pattern", "setup_type_number", "setup_type_info", "map_data", "num", "total_count", "data_count", "index", "__init__", "__len__", "__getitem__", "__iter__", "__mul__", "__mod__", "__get__", "__new__", "__doc__", "make", "encode", "items"]
def nmL : List Str := nmS.map PySem.Str.ofString
def nm (k : Nat) : Str := match nmL[k]? with | some x => x | none => ⟨#[0, k]⟩
theorem nm_inj {a b : Nat} (h : nm a = nm b) : a = b := by
  have nd : nmL.Nodup := by decide +kernel
  have nz : ∀ x ∈ nmL, ∀ k, x ≠ (⟨#[0, k]⟩ : Str) := by
    have : ∀ x ∈ nmL, x.cps[0]? ≠ some 0 := by decide +kernel
    intro x hx k e
    apply this x hx
    rw [e]; rfl
  unfold nm at h
  cases ha : nmL[a]? with
  | none =>
    cases hb : nmL[b]? with
    | none => rw [ha, hb] at h; simpa using h
    | some y => rw [ha, hb] at h; exact absurd h.symm (nz y (List.mem_of_getElem? hb) a)
  | some x =>
    cases hb : nmL[b]? with
    | none => rw [ha, hb] at h; exact absurd h (nz x (List.mem_of_getElem? ha) b)
    | some y =>
      rw [ha, hb] at h
      simp only at h
      subst h
      obtain ⟨h1, e1⟩ := List.getElem?_eq_some_iff.mp ha
      obtain ⟨h2, e2⟩ := List.getElem?_eq_some_iff.mp hb
      have nd' := List.pairwise_iff_getElem.mp nd
      rcases Nat.lt_trichotomy a b with hh | hh | hh
      · exact absurd (e1.trans e2.symm) (nd' a b h1 h2 hh)
      · exact hh
      · exact absurd (e2.trans e1.symm) (nd' b a h2 h1 hh)
/-- abstract values -/
inductive V where
  | unb | none | bool (b : Bool) | int (i : Int) | bytes (b : List UInt8) | str (s : Str) | val (v : Value) | ref (i : Nat) | cell (i : Nat)
  | rng (a b st : Int) | tup (vs : List V) | lst (vs : List V) | obj (C : Addr) (fs : List (Nat × V)) | dct (ks : List Int) (vs : List V) | ntup (C : Addr) (vs : List V)

/-- abstract owned objects -/
inductive AO where
  | dead | list (vs : List V) | inst (C : Addr) (fs : List (Nat × V)) | cell (v : V) | dict (ks : List Int) (vs : List V)

abbrev Led := List (Addr × Obj)
abbrev Loc := List (Str × V)
/-- heights: what stands for a walk's step is opened by the kernel ahead of what it stops at -/
def hi0 : Nat := 0
def hi1 : Nat := hi0
def hi2 : Nat := hi1
def hi3 : Nat := hi2
def hi4 : Nat := hi3
def hi5 : Nat := hi4
def hi6 : Nat := hi5
def hi7 : Nat := hi6
def hi8 : Nat := hi7
def hi9 : Nat := hi8
def hi10 : Nat := hi9
def hi11 : Nat := hi10
def hi12 : Nat := hi11
def hi13 : Nat := hi12
def hi14 : Nat := hi13
def hi15 : Nat := hi14
def hi16 : Nat := hi15
def hi17 : Nat := hi16
def hi18 : Nat := hi17
def hi19 : Nat := hi18
def hi20 : Nat := hi19
def hi21 : Nat := hi20
def hi22 : Nat := hi21
def hi23 : Nat := hi22
def hi24 : Nat := hi23
def hi25 : Nat := hi24
def hi26 : Nat := hi25
def hi27 : Nat := hi26
def hi28 : Nat := hi27
def hi29 : Nat := hi28
def hi30 : Nat := hi29
def hi (p : Prop) : Prop := (fun (_ : Nat) => p) hi30
@[reducible] def hiU (α : Type) (_ : Nat) : Type := α
@[reducible] def Hp : Type := hiU (List AO) hi30

abbrev tupObj (ws : List Value) (n : Nat) : Obj := { cls := .type "tuple", data := .seq ws.toArray n }

def IDict (o : Obj) (ks : List Int) (ws : List Value) : Prop := ks.length = ws.length ∧ ∀ p w, o.IsDictOf (intKind p w) (ks.zip ws)
mutual
inductive VR (z : Led) (ρ : List Addr) : V → Value → Prop
  | none : VR z ρ .none .none
  | bool (b) : VR z ρ (.bool b) (.bool b)
  | int (i t) : VR z ρ (.int i) (.int i t)
  | bytes (b t) : VR z ρ (.bytes b) (.bytes b.toArray t)
  | str (x t) : VR z ρ (.str x) (.str x t)
  | val (v) : VR z ρ (.val v) v
  | ref {i a} : ρ[i]? = some a → VR z ρ (.ref i) (.ref a)
  | rng {x a b st t u v} : (x, ({ cls := .type "range", dict := none, data := .fields #[.int a t, .int b u, .int st v], slots := #[] } : Obj)) ∈ z → VR z ρ (.rng a b st) (.ref x)
  | tup {vs ws a n} : (a, tupObj ws n) ∈ z → VRL z ρ vs ws → VR z ρ (.tup vs) (.ref a)
  | lst {vs ws a n} : (a, listOf ws.toArray n) ∈ z → VRL z ρ vs ws → VR z ρ (.lst vs) (.ref a)
  | obj {C fs es x dx sl n} : (x, (⟨.ref C, some dx, .plain, sl⟩ : Obj)) ∈ z → (dx, dictOf es n) ∈ z → ER z ρ fs es → VR z ρ (.obj C fs) (.ref x)
  | dct {ks vs ws a o} : (a, o) ∈ z → (a == sysModules) = false → IDict o ks ws → VRL z ρ vs ws → VR z ρ (.dct ks vs) (.ref a)
  | ntup {C vs ws a dx n} : (a, (⟨.ref C, some dx, .seq ws.toArray n, #[]⟩ : Obj)) ∈ z → (dx, (⟨.type "dict", none, .dict #[] 0, #[]⟩ : Obj)) ∈ z → VRL z ρ vs ws → VR z ρ (.ntup C vs) (.ref a)
inductive VRL (z : Led) (ρ : List Addr) : List V → List Value → Prop
  | nil : VRL z ρ [] []
  | cons {v w vs ws} : VR z ρ v w → VRL z ρ vs ws → VRL z ρ (v :: vs) (w :: ws)
inductive ER (z : Led) (ρ : List Addr) : List (Nat × V) → List DictEntry → Prop
  | nil : ER z ρ [] []
  | cons {x v w hs t fs es} : VR z ρ v w → ER z ρ fs es → ER z ρ ((x, v) :: fs) (⟨hs, .str (nm x) t, w⟩ :: es)
end

/-- growth of the two tables -/
structure Ext (ρ : List Addr) (z : Led) (ρ' : List Addr) (z' : Led) : Prop where
  r : ∀ (i : Nat) (a : Addr), ρ[i]? = some a → ρ'[i]? = some a
  zz : ∀ p ∈ z, p ∈ z'
theorem Ext.refl (ρ : List Addr) (z : Led) : Ext ρ z ρ z := ⟨fun _ _ h => h, fun _ h => h⟩
theorem Ext.trans {ρ ρ' ρ'' : List Addr} {z z' z'' : Led} (a : Ext ρ z ρ' z') (b : Ext ρ' z' ρ'' z'') : Ext ρ z ρ'' z'' := ⟨fun i x h => b.r i x (a.r i x h), fun p h => b.zz p (a.zz p h)⟩
theorem Ext.push (ρ : List Addr) (z : Led) (a : Addr) : Ext ρ z (ρ ++ [a]) z := ⟨fun i x h => by
  rw [List.getElem?_append_left (List.getElem?_eq_some_iff.mp h).1]; exact h, fun _ h => h⟩
theorem Ext.cons (ρ : List Addr) (z : Led) (p : Addr × Obj) : Ext ρ z ρ (p :: z) := ⟨fun _ _ h => h, fun _ h => .tail _ h⟩

mutual
theorem VR.mono {ρ ρ' : List Addr} {z z' : Led} (e : Ext ρ z ρ' z') : ∀ {v w}, VR z ρ v w → VR z' ρ' v w
  | _, _, .none => .none
  | _, _, .bool b => .bool b
  | _, _, .int i t => .int i t
  | _, _, .bytes b t => .bytes b t
  | _, _, .str x t => .str x t
  | _, _, .val v => .val v
  | _, _, .ref h => .ref (e.r _ _ h)
  | _, _, .rng h => .rng (e.zz _ h)
  | _, _, .tup h l => .tup (e.zz _ h) (VRL.mono e l)
  | _, _, .lst h l => .lst (e.zz _ h) (VRL.mono e l)
  | _, _, .obj h h' l => .obj (e.zz _ h) (e.zz _ h') (ER.mono e l)
  | _, _, .dct h m d l => .dct (e.zz _ h) m d (VRL.mono e l)
  | _, _, .ntup h h2 l => .ntup (e.zz _ h) (e.zz _ h2) (VRL.mono e l)
theorem VRL.mono {ρ ρ' : List Addr} {z z' : Led} (e : Ext ρ z ρ' z') : ∀ {v w}, VRL z ρ v w → VRL z' ρ' v w
  | _, _, .nil => .nil
  | _, _, .cons h l => .cons (VR.mono e h) (VRL.mono e l)
theorem ER.mono {ρ ρ' : List Addr} {z z' : Led} (e : Ext ρ z ρ' z') : ∀ {v w}, ER z ρ v w → ER z' ρ' v w
  | _, _, .nil => .nil
  | _, _, .cons h l => .cons (VR.mono e h) (ER.mono e l)
end

theorem VRL.length {z : Led} {ρ : List Addr} : ∀ {vs ws}, VRL z ρ vs ws → vs.length = ws.length
  | _, _, .nil => rfl
  | _, _, .cons _ l => congrArg (· + 1) l.length
theorem VRL.get {z : Led} {ρ : List Addr} : ∀ {vs ws}, VRL z ρ vs ws → ∀ {i : Nat} {v : V}, vs[i]? = some v → ∃ w, ws[i]? = some w ∧ VR z ρ v w
  | _, _, .cons h _, 0, _, e => by cases e; exact ⟨_, rfl, h⟩
  | _, _, .cons _ l, i + 1, _, e => l.get (i := i) e
theorem VRL.append {z : Led} {ρ : List Addr} : ∀ {vs ws vs' ws'}, VRL z ρ vs ws → VRL z ρ vs' ws' → VRL z ρ (vs ++ vs') (ws ++ ws')
  | _, _, _, _, .nil, h => h
  | _, _, _, _, .cons h l, h' => .cons h (l.append h')
theorem VRL.set {z : Led} {ρ : List Addr} : ∀ {vs ws}, VRL z ρ vs ws → ∀ {v w} (i : Nat), VR z ρ v w → VRL z ρ (vs.set i v) (ws.set i w)
  | _, _, .nil, _, _, _, _ => .nil
  | _, _, .cons _ l, _, _, 0, h => .cons h l
  | _, _, .cons h l, _, _, i + 1, h' => .cons h (l.set i h')
theorem VRL.take {z : Led} {ρ : List Addr} : ∀ {vs ws}, VRL z ρ vs ws → ∀ n, VRL z ρ (vs.take n) (ws.take n)
  | _, _, .nil, n => by simp; exact .nil
  | _, _, .cons _ _, 0 => .nil
  | _, _, .cons h l, n + 1 => .cons h (l.take n)
theorem VRL.drop {z : Led} {ρ : List Addr} : ∀ {vs ws}, VRL z ρ vs ws → ∀ n, VRL z ρ (vs.drop n) (ws.drop n)
  | _, _, .nil, n => by simp; exact .nil
  | _, _, .cons h l, 0 => .cons h l
  | _, _, .cons _ l, n + 1 => l.drop n

/-- the pieces of the real heap that bear one owned object -/
inductive PR (z : Led) (ρ : List Addr) : AO → Addr → Led → Prop
  | dead (a) : PR z ρ .dead a []
  | list {vs ws a n} : VRL z ρ vs ws → PR z ρ (.list vs) a [(a, listOf ws.toArray n)]
  | inst {C fs es a dx sl n} : ER z ρ fs es → PR z ρ (.inst C fs) a [(a, ⟨.ref C, some dx, .plain, sl⟩), (dx, dictOf es n)]
  | cell {v w a o} : VR z ρ v w → o.data = .cell (some w) → PR z ρ (.cell v) a [(a, o)]
  | dict {ks vs ws a o} : (a == sysModules) = false → IDict o ks ws → VRL z ρ vs ws → PR z ρ (.dict ks vs) a [(a, o)]
  | cell0 {a o} : o.data = .cell none → PR z ρ (.cell .unb) a [(a, o)]
theorem PR.mono {ρ ρ' : List Addr} {z z' : Led} (e : Ext ρ z ρ' z') {o a p} : PR z ρ o a p → PR z' ρ' o a p
  | .dead a => .dead a
  | .list l => .list (l.mono e)
  | .inst l => .inst (l.mono e)
  | .cell h d => .cell (h.mono e) d
  | .cell0 d => .cell0 d
  | .dict m d l => .dict m d (l.mono e)

inductive SR (z : Led) (R : List Addr) : Hp → List Addr → Led → Prop
  | nil : SR z R [] [] []
  | cons {o a p σ ρ led} : PR z R o a p → SR z R σ ρ led → SR z R (o :: σ) (a :: ρ) (p ++ led)
theorem SR.mono {ρ ρ' : List Addr} {z z' : Led} (e : Ext ρ z ρ' z') : ∀ {σ r l}, SR z ρ σ r l → SR z' ρ' σ r l
  | _, _, _, .nil => .nil
  | _, _, _, .cons h l => .cons (h.mono e) (l.mono e)
theorem SR.length {z : Led} {R : List Addr} : ∀ {σ r l}, SR z R σ r l → σ.length = r.length
  | _, _, _, .nil => rfl
  | _, _, _, .cons _ l => congrArg (· + 1) l.length
theorem SR.snoc {z : Led} {R : List Addr} : ∀ {σ r l}, SR z R σ r l → ∀ {o a p}, PR z R o a p → SR z R (σ ++ [o]) (r ++ [a]) (l ++ p)
  | _, _, _, .nil, _, _, p, h => by
    have := SR.cons h (SR.nil (z := z) (R := R))
    simpa using this
  | _, _, _, .cons (p := q) (led := led) h l, _, _, p, h' => by
    rw [List.append_assoc]; exact .cons h (l.snoc h')
/-- the object at i, and how it may be exchanged -/
theorem SR.split {z : Led} {R : List Addr} : ∀ {σ r l}, SR z R σ r l → ∀ {i : Nat} {o : AO}, σ[i]? = some o →
    ∃ a p pre post, r[i]? = some a ∧ l = pre ++ p ++ post ∧ PR z R o a p ∧ ∀ o' p', PR z R o' a p' → SR z R (σ.set i o') r (pre ++ p' ++ post)
  | _, _, _, .cons (a := a) (p := p) (led := led) h l, 0, _, e => by
    cases e
    exact ⟨a, p, [], led, rfl, by simp, h, fun o' p' h' => by simpa using SR.cons h' l⟩
  | _, _, _, .cons (p := q) h l, i + 1, _, e => by
    obtain ⟨a, p, pre, post, h1, h2, h3, h4⟩ := l.split (i := i) e
    refine ⟨a, p, q ++ pre, post, h1, by rw [h2]; simp, h3, fun o' p' h' => ?_⟩
    have := SR.cons h (h4 o' p' h')
    simpa using this
end
section
open PySem PySem.W PyProof.Rows PySem.Calls

/-- what stays fixed for a whole law: the program, the world, the top's facts, the code tables that may grow -/
structure Cx where
  prog : Program
  w : World
  Kf : Params → Frag
  mg : Str → Option Value
  mb : Str → Option Value
  os : OsState
  dr : Drawn
  h0 : Heap
  tt : List (Addr × Addr)
  kz : Led
  gi : Array GenState → Prop
abbrev Cx.K (c : Cx) : Frag := c.Kf c.w.params
abbrev Cx.M (c : Cx) : Model := model c.prog c.w
abbrev Cx.tk (c : Cx) : List Addr := c.tt.map (·.2)

/-- the base: the top as it stood -/
structure Base (c : Cx) (g : Heap) : Prop where
  X : c.K.In g
  gl : g.Ns mainGlobals c.mg
  bl : g.Ns builtinsNs c.mb
  nolimit : g.NoLimit
  builtins : ∀ x : Str, x ≠ "__name__" → c.mb x = bootBuiltins x
  codes : ∀ t ∈ c.tt, ∃ o, g.get? t.1 = some o
  bmod : ∃ bm o, c.mg "__builtins__" = some (.ref bm) ∧ bm ≠ builtinsNs ∧ g.get? bm = some o ∧ o.cls = .type "module" ∧ o.dict = some builtinsNs ∧ o.data = .plain
theorem Base.keeps {c : Cx} {g g' : Heap} (B : Base c g) (k : ∀ b o, g.get? b = some o → g'.get? b = some o) : Base c g' :=
  ⟨B.X.keeps k, B.gl.keeps k, B.bl.keeps k, B.nolimit.keeps k, B.builtins, fun t ht => let ⟨o, e⟩ := B.codes t ht; ⟨o, k _ _ e⟩, let ⟨bm, o, a, b, e, r⟩ := B.bmod; ⟨bm, o, a, b, k _ _ e, r⟩⟩

/-- a code table: it may hold codes of its own that the call compiled -/
def TabOk (h : Heap) (t : Addr × Addr) : Prop := ∃ ps, h.IsCode t.1 t.2 ps ∧ h.TableAt t.1 t.2 ps

structure Rp (c : Cx) (g : Heap) (X : List Addr) (ρ : List Addr) (z : Led) (σ : Hp) (s : Shared) : Prop where
  base : Base c g
  keep : ∀ b o, g.get? b = some o → s.heap.get? b = some o
  own : ∃ led, SR z ρ σ ρ led ∧ (led.map (·.1)).Nodup ∧ ∀ p ∈ led, s.heap.get? p.1 = some p.2 ∧ g.get? p.1 = none ∧ p.1 ∉ X ++ c.tk ∧ ∀ q ∈ z, q.1 ≠ p.1
  frz : ∀ q ∈ z, s.heap.get? q.1 = some q.2 ∧ q.1 ∉ X ++ c.tk
  off : ∀ a ∈ X ++ c.tk, g.get? a = none ∧ ∃ o, s.heap.get? a = some o
  tabs : ∀ t ∈ c.tt, TabOk s.heap t
  os : s.os = c.os
  dr : s.drawn = c.dr
  gens : c.gi s.gens
  kz : ∀ p ∈ c.kz, p ∈ z

theorem TabOk.keeps {h h' : Heap} {t} (x : TabOk h t) (k : ∀ b o, h.get? b = some o → h'.get? b = some o) : TabOk h' t :=
  let ⟨ps, a, b⟩ := x; ⟨ps, a.keeps k, b.keeps k⟩

/-- the heap grows: nothing that stood has changed -/
theorem Rp.grow {c g X ρ z σ} {s s' : Shared} (R : Rp c g X ρ z σ s) (k : ∀ b o, s.heap.get? b = some o → s'.heap.get? b = some o)
    (h1 : s'.os = s.os := by rfl) (h2 : s'.drawn = s.drawn := by rfl) (h3 : s'.gens = s.gens := by rfl) : Rp c g X ρ z σ s' := by
  obtain ⟨led, a, b, d⟩ := R.own
  exact ⟨R.base, fun b o e => k _ _ (R.keep b o e), ⟨led, a, b, fun p hp => ⟨k _ _ (d p hp).1, (d p hp).2⟩⟩, fun q hq => ⟨k _ _ (R.frz q hq).1, (R.frz q hq).2⟩,
    fun a ha => ⟨(R.off a ha).1, let ⟨o, e⟩ := (R.off a ha).2; ⟨o, k _ _ e⟩⟩, fun t ht => (R.tabs t ht).keeps k, h1 ▸ R.os, h2 ▸ R.dr, h3 ▸ R.gens, R.kz⟩
theorem Rp.toks {c g X ρ z σ} {s : Shared} (R : Rp c g X ρ z σ s) (t : Nat) : Rp c g X ρ z σ { s with toks := t } := R.grow (s' := { s with toks := t }) (fun _ _ e => e)
theorem Rp.junk {c g X ρ z σ} {s : Shared} (R : Rp c g X ρ z σ s) (o : Obj) : Rp c g X ρ z σ { s with heap := s.heap.push o } :=
  R.grow (s' := { s with heap := s.heap.push o }) (fun _ _ e => Heap.get?_push_of_some _ e)

theorem fresh_at {h : Heap} {a : Addr} (ha : h.objs.size ≤ a) : h.get? a = none := by
  cases e : h.get? a with
  | none => rfl
  | some o => exact absurd (Heap.lt_size e) (Nat.not_lt.mpr ha)
theorem fresh_base {g h : Heap} (k : ∀ b o, g.get? b = some o → h.get? b = some o) {a : Addr} (ha : h.get? a = none) : g.get? a = none := by
  cases e : g.get? a with
  | none => rfl
  | some o => rw [k _ _ e] at ha; cases ha
theorem fresh_ne {h : Heap} {a b : Addr} {o : Obj} (e : h.get? b = some o) (ha : h.get? a = none) : b ≠ a := fun q => by rw [q, ha] at e; cases e

/-- objects that stand and are nobody's become facts that stay -/
theorem Rp.froze {c g X ρ z σ} {s : Shared} (R : Rp c g X ρ z σ s) (zs : Led) (hz : ∀ p ∈ zs, s.heap.get? p.1 = some p.2 ∧ p.1 ∉ X ++ c.tk ∧ g.get? p.1 ≠ none) : Rp c g X ρ (zs ++ z) σ s := by
  obtain ⟨led, a, b, d⟩ := R.own
  refine ⟨R.base, R.keep, ⟨led, a.mono ⟨fun _ _ h => h, fun p h => List.mem_append_right _ h⟩, b, fun p hp => ⟨(d p hp).1, (d p hp).2.1, (d p hp).2.2.1, fun q hq => ?_⟩⟩, fun q hq => ?_, R.off, R.tabs, R.os, R.dr, R.gens, fun p hp => List.mem_append_right _ (R.kz p hp)⟩
  · rcases List.mem_append.mp hq with h | h
    · have h' := (hz q h).2.2
      intro e; rw [e] at h'; exact h' (d p hp).2.1
    · exact (d p hp).2.2.2 q h
  · rcases List.mem_append.mp hq with h | h
    · exact ⟨(hz q h).1, (hz q h).2.1⟩
    · exact R.frz q h

/-- a new object that stays as it is -/
theorem Rp.pushZ {c g X ρ z σ} {s : Shared} (R : Rp c g X ρ z σ s) (o : Obj) (hf : o.isFreed = false := by rfl) : Rp c g X ρ ((s.heap.objs.size, o) :: z) σ { s with heap := s.heap.push o } := by
  have J := R.junk o
  obtain ⟨led, a, b, d⟩ := R.own
  have ob : ∀ p ∈ led, p.1 ≠ s.heap.objs.size := fun p hp => fresh_ne (d p hp).1 (fresh_at (Nat.le_refl _))
  refine ⟨R.base, J.keep, ⟨led, a.mono (Ext.cons ..), b, fun p hp => ⟨Heap.get?_push_of_some _ (d p hp).1, (d p hp).2.1, (d p hp).2.2.1, fun q hq => ?_⟩⟩, fun q hq => ?_, J.off, J.tabs, J.os, J.dr, J.gens, fun p hp => .tail _ (R.kz p hp)⟩
  · rcases List.mem_cons.mp hq with rfl | h
    · exact (ob p hp).symm
    · exact (d p hp).2.2.2 q h
  · rcases List.mem_cons.mp hq with rfl | h
    · exact ⟨Heap.get?_push_size _ hf, fun hm => let ⟨_, e⟩ := (R.off _ hm).2; Nat.lt_irrefl _ (Heap.lt_size e)⟩
    · exact ⟨Heap.get?_push_of_some _ (R.frz q h).1, (R.frz q h).2⟩

/-- new objects of the call's own -/
theorem Rp.new {c g X ρ z σ} {s s' : Shared} {o : AO} {a : Addr} {p : Led} (R : Rp c g X ρ z σ s) (k : ∀ b o, s.heap.get? b = some o → s'.heap.get? b = some o)
    (hp : PR z (ρ ++ [a]) o a p) (hn : (p.map (·.1)).Nodup) (hh : ∀ q ∈ p, s'.heap.get? q.1 = some q.2 ∧ s.heap.get? q.1 = none)
    (h1 : s'.os = s.os := by rfl) (h2 : s'.drawn = s.drawn := by rfl) (h3 : s'.gens = s.gens := by rfl) : Rp c g X (ρ ++ [a]) z (σ ++ [o]) s' := by
  have J := R.grow k h1 h2 h3
  obtain ⟨led, a', b, d⟩ := R.own
  refine ⟨R.base, J.keep, ⟨led ++ p, (a'.mono (Ext.push ..)).snoc hp, ?_, fun q hq => ?_⟩, J.frz, J.off, J.tabs, J.os, J.dr, J.gens, J.kz⟩
  · rw [List.map_append, List.nodup_append]
    refine ⟨b, hn, fun x hx y hy => ?_⟩
    obtain ⟨q, hq, rfl⟩ := List.mem_map.mp hx
    obtain ⟨q', hq', rfl⟩ := List.mem_map.mp hy
    exact fresh_ne (d q hq).1 (hh q' hq').2
  · rcases List.mem_append.mp hq with h | h
    · exact ⟨k _ _ (d q h).1, (d q h).2⟩
    · refine ⟨(hh q h).1, fresh_base R.keep (hh q h).2, fun hm => ?_, fun r hr => fresh_ne (R.frz r hr).1 (hh q h).2⟩
      obtain ⟨_, e⟩ := (R.off _ hm).2
      rw [(hh q h).2] at e; cases e

/-- the owned object at i -/
theorem Rp.at {c g X ρ z σ} {s : Shared} (R : Rp c g X ρ z σ s) {i : Nat} {o : AO} (e : σ[i]? = some o) :
    ∃ a p, ρ[i]? = some a ∧ PR z ρ o a p ∧ (∀ q ∈ p, s.heap.get? q.1 = some q.2 ∧ g.get? q.1 = none ∧ q.1 ∉ X ++ c.tk) := by
  obtain ⟨led, a, b, d⟩ := R.own
  obtain ⟨x, p, pre, post, h1, rfl, h3, h4⟩ := a.split e
  exact ⟨x, p, h1, h3, fun q hq => ⟨(d q (by simp [hq])).1, (d q (by simp [hq])).2.1, (d q (by simp [hq])).2.2.1⟩⟩

/-- one real object of the owned object at i is exchanged -/
theorem Rp.upd {c g X ρ z σ} {s s' : Shared} (R : Rp c g X ρ z σ s) {i : Nat} {o : AO} (e : σ[i]? = some o) {a : Addr} (ha : ρ[i]? = some a) {o' : AO} {b : Addr}
    (hq : ∀ p, PR z ρ o a p → (∀ q ∈ p, s.heap.get? q.1 = some q.2) → b ∈ p.map (·.1) ∧ ∃ p', PR z ρ o' a p' ∧ p'.map (·.1) = p.map (·.1) ∧ ∀ q ∈ p', s'.heap.get? q.1 = some q.2)
    (hs : Heap.SameBut b s.heap s'.heap) (h1 : s'.os = s.os := by rfl) (h2 : s'.drawn = s.drawn := by rfl) (h3 : s'.gens = s.gens := by rfl) : Rp c g X ρ z (σ.set i o') s' := by
  obtain ⟨led, a', nd, d⟩ := R.own
  obtain ⟨x, p, pre, post, hx, rfl, h3', h4⟩ := a'.split e
  rw [ha] at hx; cases hx
  obtain ⟨hb, p', hp', hm, hg⟩ := hq p h3' (fun q hq => (d q (by simp [hq])).1)
  obtain ⟨qb, hqb, rfl⟩ := List.mem_map.mp hb
  have dq := d qb (by simp [hqb])
  have hne : ∀ q ∈ pre ++ post, q.1 ≠ qb.1 := by
    intro q hq
    simp only [List.map_append, List.append_assoc] at nd
    rw [List.nodup_append] at nd
    obtain ⟨_, n2, n3⟩ := nd
    rw [List.nodup_append] at n2
    rcases List.mem_append.mp hq with h | h
    · exact n3 _ (List.mem_map_of_mem h) _ (List.mem_append_left _ (List.mem_map_of_mem hqb))
    · exact (n2.2.2 _ (List.mem_map_of_mem hqb) _ (List.mem_map_of_mem h)).symm
  have off : ∀ y, y ≠ qb.1 → ∀ ob, s.heap.get? y = some ob → s'.heap.get? y = some ob := fun y hy ob e => (hs.2 y hy).trans e
  refine ⟨R.base, fun y ob ey => off y (fun q => ?_) ob (R.keep y ob ey), ⟨pre ++ p' ++ post, h4 o' p' hp', ?_, fun q hq => ?_⟩, fun q hq => ⟨off _ (dq.2.2.2 q hq) _ (R.frz q hq).1, (R.frz q hq).2⟩,
    fun y hy => ⟨(R.off y hy).1, let ⟨o, e⟩ := (R.off y hy).2; ⟨o, off y (fun q => dq.2.2.1 (q ▸ hy)) o e⟩⟩, fun t ht => ?_, h1 ▸ R.os, h2 ▸ R.dr, h3 ▸ R.gens, R.kz⟩
  · rw [q, dq.2.1] at ey; cases ey
  · have : (pre ++ p' ++ post).map (·.1) = (pre ++ p ++ post).map (·.1) := by simp [hm]
    rw [this]; exact nd
  · have hq' : q ∈ p' ∨ q ∈ pre ++ post := by
      simp only [List.mem_append] at hq ⊢
      rcases hq with (h | h) | h
      · exact .inr (.inl h)
      · exact .inl h
      · exact .inr (.inr h)
    rcases hq' with h | h
    · have : q.1 ∈ p.map (·.1) := hm ▸ List.mem_map_of_mem h
      obtain ⟨r, hr, er⟩ := List.mem_map.mp this
      have dr := d r (by simp [hr])
      rw [er] at dr
      exact ⟨hg q h, dr.2⟩
    · have dd := d q (by rcases List.mem_append.mp h with h | h <;> simp [h])
      exact ⟨off _ (hne q h) _ dd.1, dd.2⟩
  · obtain ⟨ps, i1⟩ := R.tabs t ht
    have ht2 : t.2 ≠ qb.1 := fun q => dq.2.2.1 (List.mem_append_right _ (q ▸ List.mem_map_of_mem ht))
    have e1 : t.1 ≠ qb.1 := fun q => by
      obtain ⟨ob, eb⟩ := R.base.codes t ht
      rw [q, dq.2.1] at eb; cases eb
    exact ⟨ps, i1.1.extBut hs.extBut e1 ht2, i1.2.extBut hs.extBut e1 ht2⟩
/-- what is changed is the frame's own -/
theorem Rp.atX {c g X ρ z σ} {s s' : Shared} (R : Rp c g X ρ z σ s) {a : Addr} (ha : a ∈ X) (hk : a ∉ c.tk) (hs : Heap.SameBut a s.heap s'.heap) (he : ∃ o, s'.heap.get? a = some o)
    (h1 : s'.os = s.os := by rfl) (h2 : s'.drawn = s.drawn := by rfl) (h3 : s'.gens = s.gens := by rfl) : Rp c g X ρ z σ s' := by
  obtain ⟨led, a', b, d⟩ := R.own
  have hX : a ∈ X ++ c.tk := List.mem_append_left _ ha
  have ag := (R.off a hX).1
  refine ⟨R.base, fun x o e => (hs.2 x fun q => ?_).trans (R.keep x o e), ⟨led, a', b, fun p hp => ⟨(hs.2 p.1 fun q => (d p hp).2.2.1 (by rw [q]; exact hX)).trans (d p hp).1, (d p hp).2⟩⟩,
    fun q hq => ⟨(hs.2 q.1 fun e => (R.frz q hq).2 (by rw [e]; exact hX)).trans (R.frz q hq).1, (R.frz q hq).2⟩, fun x hx => ⟨(R.off x hx).1, ?_⟩, fun t ht => ?_, h1 ▸ R.os, h2 ▸ R.dr, h3 ▸ R.gens, R.kz⟩
  · rw [q, ag] at e; cases e
  · by_cases q : x = a
    · rw [q]; exact he
    · obtain ⟨o, e⟩ := (R.off x hx).2
      exact ⟨o, (hs.2 x q).trans e⟩
  · obtain ⟨ps, i1⟩ := R.tabs t ht
    have ht2 : t.2 ≠ a := fun q => hk (q ▸ List.mem_map_of_mem ht)
    have e1 : t.1 ≠ a := fun q => by
      obtain ⟨ob, eb⟩ := R.base.codes t ht
      rw [q, ag] at eb; cases eb
    exact ⟨ps, i1.1.extBut hs.extBut e1 ht2, i1.2.extBut hs.extBut e1 ht2⟩
end
section
open PySem PySem.W PyProof.Rows PySem.Calls

/-- from one state to a later one -/
structure Go (g : Heap) (ρ : List Addr) (z : Led) (s : Shared) (ρ' : List Addr) (z' : Led) (s' : Shared) : Prop extends Ext ρ z ρ' z' where
  dom : ∀ b o, s.heap.get? b = some o → ∃ o', s'.heap.get? b = some o'
  fr : ∀ p ∈ z', p ∈ z ∨ g.get? p.1 = none
theorem Go.refl (g : Heap) (ρ : List Addr) (z : Led) (s : Shared) : Go g ρ z s ρ z s := ⟨Ext.refl .., fun _ o h => ⟨o, h⟩, fun _ h => .inl h⟩
theorem Go.trans {g : Heap} {ρ ρ' ρ'' : List Addr} {z z' z'' : Led} {s s' s'' : Shared} (a : Go g ρ z s ρ' z' s') (b : Go g ρ' z' s' ρ'' z'' s'') : Go g ρ z s ρ'' z'' s'' :=
  ⟨a.toExt.trans b.toExt, fun x o h => let ⟨_, h'⟩ := a.dom x o h; b.dom x _ h', fun p h => (b.fr p h).elim (fun h => a.fr p h) .inr⟩
theorem Go.same (g : Heap) (ρ : List Addr) (z : Led) (s s' : Shared) (h : ∀ b o, s.heap.get? b = some o → s'.heap.get? b = some o) : Go g ρ z s ρ z s' := ⟨Ext.refl .., fun b o e => ⟨o, h b o e⟩, fun _ h => .inl h⟩
theorem Go.less {g g1 : Heap} {ρ ρ' : List Addr} {z z' : Led} {s s' : Shared} (a : Go g1 ρ z s ρ' z' s') (h : ∀ b o, g.get? b = some o → g1.get? b = some o) : Go g ρ z s ρ' z' s' :=
  ⟨a.toExt, a.dom, fun p hp => (a.fr p hp).imp id fun e => by
    cases q : g.get? p.1 with
    | none => rfl
    | some o => rw [h _ _ q] at e; cases e⟩

def NR (env : Env) (ρ : List Addr) (z : Led) (m : Str → Option Value) (p : Str × V) : Prop :=
  p.2 = .unb ∨ (∃ i a, p.2 = .cell i ∧ (env.kindOf p.1 = some .cell ∨ env.kindOf p.1 = some .free) ∧ env.cells.lookup p.1 = some a ∧ ρ[i]? = some a) ∨
  (env.kindOf p.1 = some .local ∧ ∃ w, m p.1 = some w ∧ VR z ρ p.2 w)
theorem NR.mono {env : Env} {ρ ρ' : List Addr} {z z' : Led} {m : Str → Option Value} {p : Str × V} (e : Ext ρ z ρ' z') : NR env ρ z m p → NR env ρ' z' m p
  | .inl h => .inl h
  | .inr (.inl ⟨i, a, h1, h2, h3, h4⟩) => .inr (.inl ⟨i, a, h1, h2, h3, e.r _ _ h4⟩)
  | .inr (.inr ⟨h1, w, h2, h3⟩) => .inr (.inr ⟨h1, w, h2, h3.mono e⟩)

structure Rep (c : Cx) (env : Env) (g : Heap) (ρ : List Addr) (z : Led) (σ : Hp) (l : Loc) (s : Shared) : Prop extends Rp c g [env.locals] ρ z σ s where
  ns : ∃ m, s.heap.Ns env.locals m ∧ ∀ p ∈ l, NR env ρ z m p
  nd : (l.map (·.1)).Nodup
  kind : env.scope.kind = .function
  glob : env.globals = mainGlobals
  bltn : env.builtins = builtinsNs
  lt : env.locals ∉ c.tk

theorem Rep.mk' {c : Cx} {env : Env} {g ρ ρ' z z' σ σ' l} {s s' : Shared} (R : Rep c env g ρ z σ l s) (P : Rp c g [env.locals] ρ' z' σ' s') (e : Ext ρ z ρ' z')
    (k : ∀ m, s.heap.Ns env.locals m → s'.heap.Ns env.locals m) : Rep c env g ρ' z' σ' l s' :=
  ⟨P, let ⟨m, a, b⟩ := R.ns; ⟨m, k m a, fun p hp => (b p hp).mono e⟩, R.nd, R.kind, R.glob, R.bltn, R.lt⟩
theorem Rep.grow {c : Cx} {env : Env} {g ρ z σ l} {s s' : Shared} (R : Rep c env g ρ z σ l s) (k : ∀ b o, s.heap.get? b = some o → s'.heap.get? b = some o)
    (h1 : s'.os = s.os := by rfl) (h2 : s'.drawn = s.drawn := by rfl) (h3 : s'.gens = s.gens := by rfl) : Rep c env g ρ z σ l s' :=
  R.mk' (R.toRp.grow k h1 h2 h3) (Ext.refl ..) fun _ h => h.keeps k
theorem Rep.toks {c : Cx} {env : Env} {g ρ z σ l} {s : Shared} (R : Rep c env g ρ z σ l s) (t : Nat) : Rep c env g ρ z σ l { s with toks := t } := R.grow (s' := { s with toks := t }) (fun _ _ e => e)
theorem Rep.junk {c : Cx} {env : Env} {g ρ z σ l} {s : Shared} (R : Rep c env g ρ z σ l s) (o : Obj) : Rep c env g ρ z σ l { s with heap := s.heap.push o } :=
  R.grow (s' := { s with heap := s.heap.push o }) (fun _ _ e => Heap.get?_push_of_some _ e)
theorem Rep.pushZ {c : Cx} {env : Env} {g ρ z σ l} {s : Shared} (R : Rep c env g ρ z σ l s) (o : Obj) (hf : o.isFreed = false := by rfl) : Rep c env g ρ ((s.heap.objs.size, o) :: z) σ l { s with heap := s.heap.push o } :=
  R.mk' (R.toRp.pushZ o hf) (Ext.cons ..) fun _ h => h.push o
theorem Go.push {g : Heap} {ρ : List Addr} {z : Led} {s : Shared} (k : ∀ b o, g.get? b = some o → s.heap.get? b = some o) (o : Obj) : Go g ρ z s ρ ((s.heap.objs.size, o) :: z) { s with heap := s.heap.push o } :=
  ⟨Ext.cons .., fun b o' e => ⟨o', Heap.get?_push_of_some _ e⟩, fun p h => by rcases List.mem_cons.mp h with rfl | h; exact .inr (fresh_base k (fresh_at (Nat.le_refl _))); exact .inl h⟩

/-- room -/
structure Ok (A : Around) (D : Nat) : Prop where
  h : A.handled = none
  d : A.depth + 3 * D + 3 < recursionLimit
  u : A.units + 20 * D + 20 < cLine
theorem Ok.less {A : Around} {D D' : Nat} (o : Ok A D) (h : D' ≤ D) : Ok A D' := ⟨o.h, by have := o.d; omega, by have := o.u; omega⟩

def EV (c : Cx) (env : Env) (D : Nat) (t : Sem Value) (l : Loc) (σ : Hp) (Q : V → Hp → Prop) : Prop :=
  ∀ (A : Around) (g : Heap) (ρ : List Addr) (z : Led) (s : Shared) (Q' E' : Value → Shared → Prop), Ok A D → Rep c env g ρ z σ l s →
    (∀ v w σ' ρ' z' s', Q v σ' → Rep c env g ρ' z' σ' l s' → Go g ρ z s ρ' z' s' → VR z' ρ' v w → Q' w s') → wpAny c.M A t Q' E' s
/-- of a tree that takes values that were reckoned before -/
def EVW (c : Cx) (env : Env) (D : Nat) (vs : List V) (t : List Value → Sem Value) (l : Loc) (σ : Hp) (Q : V → Hp → Prop) : Prop :=
  ∀ (A : Around) (g : Heap) (ρ : List Addr) (z : Led) (s : Shared) (Q' E' : Value → Shared → Prop) (ws : List Value), Ok A D → Rep c env g ρ z σ l s → VRL z ρ vs ws →
    (∀ v w σ' ρ' z' s', Q v σ' → Rep c env g ρ' z' σ' l s' → Go g ρ z s ρ' z' s' → VR z' ρ' v w → Q' w s') → wpAny c.M A (t ws) Q' E' s
/-- truth -/
def EB (c : Cx) (env : Env) (D : Nat) (t : Sem Bool) (l : Loc) (σ : Hp) (Q : Bool → Hp → Prop) : Prop :=
  ∀ (A : Around) (g : Heap) (ρ : List Addr) (z : Led) (s : Shared) (Q' : Bool → Shared → Prop) (E' : Value → Shared → Prop), Ok A D → Rep c env g ρ z σ l s →
    (∀ b σ' ρ' z' s', Q b σ' → Rep c env g ρ' z' σ' l s' → Go g ρ z s ρ' z' s' → Q' b s') → wpAny c.M A t Q' E' s
/-- a call, of values -/
def FN (c : Cx) (D : Nat) (f : V) (args : List V) (kw : List (Str × V)) (σ : Hp) (Q : V → Hp → Prop) : Prop :=
  ∀ (A : Around) (g : Heap) (ρ : List Addr) (z : Led) (s : Shared) (Q' E' : Value → Shared → Prop) (wf : Value) (ws kws : List Value), Ok A D → Rp c g [] ρ z σ s → VR z ρ f wf → VRL z ρ args ws → VRL z ρ (kw.map (·.2)) kws →
    (∀ v w σ' ρ' z' s', Q v σ' → Rp c g [] ρ' z' σ' s' → Go g ρ z s ρ' z' s' → VR z' ρ' v w → Q' w s') → wpAny c.M A (call wf ws ((kw.map (·.1)).zip kws)) Q' E' s
/-- a call, of values, whose def raises nothing, as the machine's own step -/
def FC (c : Cx) (D : Nat) (f : V) (args : List V) (kw : List (Str × V)) (σ : Hp) (Q : V → Hp → Prop) : Prop :=
  ∀ (A : Around) (g : Heap) (ρ : List Addr) (z : Led) (s : Shared) (R : Result → Shared → Prop) (wf : Value) (ws kws : List Value), Ok A D → Rp c g [] ρ z σ s → VR z ρ f wf → VRL z ρ args ws → VRL z ρ (kw.map (·.2)) kws →
    (∀ v w σ' ρ' z' s', Q v σ' → Rp c g [] ρ' z' σ' s' → Go g ρ z s ρ' z' s' → VR z' ρ' v w → R (.ok (.ret w)) s') → codeAny c.M A (.call wf ⟨ws, (kw.map (·.1)).zip kws⟩) R s
theorem FC.fn {c : Cx} {D : Nat} {f : V} {args : List V} {kw : List (Str × V)} {σ : Hp} {Q : V → Hp → Prop} (h : FC c D f args kw σ Q) : FN c D f args kw σ Q :=
  fun A g ρ z s Q' E' wf ws kws ok R r1 r2 r3 q => wpAny_call (h A g ρ z s _ wf ws kws ok R r1 r2 r3 fun v w σ' ρ' z' s' hq R' G' r' => q v w σ' ρ' z' s' hq R' G' r')
theorem FC.mono {c : Cx} {D : Nat} {f : V} {args : List V} {kw : List (Str × V)} {σ : Hp} {Q Q' : V → Hp → Prop} (h : FC c D f args kw σ Q) (k : ∀ v σ', Q v σ' → Q' v σ') : FC c D f args kw σ Q' :=
  fun A g ρ z s R₁ wf ws kws ok R h1 h2 h3 q => h A g ρ z s R₁ wf ws kws ok R h1 h2 h3 fun v w σ' ρ' z' s' hq => q v w σ' ρ' z' s' (k _ _ hq)
theorem FC.less {c : Cx} {D D' : Nat} {f : V} {args : List V} {kw : List (Str × V)} {σ : Hp} {Q : V → Hp → Prop} (h : FC c D' f args kw σ Q) (k : D' ≤ D) : FC c D f args kw σ Q :=
  fun A g ρ z s R₁ wf ws kws ok R h1 h2 h3 q => h A g ρ z s R₁ wf ws kws (ok.less k) R h1 h2 h3 q
inductive Fl where
  | next | brk | cont | ret (v : V)
inductive FR (z : Led) (ρ : List Addr) : Fl → Flow → Prop
  | next : FR z ρ .next .next
  | brk : FR z ρ .brk .brk
  | cont : FR z ρ .cont .cont
  | ret {v w} : VR z ρ v w → FR z ρ (.ret v) (.ret w)
/-- statements -/
def EX (c : Cx) (env : Env) (D : Nat) (t : Sem Flow) (l : Loc) (σ : Hp) (Q : Fl → Loc → Hp → Prop) : Prop :=
  ∀ (A : Around) (g : Heap) (ρ : List Addr) (z : Led) (s : Shared) (Q' : Flow → Shared → Prop) (E' : Value → Shared → Prop), Ok A D → Rep c env g ρ z σ l s →
    (∀ f fw l' σ' ρ' z' s', Q f l' σ' → Rep c env g ρ' z' σ' l' s' → Go g ρ z s ρ' z' s' → FR z' ρ' f fw → Q' fw s') → wpAny c.M A t Q' E' s

section
variable {c : Cx} {env : Env} {D : Nat} {l : Loc} {σ : Hp}
theorem EV.mono {t : Sem Value} {Q Q' : V → Hp → Prop} (h : EV c env D t l σ Q) (k : ∀ v σ', Q v σ' → Q' v σ') : EV c env D t l σ Q' :=
  fun A g ρ z s Q₁ E₁ ok R q => h A g ρ z s Q₁ E₁ ok R fun v w σ' ρ' z' s' hq => q v w σ' ρ' z' s' (k _ _ hq)
theorem EB.mono {t : Sem Bool} {Q Q' : Bool → Hp → Prop} (h : EB c env D t l σ Q) (k : ∀ v σ', Q v σ' → Q' v σ') : EB c env D t l σ Q' :=
  fun A g ρ z s Q₁ E₁ ok R q => h A g ρ z s Q₁ E₁ ok R fun v σ' ρ' z' s' hq => q v σ' ρ' z' s' (k _ _ hq)
theorem FN.mono {f : V} {args : List V} {kw : List (Str × V)} {Q Q' : V → Hp → Prop} (h : FN c D f args kw σ Q) (k : ∀ v σ', Q v σ' → Q' v σ') : FN c D f args kw σ Q' :=
  fun A g ρ z s Q₁ E₁ wf ws kws ok R h1 h2 h3 q => h A g ρ z s Q₁ E₁ wf ws kws ok R h1 h2 h3 fun v w σ' ρ' z' s' hq => q v w σ' ρ' z' s' (k _ _ hq)
theorem EX.mono {t : Sem Flow} {Q Q' : Fl → Loc → Hp → Prop} (h : EX c env D t l σ Q) (k : ∀ f l' σ', Q f l' σ' → Q' f l' σ') : EX c env D t l σ Q' :=
  fun A g ρ z s Q₁ E₁ ok R q => h A g ρ z s Q₁ E₁ ok R fun f fw l' σ' ρ' z' s' hq => q f fw l' σ' ρ' z' s' (k _ _ _ hq)
theorem FN.less {f : V} {args : List V} {kw : List (Str × V)} {Q : V → Hp → Prop} {D' : Nat} (h : FN c D' f args kw σ Q) (k : D' ≤ D) : FN c D f args kw σ Q :=
  fun A g ρ z s Q₁ E₁ wf ws kws ok R h1 h2 h3 q => h A g ρ z s Q₁ E₁ wf ws kws (ok.less k) R h1 h2 h3 q
theorem EV.eq {t t' : Sem Value} {Q : V → Hp → Prop} (h : EV c env D t' l σ Q) (e : t = t') : EV c env D t l σ Q := e ▸ h
end

/-- a call leaves its caller's frame as it was -/
theorem Rep.out {c : Cx} {env : Env} {g ρ z σ l} {s : Shared} (R : Rep c env g ρ z σ l s) :
    ∃ g1, Rp c g1 [] ρ z σ s ∧ ∀ ρ' z' σ' s', Rp c g1 [] ρ' z' σ' s' → Go g1 ρ z s ρ' z' s' → Rep c env g ρ' z' σ' l s' ∧ Go g ρ z s ρ' z' s' := by
  obtain ⟨led, a, b, d⟩ := R.own
  let hid := c.tk ++ led.map (·.1)
  have up : ∀ x o, g.get? x = some o → (hideAll s.heap hid).get? x = some o := fun x o e => hideAll_get _ (R.keep x o e) fun q => by
    rcases List.mem_append.mp q with q | q
    · rw [(R.off x (List.mem_append_right _ q)).1] at e; cases e
    · obtain ⟨p, hp, rfl⟩ := List.mem_map.mp q
      rw [(d p hp).2.1] at e; cases e
  obtain ⟨m, hm, hl⟩ := R.ns
  have nL : env.locals ∉ hid := fun q => by
    rcases List.mem_append.mp q with q | q
    · exact R.lt q
    · obtain ⟨p, hp, e⟩ := List.mem_map.mp q
      exact (d p hp).2.2.1 (by rw [e]; simp)
  have hmL : (hideAll s.heap hid).Ns env.locals m := by
    obtain ⟨o, es, ep, e, r⟩ := hm
    exact ⟨o, es, ep, hideAll_get _ e nL, r⟩
  refine ⟨hideAll s.heap hid, ⟨R.base.keeps up, fun x o e => of_hideAll _ e, ⟨led, a, b, fun p hp => ⟨(d p hp).1, hideAll_none _ (List.mem_append_right _ (List.mem_map_of_mem hp)), fun q => (d p hp).2.2.1 (by simp at q; simp [q]), (d p hp).2.2.2⟩⟩,
    fun q hq => ⟨(R.frz q hq).1, fun h => (R.frz q hq).2 (by simp at h; simp [h])⟩, fun x hx => ⟨hideAll_none _ (List.mem_append_left _ (by simpa using hx)), (R.off x (List.mem_append_right _ (by simpa using hx))).2⟩, R.tabs, R.os, R.dr, R.gens, R.kz⟩, ?_⟩
  intro ρ' z' σ' s' R' G
  obtain ⟨led', a', b', d'⟩ := R'.own
  have offL : ∀ x, (hideAll s.heap hid).get? x = none → x ≠ env.locals := fun x e q => by
    obtain ⟨o, _, _, e', _⟩ := hmL
    rw [q, e'] at e; cases e
  have down : ∀ x, (hideAll s.heap hid).get? x = none → g.get? x = none := fun x e => by
    cases q : g.get? x with
    | none => rfl
    | some o => rw [up x o q] at e; cases e
  refine ⟨?_, G.less up⟩
  refine ⟨⟨R.base, fun x o e => R'.keep x o (up x o e), ⟨led', a', b', fun p hp => ⟨(d' p hp).1, down _ (d' p hp).2.1, fun q => ?_, (d' p hp).2.2.2⟩⟩, fun q hq => ⟨(R'.frz q hq).1, fun h => ?_⟩, fun x hx => ⟨(R.off x hx).1, let ⟨o, e⟩ := (R.off x hx).2; G.dom _ _ e⟩,
    R'.tabs, R'.os, R'.dr, R'.gens, R'.kz⟩, ⟨m, hmL.keeps R'.keep, fun p hp => (hl p hp).mono G.toExt⟩, R.nd, R.kind, R.glob, R.bltn, R.lt⟩
  · rcases List.mem_append.mp q with q | q
    · exact offL _ (d' p hp).2.1 (by simpa using q)
    · exact (d' p hp).2.2.1 (by simpa using q)
  · rcases List.mem_append.mp h with h | h
    · have e : q.1 = env.locals := by simpa using h
      rcases G.fr q hq with hz | hz
      · exact (R.frz q hz).2 (by rw [e]; simp)
      · exact offL _ hz e
    · exact (R'.frz q hq).2 (by simpa using h)
end
section
open PySem PySem.W PyProof.Rows PySem.Calls

def EV1 (c : Cx) (env : Env) (D : Nat) (v : V) (f : Value → Sem Value) (l : Loc) (σ : Hp) (Q : V → Hp → Prop) : Prop :=
  ∀ (A : Around) (g : Heap) (ρ : List Addr) (z : Led) (s : Shared) (Q' E' : Value → Shared → Prop) (w : Value), Ok A D → Rep c env g ρ z σ l s → VR z ρ v w →
    (∀ v w σ' ρ' z' s', Q v σ' → Rep c env g ρ' z' σ' l s' → Go g ρ z s ρ' z' s' → VR z' ρ' v w → Q' w s') → wpAny c.M A (f w) Q' E' s
def EV2 (c : Cx) (env : Env) (D : Nat) (v₁ v₂ : V) (f : Value → Value → Sem Value) (l : Loc) (σ : Hp) (Q : V → Hp → Prop) : Prop :=
  ∀ (A : Around) (g : Heap) (ρ : List Addr) (z : Led) (s : Shared) (Q' E' : Value → Shared → Prop) (w₁ w₂ : Value), Ok A D → Rep c env g ρ z σ l s → VR z ρ v₁ w₁ → VR z ρ v₂ w₂ →
    (∀ v w σ' ρ' z' s', Q v σ' → Rep c env g ρ' z' σ' l s' → Go g ρ z s ρ' z' s' → VR z' ρ' v w → Q' w s') → wpAny c.M A (f w₁ w₂) Q' E' s
/-- truth of a value -/
def ET (c : Cx) (env : Env) (D : Nat) (v : V) (l : Loc) (σ : Hp) (Q : Bool → Hp → Prop) : Prop :=
  ∀ (A : Around) (g : Heap) (ρ : List Addr) (z : Led) (s : Shared) (Q' : Bool → Shared → Prop) (E' : Value → Shared → Prop) (w : Value), Ok A D → Rep c env g ρ z σ l s → VR z ρ v w →
    (∀ b σ' ρ' z' s', Q b σ' → Rep c env g ρ' z' σ' l s' → Go g ρ z s ρ' z' s' → Q' b s') → wpAny c.M A (truthy w) Q' E' s
/-- a doing with three values that gives nothing back -/
def EU3 (c : Cx) (env : Env) (D : Nat) (v₁ v₂ v₃ : V) (f : Value → Value → Value → Sem Unit) (l : Loc) (σ : Hp) (Q : Hp → Prop) : Prop :=
  ∀ (A : Around) (g : Heap) (ρ : List Addr) (z : Led) (s : Shared) (Q' : Unit → Shared → Prop) (E' : Value → Shared → Prop) (w₁ w₂ w₃ : Value), Ok A D → Rep c env g ρ z σ l s → VR z ρ v₁ w₁ → VR z ρ v₂ w₂ → VR z ρ v₃ w₃ →
    (∀ σ' ρ' z' s', Q σ' → Rep c env g ρ' z' σ' l s' → Go g ρ z s ρ' z' s' → Q' () s') → wpAny c.M A (f w₁ w₂ w₃) Q' E' s

theorem Go.toks (g : Heap) (ρ : List Addr) (z : Led) (s : Shared) (t : Nat) : Go g ρ z s ρ z { s with toks := t } := Go.same _ _ _ _ _ (fun _ _ e => e)

section
variable {c : Cx} {env : Env} {D : Nat} {l : Loc} {σ : Hp} {Q : V → Hp → Prop} {QB : Bool → Hp → Prop}

-- NAMES AND CONSTANTS
def V.plain : V → Bool
  | .unb => false
  | .cell _ => false
  | _ => true
theorem ev_name {x : Str} {pos : Pos} {v : V} (hm : (x, v) ∈ l) (hp : v.plain = true) (h : Q v σ) (hd : (x == ("__debug__" : Str)) = false := by decide +kernel) : EV c env D (eval (.Name x pos) env) l σ Q := by
  intro A g ρ z s Q' E' ok R q
  obtain ⟨m, hn, hl⟩ := R.ns
  rcases hl _ hm with h1 | ⟨i, a, h1, _⟩ | ⟨h1, w, h2, h3⟩
  · simp only at h1; subst h1; cases hp
  · simp only at h1; subst h1; cases hp
  · exact wpAny_Name (wpAny_loadName_local R.kind h1 hn h2 (q _ _ _ _ _ _ h R (Go.refl ..) h3)) hd
theorem ev_cell {x : Str} {pos : Pos} {v : V} {i : Nat} (hm : (x, .cell i) ∈ l) (hi : σ[i]? = some (.cell v)) (hp : v.plain = true) (h : Q v σ) (hd : (x == ("__debug__" : Str)) = false := by decide +kernel)
    (hc : (x == ("__classdict__" : Str)) = false := by decide +kernel) : EV c env D (eval (.Name x pos) env) l σ Q := by
  intro A g ρ z s Q' E' ok R q
  obtain ⟨m, hn, hl⟩ := R.ns
  rcases hl _ hm with h1 | ⟨i', a, h1, h2, h3, h4⟩ | ⟨h1, w, h2, h3⟩
  · cases h1
  · cases h1
    obtain ⟨a', p, ha, hp', hh⟩ := R.toRp.at hi
    rw [h4] at ha; cases ha
    cases hp' with
    | cell hv ho =>
      rename_i w o
      have hcell : s.heap.IsCell a (some w) := ⟨o, (hh _ (.head _)).1, ho⟩
      rcases h2 with h2 | h2
      · exact wpAny_Name (wpAny_loadName_cell R.kind h2 h3 hcell (q _ _ _ _ _ _ h R (Go.refl ..) hv)) hd
      · exact wpAny_Name (wpAny_loadName_free R.kind h2 h3 hcell (q _ _ _ _ _ _ h R (Go.refl ..) hv) hc) hd
    | cell0 ho => cases hp
  · cases h3
def absV : Value → V
  | .none => .none
  | .bool b => .bool b
  | .int i _ => .int i
  | .bytes b _ => .bytes b.toList
  | .str s _ => .str s
  | v => .val v
theorem absV_is (z : Led) (ρ : List Addr) (v : Value) : VR z ρ (absV v) v := by
  cases v <;> first | exact .none | exact .bool _ | exact .int _ _ | exact .str _ _ | exact .val _ | skip
  rename_i b t
  have := VR.bytes (z := z) (ρ := ρ) b.toList t
  simpa [absV] using this
theorem ev_glob {x : Str} {pos : Pos} {v : Value} (e : nsIn c.K mainGlobals x = some (some v)) (h : Q (absV v) σ) (hx : env.kindOf x = some .globalImplicit := by (subst_vars; kernel_rfl)) (hd : (x == ("__debug__" : Str)) = false := by decide +kernel) :
    EV c env D (eval (.Name x pos) env) l σ Q := by
  intro A g ρ z s Q' E' ok R q
  exact Name_function_global R.kind hx (loadGlobal_global (by rw [R.glob]; exact R.base.gl.keeps R.keep) (mg_of R.base.X R.base.gl e) (q _ _ _ _ _ _ h R (Go.refl ..) (absV_is ..))) hd
theorem ev_bltn {x : Str} {pos : Pos} {v : Value} (e : nsIn c.K mainGlobals x = some none) (hv : bootBuiltins x = some v) (h : Q (absV v) σ) (hx : env.kindOf x = some .globalImplicit := by (subst_vars; kernel_rfl))
    (hn : x ≠ "__name__" := by decide +kernel) (hd : (x == ("__debug__" : Str)) = false := by decide +kernel) :
    EV c env D (eval (.Name x pos) env) l σ Q := by
  intro A g ρ z s Q' E' ok R q
  exact Name_function_global R.kind hx (loadGlobal_builtin (by rw [R.glob]; exact R.base.gl.keeps R.keep) (mg_none_of R.base.X R.base.gl e) (by rw [R.bltn]; exact R.base.bl.keeps R.keep) ((R.base.builtins x hn).trans hv) (q _ _ _ _ _ _ h R (Go.refl ..) (absV_is ..))) hd
theorem ev_int {i : Int} {k : Nat} {pos : Pos} (h : Q (.int i) σ) : EV c env D (eval (.Constant (.int i) k pos) env) l σ Q :=
  fun _ _ _ _ s _ _ _ R q => wpAny_Constant_int (q _ _ _ _ _ _ h (R.toks _) (Go.toks ..) (.int _ _))
theorem ev_none {k : Nat} {pos : Pos} (h : Q .none σ) : EV c env D (eval (.Constant .none k pos) env) l σ Q :=
  fun _ _ _ _ s _ _ _ R q => wpAny_Constant_none (q _ _ _ _ _ _ h R (Go.refl ..) .none)
theorem ev_bool {b : Bool} {k : Nat} {pos : Pos} (h : Q (.bool b) σ) : EV c env D (eval (.Constant (.bool b) k pos) env) l σ Q :=
  fun _ _ _ _ s _ _ _ R q => wpAny_Constant_bool (q _ _ _ _ _ _ h R (Go.refl ..) (.bool _))
theorem ev_str {x : Str} {k : Nat} {pos : Pos} (h : Q (.str x) σ) : EV c env D (eval (.Constant (.str x) k pos) env) l σ Q :=
  fun _ _ _ _ s _ _ _ R q => wpAny_Constant_str (q _ _ _ _ _ _ h (R.toks _) (Go.toks ..) (.str _ _))
theorem ev_bytes {b : List UInt8} {k : Nat} {pos : Pos} (h : Q (.bytes b) σ) : EV c env D (eval (.Constant (.bytes b) k pos) env) l σ Q :=
  fun _ _ _ _ s Q' E' _ R q => (show wpAny c.M _ (mkTextBytes b.toArray) Q' E' s from fun Γ p hΓ => q _ _ _ _ _ _ h (R.toks (s.toks + 1)) (Go.toks ..) (.bytes b s.toks))

-- OPERATORS
theorem ev_bin {a b : Expr} {op : Operator} {pos : Pos} (h : EV c env D (eval a env) l σ fun va σ₁ => EV c env D (eval b env) l σ₁ fun vb σ₂ => EV2 c env D va vb (binaryOp op) l σ₂ Q) : EV c env D (eval (.BinOp a op b pos) env) l σ Q := by
  intro A g ρ z s Q' E' ok R q
  refine wpAny_BinOp (h A g ρ z s _ _ ok R fun va wa σ1 ρ1 z1 s1 h1 R1 G1 r1 => ?_)
  refine h1 A g ρ1 z1 s1 _ _ ok R1 fun vb wb σ2 ρ2 z2 s2 h2 R2 G2 r2 => ?_
  exact h2 A g ρ2 z2 s2 _ _ _ _ ok R2 (r1.mono G2.toExt) r2 fun v w σ' ρ' z' s' hq R' G' r' => q v w σ' ρ' z' s' hq R' ((G1.trans G2).trans G') r'
theorem ev_cmp {a b : Expr} {op : CmpOp} {pos : Pos} (h : EV c env D (eval a env) l σ fun va σ₁ => EV c env D (eval b env) l σ₁ fun vb σ₂ => EV2 c env D va vb (compareOp op) l σ₂ Q) (hm : behindInMarks op b = false := by with_unfolding_all rfl) :
    EV c env D (eval (.Compare a [op] [b] pos) env) l σ Q := by
  intro A g ρ z s Q' E' ok R q
  refine wpAny_Compare1 (h A g ρ z s _ _ ok R fun va wa σ1 ρ1 z1 s1 h1 R1 G1 r1 => ?_) hm
  refine h1 A g ρ1 z1 s1 _ _ ok R1 fun vb wb σ2 ρ2 z2 s2 h2 R2 G2 r2 => ?_
  exact h2 A g ρ2 z2 s2 _ _ _ _ ok R2 (r1.mono G2.toExt) r2 fun v w σ' ρ' z' s' hq R' G' r' => q v w σ' ρ' z' s' hq R' ((G1.trans G2).trans G') r'
theorem ev_not {x : Expr} {pos : Pos} (h : EV c env D (eval x env) l σ fun v σ₁ => ET c env D v l σ₁ fun b σ₂ => Q (.bool (!b)) σ₂) : EV c env D (eval (.UnaryOp .Not x pos) env) l σ Q := by
  intro A g ρ z s Q' E' ok R q
  refine UnaryOp_ (h A g ρ z s _ _ ok R fun va wa σ1 ρ1 z1 s1 h1 R1 G1 r1 => ?_)
  exact not_of (h1 A g ρ1 z1 s1 _ _ _ ok R1 r1 fun b σ2 ρ2 z2 s2 h2 R2 G2 => q _ _ _ _ _ _ h2 R2 (G1.trans G2) (.bool _))
theorem ev_if {t a b : Expr} {pos : Pos} (h : EB c env D (isTrue t env (eval t env)) l σ fun r σ₁ => (r = true → EV c env D (eval a env) l σ₁ Q) ∧ (r = false → EV c env D (eval b env) l σ₁ Q)) : EV c env D (eval (.IfExp t a b pos) env) l σ Q := by
  intro A g ρ z s Q' E' ok R q
  refine IfExp_ (h A g ρ z s _ _ ok R fun r σ1 ρ1 z1 s1 h1 R1 G1 => ?_)
  cases r with
  | true => exact h1.1 rfl A g ρ1 z1 s1 _ _ ok R1 fun v w σ' ρ' z' s' hq R' G' r' => q v w σ' ρ' z' s' hq R' (G1.trans G') r'
  | false => exact h1.2 rfl A g ρ1 z1 s1 _ _ ok R1 fun v w σ' ρ' z' s' hq R' G' r' => q v w σ' ρ' z' s' hq R' (G1.trans G') r'
theorem ev_and {a b : Expr} {rest : List Expr} {pos : Pos} (h : EV c env D (eval a env) l σ fun v σ₁ => ET c env D v l σ₁ fun r σ₂ => (r = true → EV c env D (eval (.BoolOp .And (b :: rest) pos) env) l σ₂ Q) ∧ (r = false → Q v σ₂)) :
    EV c env D (eval (.BoolOp .And (a :: b :: rest) pos) env) l σ Q := by
  intro A g ρ z s Q' E' ok R q
  refine BoolOp_and (h A g ρ z s _ _ ok R fun va wa σ1 ρ1 z1 s1 h1 R1 G1 r1 => ?_)
  refine h1 A g ρ1 z1 s1 _ _ _ ok R1 r1 fun r σ2 ρ2 z2 s2 h2 R2 G2 => ?_
  cases r with
  | true => exact h2.1 rfl A g ρ2 z2 s2 _ _ ok R2 fun v w σ' ρ' z' s' hq R' G' r' => q v w σ' ρ' z' s' hq R' ((G1.trans G2).trans G') r'
  | false => exact q _ _ _ _ _ _ (h2.2 rfl) R2 (G1.trans G2) (r1.mono G2.toExt)
theorem ev_or {a b : Expr} {rest : List Expr} {pos : Pos} (h : EV c env D (eval a env) l σ fun v σ₁ => ET c env D v l σ₁ fun r σ₂ => (r = false → EV c env D (eval (.BoolOp .Or (b :: rest) pos) env) l σ₂ Q) ∧ (r = true → Q v σ₂)) :
    EV c env D (eval (.BoolOp .Or (a :: b :: rest) pos) env) l σ Q := by
  intro A g ρ z s Q' E' ok R q
  refine BoolOp_or (h A g ρ z s _ _ ok R fun va wa σ1 ρ1 z1 s1 h1 R1 G1 r1 => ?_)
  refine h1 A g ρ1 z1 s1 _ _ _ ok R1 r1 fun r σ2 ρ2 z2 s2 h2 R2 G2 => ?_
  cases r with
  | false => exact h2.1 rfl A g ρ2 z2 s2 _ _ ok R2 fun v w σ' ρ' z' s' hq R' G' r' => q v w σ' ρ' z' s' hq R' ((G1.trans G2).trans G') r'
  | true => exact q _ _ _ _ _ _ (h2.2 rfl) R2 (G1.trans G2) (r1.mono G2.toExt)
theorem ev_bool1 {a : Expr} {op : BoolOp} {pos : Pos} (h : EV c env D (eval a env) l σ Q) : EV c env D (eval (.BoolOp op [a] pos) env) l σ Q := h

-- ints
theorem ev2_int {f : Value → Value → Sem Value} {a b r : Int} (hf : ∀ (A : Around) (s : Shared) (Q' E' : Value → Shared → Prop) (t u : Tok), Q' (.int r s.toks) { s with toks := s.toks + 1 } → wpAny c.M A (f (.int a t) (.int b u)) Q' E' s) (h : Q (.int r) σ) :
    EV2 c env D (.int a) (.int b) f l σ Q := by
  intro A g ρ z s Q' E' w₁ w₂ ok R r₁ r₂ q
  cases r₁; cases r₂
  exact hf _ _ _ _ _ _ (q _ _ _ _ _ _ h (R.toks _) (Go.toks ..) (.int _ _))
theorem ev2_cmp {f : Value → Value → Sem Value} {a b : Int} {r : Bool} (hf : ∀ (A : Around) (s : Shared) (Q' E' : Value → Shared → Prop) (t u : Tok), Q' (.bool r) s → wpAny c.M A (f (.int a t) (.int b u)) Q' E' s) (h : Q (.bool r) σ) :
    EV2 c env D (.int a) (.int b) f l σ Q := by
  intro A g ρ z s Q' E' w₁ w₂ ok R r₁ r₂ q
  cases r₁; cases r₂
  exact hf _ _ _ _ _ _ (q _ _ _ _ _ _ h R (Go.refl ..) (.bool _))
variable {a b : Int}
theorem ev_add (h : Q (.int (a + b)) σ) : EV2 c env D (.int a) (.int b) (binaryOp .Add) l σ Q := ev2_int (fun _ _ _ _ _ _ h => PyProof.Rows.add_int h) h
theorem ev_sub (h : Q (.int (a - b)) σ) : EV2 c env D (.int a) (.int b) (binaryOp .Sub) l σ Q := ev2_int (fun _ _ _ _ _ _ h => PyProof.Rows.sub_int' h) h
theorem ev_mul (hm : IntMulOk a b) (h : Q (.int (a * b)) σ) : EV2 c env D (.int a) (.int b) (binaryOp .Mult) l σ Q := ev2_int (fun _ _ _ _ _ _ h => PyProof.Rows.mul_int h hm) h
theorem ev_fdiv (hb : b ≠ 0) (hp : Builtin.divisionGoesByPylong a b = false) (h : Q (.int (a.fdiv b)) σ) : EV2 c env D (.int a) (.int b) (binaryOp .FloorDiv) l σ Q := ev2_int (fun _ _ _ _ _ _ h => PyProof.Rows.floordiv_int hb h (.inl hp)) h
theorem ev_fmod (hb : b ≠ 0) (h : Q (.int (a.fmod b)) σ) : EV2 c env D (.int a) (.int b) (binaryOp .Mod) l σ Q := ev2_int (fun _ _ _ _ _ _ h => PyProof.Rows.mod_int' hb h) h
theorem ev_band (h : Q (.int (Builtin.bitAnd a b)) σ) : EV2 c env D (.int a) (.int b) (binaryOp .BitAnd) l σ Q := ev2_int (fun _ _ _ _ _ _ h => PyProof.Rows.and_int h) h
theorem ev_bor (h : Q (.int (Builtin.bitOr a b)) σ) : EV2 c env D (.int a) (.int b) (binaryOp .BitOr) l σ Q := ev2_int (fun _ _ _ _ _ _ h => PyProof.Rows.or_int h) h
theorem ev_bxor (h : Q (.int (Builtin.bitXor a b)) σ) : EV2 c env D (.int a) (.int b) (binaryOp .BitXor) l σ Q := ev2_int (fun _ _ _ _ _ _ h => PyProof.Rows.xor_int h) h
theorem ev_shr (hb : 0 ≤ b) (h : Q (.int (a.fdiv (2 ^ b.toNat))) σ) : EV2 c env D (.int a) (.int b) (binaryOp .RShift) l σ Q := ev2_int (fun _ _ _ _ _ _ h => PyProof.Rows.rshift_int hb h) h
theorem ev_shl (hb : 0 ≤ b) (hb2 : b ≤ 1000000) (ha : a.natAbs < 2 ^ 64) (h : Q (.int (a * 2 ^ b.toNat)) σ) : EV2 c env D (.int a) (.int b) (binaryOp .LShift) l σ Q := ev2_int (fun _ _ _ _ _ _ h => PyProof.Rows.lshift_int_small hb hb2 ha h) h
theorem ev_pow (hb : 0 ≤ b) (hb2 : b ≤ 1000000) (ha : a.natAbs < 2 ^ 64) (h : Q (.int (a ^ b.toNat)) σ) : EV2 c env D (.int a) (.int b) (binaryOp .Pow) l σ Q := ev2_int (fun _ _ _ _ _ _ h => PyProof.Rows.pow_int_small hb hb2 ha h) h
theorem ev_lt (h : Q (.bool (decide (a < b))) σ) : EV2 c env D (.int a) (.int b) (compareOp .Lt) l σ Q := ev2_cmp (fun _ _ _ _ _ _ h => PyProof.Rows.lt_int h) h
theorem ev_le (h : Q (.bool (decide (a ≤ b))) σ) : EV2 c env D (.int a) (.int b) (compareOp .LtE) l σ Q := ev2_cmp (fun _ _ _ _ _ _ h => P.le_int h) h
theorem ev_gt (h : Q (.bool (decide (b < a))) σ) : EV2 c env D (.int a) (.int b) (compareOp .Gt) l σ Q := ev2_cmp (fun _ _ _ _ _ _ h => PyProof.Rows.gt_int h) h
theorem ev_ge (h : Q (.bool (decide (a ≥ b))) σ) : EV2 c env D (.int a) (.int b) (compareOp .GtE) l σ Q := ev2_cmp (fun _ _ _ _ _ _ h => P.ge_int h) h
theorem ev_eq (h : Q (.bool (a == b)) σ) : EV2 c env D (.int a) (.int b) (compareOp .Eq) l σ Q := ev2_cmp (fun _ _ _ _ _ _ h => PyProof.Rows.eq_int h) h
theorem ev_ne (h : Q (.bool (a != b)) σ) : EV2 c env D (.int a) (.int b) (compareOp .NotEq) l σ Q := ev2_cmp (fun _ _ _ _ _ _ h => PyProof.Rows.ne_int h) h

-- TRUTH
theorem et_bool {b : Bool} (h : QB b σ) : ET c env D (.bool b) l σ QB := fun _ _ _ _ _ _ _ _ _ R r q => by cases r; exact wpAny_truthy_bool (q _ _ _ _ _ h R (Go.refl ..))
theorem et_int (h : QB (a != 0) σ) : ET c env D (.int a) l σ QB := fun _ _ _ _ _ _ _ _ _ R r q => by cases r; exact PyProof.Rows.truthy_int (q _ _ _ _ _ h R (Go.refl ..))
theorem et_none (h : QB false σ) : ET c env D .none l σ QB := fun _ _ _ _ _ _ _ _ _ R r q => by cases r; exact PyProof.Rows.truthy_none (q _ _ _ _ _ h R (Go.refl ..))

-- CONDITIONS
theorem eb_plain {e : Expr} (h : EV c env D (eval e env) l σ fun v σ₁ => ET c env D v l σ₁ QB) (hs : isTrue e env (eval e env) = (do let v ← eval e env; standAt e.pos; holding [v] (truthy v)) := by rfl) : EB c env D (isTrue e env (eval e env)) l σ QB := by
  intro A g ρ z s Q' E' ok R q
  refine isTrue_plain (h A g ρ z s _ _ ok R fun va wa σ1 ρ1 z1 s1 h1 R1 G1 r1 => ?_) hs
  exact h1 A g ρ1 z1 s1 _ _ _ ok R1 r1 fun b σ2 ρ2 z2 s2 h2 R2 G2 => q _ _ _ _ _ h2 R2 (G1.trans G2)
theorem eb_cmp {a b : Expr} {op : CmpOp} {pos : Pos} {whole : Sem Value} (h : EV c env D (eval a env) l σ fun va σ₁ => EV c env D (eval b env) l σ₁ fun vb σ₂ => EV2 c env D va vb (compareOp op) l σ₂ fun v σ₃ => ET c env D v l σ₃ QB) (hm : behindInMarks op b = false := by with_unfolding_all rfl) :
    EB c env D (isTrue (.Compare a [op] [b] pos) env whole) l σ QB := by
  intro A g ρ z s Q' E' ok R q
  refine wpAny_isTrue_Compare1 (h A g ρ z s _ _ ok R fun va wa σ1 ρ1 z1 s1 h1 R1 G1 r1 => ?_) hm
  refine h1 A g ρ1 z1 s1 _ _ ok R1 fun vb wb σ2 ρ2 z2 s2 h2 R2 G2 r2 => ?_
  refine h2 A g ρ2 z2 s2 _ _ _ _ ok R2 (r1.mono G2.toExt) r2 fun v w σ3 ρ3 z3 s3 h3 R3 G3 r3 => ?_
  exact h3 A g ρ3 z3 s3 _ _ _ ok R3 r3 fun b σ4 ρ4 z4 s4 h4 R4 G4 => q _ _ _ _ _ h4 R4 (((G1.trans G2).trans G3).trans G4)
theorem eb_not {x : Expr} {pos : Pos} {whole : Sem Value} (h : EB c env D (isTrue x env (eval x env)) l σ fun b σ₁ => QB (!b) σ₁) : EB c env D (isTrue (.UnaryOp .Not x pos) env whole) l σ QB := by
  intro A g ρ z s Q' E' ok R q
  exact isTrue_not (h A g ρ z s _ _ ok R fun b σ1 ρ1 z1 s1 h1 R1 G1 => q _ _ _ _ _ h1 R1 G1)
theorem eb_bop {op : BoolOp} {es : List Expr} {pos : Pos} {whole : Sem Value} (h : EB c env D (allTrue op es env) l σ QB) : EB c env D (isTrue (.BoolOp op es pos) env whole) l σ QB := h
theorem eb_and {x : Expr} {rest : List Expr} (h : EB c env D (isTrue x env (eval x env)) l σ fun b σ₁ => (b = true → EB c env D (allTrue .And rest env) l σ₁ QB) ∧ (b = false → QB false σ₁)) : EB c env D (allTrue .And (x :: rest) env) l σ QB := by
  intro A g ρ z s Q' E' ok R q
  show wpAny c.M A (isTrue x env (eval x env) >>= _) Q' E' s
  refine wpAny_bind (h A g ρ z s _ _ ok R fun b σ1 ρ1 z1 s1 h1 R1 G1 => ?_)
  cases b with
  | true => exact h1.1 rfl A g ρ1 z1 s1 _ _ ok R1 fun b σ2 ρ2 z2 s2 h2 R2 G2 => q _ _ _ _ _ h2 R2 (G1.trans G2)
  | false => exact wpAny_pure (q _ _ _ _ _ (h1.2 rfl) R1 G1)
theorem eb_or {x : Expr} {rest : List Expr} (h : EB c env D (isTrue x env (eval x env)) l σ fun b σ₁ => (b = false → EB c env D (allTrue .Or rest env) l σ₁ QB) ∧ (b = true → QB true σ₁)) : EB c env D (allTrue .Or (x :: rest) env) l σ QB := by
  intro A g ρ z s Q' E' ok R q
  show wpAny c.M A (isTrue x env (eval x env) >>= _) Q' E' s
  refine wpAny_bind (h A g ρ z s _ _ ok R fun b σ1 ρ1 z1 s1 h1 R1 G1 => ?_)
  cases b with
  | false => exact h1.1 rfl A g ρ1 z1 s1 _ _ ok R1 fun b σ2 ρ2 z2 s2 h2 R2 G2 => q _ _ _ _ _ h2 R2 (G1.trans G2)
  | true => exact wpAny_pure (q _ _ _ _ _ (h1.2 rfl) R1 G1)
theorem eb_andE (h : QB true σ) : EB c env D (allTrue .And [] env) l σ QB := fun _ _ _ _ _ _ _ _ R q => wpAny_pure (q _ _ _ _ _ h R (Go.refl ..))
theorem eb_orE (h : QB false σ) : EB c env D (allTrue .Or [] env) l σ QB := fun _ _ _ _ _ _ _ _ R q => wpAny_pure (q _ _ _ _ _ h R (Go.refl ..))
end
end
section
open PySem PySem.W PyProof.Rows PySem.Calls

inductive Up (x : Str) (v : V) : Loc → Loc → Prop
  | hd {u l} : Up x v ((x, u) :: l) ((x, v) :: l)
  | tl {p l l'} : Up x v l l' → Up x v (p :: l) (p :: l')
theorem Up.keys {x v} : ∀ {l l' : Loc}, Up x v l l' → l'.map (·.1) = l.map (·.1)
  | _, _, .hd => rfl
  | _, _, .tl h => by simp [h.keys]
theorem Up.key {x v} : ∀ {l l' : Loc}, Up x v l l' → x ∈ l.map (·.1)
  | _, _, .hd => by simp
  | _, _, .tl h => by simp only [List.map_cons]; exact .tail _ h.key
theorem Up.cases {x v} : ∀ {l l' : Loc}, Up x v l l' → (l.map (·.1)).Nodup → ∀ p ∈ l', p = (x, v) ∨ (p ∈ l ∧ p.1 ≠ x)
  | _, _, .hd, nd, p, hp => by
    simp only [List.map_cons, List.nodup_cons] at nd
    rcases List.mem_cons.mp hp with rfl | hp
    · exact .inl rfl
    · exact .inr ⟨.tail _ hp, fun e => nd.1 (e ▸ List.mem_map_of_mem hp)⟩
  | _, _, .tl (p := q) h, nd, p, hp => by
    simp only [List.map_cons, List.nodup_cons] at nd
    rcases List.mem_cons.mp hp with rfl | hp
    · exact .inr ⟨.head _, fun e => nd.1 (e ▸ h.key)⟩
    · rcases h.cases nd.2 p hp with r | r
      · exact .inl r
      · exact .inr ⟨.tail _ r.1, r.2⟩

section
variable {c : Cx} {env : Env} {D : Nat} {l : Loc} {σ : Hp}

/-- a local name is bound -/
theorem store_local {x : Str} {v : V} {w : Value} {l' : Loc} {A : Around} {g : Heap} {ρ : List Addr} {z : Led} {s : Shared} {Q' : Unit → Shared → Prop} {E' : Value → Shared → Prop} (R : Rep c env g ρ z σ l s) (r : VR z ρ v w)
    (hk : env.kindOf x = some .local) (u : Up x v l l') (q : ∀ s', Rep c env g ρ z σ l' s' → Go g ρ z s ρ z s' → Q' () s') : wpAny c.M A (storeName env x w) Q' E' s := by
  obtain ⟨m, hn, hl⟩ := R.ns
  refine wpAny_storeName_local hk hn (fun h' hn' hs => ?_) (by rw [R.kind]; rfl)
  have he : ∃ o, h'.get? env.locals = some o := let ⟨o, _, _, e, _⟩ := hn'; ⟨o, e⟩
  refine q _ ⟨R.toRp.atX (s' := { s with heap := h', toks := s.toks + 1 }) (by simp) R.lt hs he, ⟨_, hn', fun p hp => ?_⟩, by rw [u.keys]; exact R.nd, R.kind, R.glob, R.bltn, R.lt⟩ ⟨Ext.refl .., fun b o e => ?_, fun _ h => .inl h⟩
  · rcases u.cases R.nd p hp with rfl | ⟨h1, h2⟩
    · exact .inr (.inr ⟨hk, w, by simp, r⟩)
    · rcases hl p h1 with h | h | ⟨h3, w', h4, h5⟩
      · exact .inl h
      · exact .inr (.inl h)
      · exact .inr (.inr ⟨h3, w', by simp only [h2, if_false]; exact h4, h5⟩)
  · by_cases hb : b = env.locals
    · subst hb; exact he
    · exact ⟨o, (hs.2 b hb).trans e⟩
/-- a name that lives in a cell is bound -/
theorem store_cell {x : Str} {v v₀ : V} {w : Value} {i : Nat} {A : Around} {g : Heap} {ρ : List Addr} {z : Led} {s : Shared} {Q' : Unit → Shared → Prop} {E' : Value → Shared → Prop} (R : Rep c env g ρ z σ l s) (r : VR z ρ v w)
    (hm : (x, .cell i) ∈ l) (hi : σ[i]? = some (.cell v₀)) (hk : env.kindOf x = some .cell) (q : ∀ s', Rep c env g ρ z (σ.set i (.cell v)) l s' → Go g ρ z s ρ z s' → Q' () s') : wpAny c.M A (storeName env x w) Q' E' s := by
  obtain ⟨m, hn, hl⟩ := R.ns
  rcases hl _ hm with h1 | ⟨i', a, h1, h2, h3, h4⟩ | ⟨h1, w', h2, h3⟩
  · cases h1
  · cases h1
    obtain ⟨a', p, ha, hp', hh⟩ := R.toRp.at hi
    rw [h4] at ha; cases ha
    have hc : ∃ v₀, s.heap.IsCell a v₀ ∧ env.locals ≠ a := by
      have : ∀ o, p = [(a, o)] → env.locals ≠ a := fun o e q => (hh (a, o) (by rw [e]; simp)).2.2 (by rw [← q]; simp)
      cases hp' with
      | cell hv ho => exact ⟨_, ⟨_, (hh _ (.head _)).1, ho⟩, this _ rfl⟩
      | cell0 ho => exact ⟨_, ⟨_, (hh _ (.head _)).1, ho⟩, this _ rfl⟩
    obtain ⟨v₁, hcell, hL⟩ := hc
    refine wpAny_storeName_cell R.kind hk h3 hcell fun h' hcell' hs => ?_
    obtain ⟨o', ho', hd'⟩ := hcell'
    have P : Rp c g [env.locals] ρ z (σ.set i (.cell v)) { s with heap := h' } := R.toRp.upd (s' := { s with heap := h' }) hi h4 (b := a) (o' := .cell v) (fun p hp hg => by
      cases hp with
      | cell hv ho => exact ⟨by simp, [(a, o')], .cell r hd', rfl, fun q hq => by cases List.mem_singleton.mp hq; exact ho'⟩
      | cell0 ho => exact ⟨by simp, [(a, o')], .cell r hd', rfl, fun q hq => by cases List.mem_singleton.mp hq; exact ho'⟩) hs
    refine q _ (R.mk' P (Ext.refl ..) fun m hm => hm.sameBut hs hL) ⟨Ext.refl .., fun b o e => ?_, fun _ h => .inl h⟩
    by_cases hb : b = a
    · subst hb; exact ⟨o', ho'⟩
    · exact ⟨o, (hs.2 b hb).trans e⟩
  · cases h3

-- STATEMENTS
variable {Q : Fl → Loc → Hp → Prop}
def ThenX (c : Cx) (env : Env) (D : Nat) (rest : List Stmt) (Q : Fl → Loc → Hp → Prop) : Fl → Loc → Hp → Prop := fun f l₁ σ₁ => match f with
  | .next => EX c env D (execs rest env) l₁ σ₁ Q
  | f => Q f l₁ σ₁
theorem ex_nil (h : Q .next l σ) : EX c env D (execs [] env) l σ Q := fun _ _ _ _ _ _ _ _ R q => wpAny_execs_nil (q _ _ _ _ _ _ _ h R (Go.refl ..) .next)
theorem ex_cons {st : Stmt} {rest : List Stmt} (h : EX c env D (exec st env) l σ (ThenX c env D rest Q)) : EX c env D (execs (st :: rest) env) l σ Q := by
  intro A g ρ z s Q' E' ok R q
  refine wpAny_execs_cons (h A g ρ z s _ _ ok R fun f fw l1 σ1 ρ1 z1 s1 h1 R1 G1 r1 => ?_)
  cases r1 with
  | next => exact h1 A g ρ1 z1 s1 _ _ ok R1 fun f fw l' σ' ρ' z' s' hq R' G' r' => q f fw l' σ' ρ' z' s' hq R' (G1.trans G') r'
  | brk => exact q _ _ _ _ _ _ _ h1 R1 G1 .brk
  | cont => exact q _ _ _ _ _ _ _ h1 R1 G1 .cont
  | ret r => exact q _ _ _ _ _ _ _ h1 R1 G1 (.ret r)
theorem ex_pass {pos : Pos} (h : Q .next l σ) : EX c env D (exec (.Pass pos) env) l σ Q := fun _ _ _ _ _ _ _ _ R q => wpAny_Pass (q _ _ _ _ _ _ _ h R (Go.refl ..) .next)
theorem ex_break {pos : Pos} (h : Q .brk l σ) : EX c env D (exec (.Break pos) env) l σ Q := fun _ _ _ _ s Q' E' _ R q => (show wpAny c.M _ (do standAt pos; pure .brk) Q' E' s from wpAny_bind (wpAny_standAt (wpAny_pure (q _ _ _ _ _ _ _ h R (Go.refl ..) .brk))))
theorem ex_continue {pos : Pos} (h : Q .cont l σ) : EX c env D (exec (.Continue pos) env) l σ Q := fun _ _ _ _ s Q' E' _ R q => (show wpAny c.M _ (do standAt pos; pure .cont) Q' E' s from wpAny_bind (wpAny_standAt (wpAny_pure (q _ _ _ _ _ _ _ h R (Go.refl ..) .cont))))
theorem ex_ret {e : Expr} {pos : Pos} (h : EV c env D (eval e env) l σ fun v σ₁ => Q (.ret v) l σ₁) : EX c env D (exec (.Return (some e) pos) env) l σ Q := by
  intro A g ρ z s Q' E' ok R q
  exact wpAny_Return_some (h A g ρ z s _ _ ok R fun v w σ1 ρ1 z1 s1 h1 R1 G1 r1 => q _ _ _ _ _ _ _ h1 R1 G1 (.ret r1))
theorem ex_retN {pos : Pos} (h : Q (.ret .none) l σ) : EX c env D (exec (.Return none pos) env) l σ Q := fun _ _ _ _ _ _ _ _ R q => wpAny_Return_none (q _ _ _ _ _ _ _ h R (Go.refl ..) (.ret .none))
theorem ex_expr {e : Expr} {pos : Pos} (h : EV c env D (eval e env) l σ fun _ σ₁ => Q .next l σ₁) (hi : interactive env = false := by (subst_vars; kernel_rfl)) (hs : swapsWith e none pos.line env = pure false := by (subst_vars; kernel_rfl)) : EX c env D (exec (.Expr e pos) env) l σ Q := by
  intro A g ρ z s Q' E' ok R q
  exact wpAny_Expr_any (h A g ρ z s _ _ ok R fun v w σ1 ρ1 z1 s1 h1 R1 G1 r1 => q _ _ _ _ _ _ _ h1 R1 G1 .next) hi hs
theorem ex_if {t : Expr} {a b : List Stmt} {pos : Pos} (h : EB c env D (isTrue t env (eval t env)) l σ fun r σ₁ => (r = true → EX c env D (execs a env) l σ₁ Q) ∧ (r = false → EX c env D (execs b env) l σ₁ Q)) : EX c env D (exec (.If t a b pos) env) l σ Q := by
  intro A g ρ z s Q' E' ok R q
  refine wpAny_If (h A g ρ z s _ _ ok R fun r σ1 ρ1 z1 s1 h1 R1 G1 => ?_)
  cases r with
  | true => exact h1.1 rfl A g ρ1 z1 s1 _ _ ok R1 fun f fw l' σ' ρ' z' s' hq R' G' r' => q f fw l' σ' ρ' z' s' hq R' (G1.trans G') r'
  | false => exact h1.2 rfl A g ρ1 z1 s1 _ _ ok R1 fun f fw l' σ' ρ' z' s' hq R' G' r' => q f fw l' σ' ρ' z' s' hq R' (G1.trans G') r'
theorem ex_assign {x : Str} {e : Expr} {p pos : Pos} {l' : V → Loc} (h : EV c env D (eval e env) l σ fun v σ₁ => v.plain = true ∧ Up x v l (l' v) ∧ Q .next (l' v) σ₁) (hk : env.kindOf x = some .local := by (subst_vars; kernel_rfl))
    (hs : swapsWith e (some (.Name x p)) pos.line env = pure false := by (subst_vars; kernel_rfl)) : EX c env D (exec (.Assign [.Name x p] e pos) env) l σ Q := by
  intro A g ρ z s Q' E' ok R q
  refine wpAny_Assign_Name (h A g ρ z s _ _ ok R fun v w σ1 ρ1 z1 s1 h1 R1 G1 r1 => ?_) hs
  exact store_local R1 r1 hk h1.2.1 fun s2 R2 G2 => q _ _ _ _ _ _ _ h1.2.2 R2 (G1.trans G2) .next
theorem ex_assignC {x : Str} {e : Expr} {p pos : Pos} {i : Nat} (hm : (x, .cell i) ∈ l) (h : EV c env D (eval e env) l σ fun v σ₁ => (∃ v₀, σ₁[i]? = some (.cell v₀)) ∧ Q .next l (σ₁.set i (.cell v))) (hk : env.kindOf x = some .cell := by (subst_vars; kernel_rfl))
    (hs : swapsWith e (some (.Name x p)) pos.line env = pure false := by (subst_vars; kernel_rfl)) : EX c env D (exec (.Assign [.Name x p] e pos) env) l σ Q := by
  intro A g ρ z s Q' E' ok R q
  refine wpAny_Assign_Name (h A g ρ z s _ _ ok R fun v w σ1 ρ1 z1 s1 h1 R1 G1 r1 => ?_) hs
  obtain ⟨⟨v₀, hv⟩, h2⟩ := h1
  exact store_cell R1 r1 hm hv hk fun s2 R2 G2 => q _ _ _ _ _ _ _ h2 R2 (G1.trans G2) .next
theorem ex_augName {x : Str} {e : Expr} {op : Operator} {p pos : Pos} {v₀ : V} {l' : V → Loc} (hm : (x, v₀) ∈ l) (hp : v₀.plain = true) (h : EV c env D (eval e env) l σ fun v σ₁ => EV2 c env D v₀ v (inplaceOp op) l σ₁ fun r σ₂ => Up x r l (l' r) ∧ Q .next (l' r) σ₂)
    (hk : env.kindOf x = some .local := by (subst_vars; kernel_rfl)) : EX c env D (exec (.AugAssign (.Name x p) op e pos) env) l σ Q := by
  intro A g ρ z s Q' E' ok R q
  obtain ⟨m, hn, hl⟩ := R.ns
  rcases hl _ hm with h1 | ⟨i, a, h1, _⟩ | ⟨h1, w, h2, h3⟩
  · simp only at h1; subst h1; cases hp
  · simp only at h1; subst h1; cases hp
  · refine wpAny_AugAssign_Name (wpAny_loadName_local R.kind h1 hn h2 ?_)
    refine h A g ρ z s _ _ ok R fun v wv σ1 ρ1 z1 s1 h1' R1 G1 r1 => ?_
    refine h1' A g ρ1 z1 s1 _ _ _ _ ok R1 (h3.mono G1.toExt) r1 fun r wr σ2 ρ2 z2 s2 h2' R2 G2 r2 => ?_
    exact store_local R2 r2 hk h2'.1 fun s3 R3 G3 => q _ _ _ _ _ _ _ h2'.2 R3 ((G1.trans G2).trans G3) .next
/-- an attribute is stored -/
theorem ex_attr {o e : Expr} {attr : Str} {p pos : Pos} (h : EV c env D (eval e env) l σ fun v σ₁ => EV c env D (eval o env) l σ₁ fun ov σ₂ => EU3 c env D ov v v (fun a b _ => setAttr a attr b) l σ₂ fun σ₃ => Q .next l σ₃)
    (hs : swapsWith e (some (.Attribute o attr p)) pos.line env = pure false := by (subst_vars; kernel_rfl)) : EX c env D (exec (.Assign [.Attribute o attr p] e pos) env) l σ Q := by
  intro A g ρ z s Q' E' ok R q
  refine plainObj_wpAny_Assign_Attribute (h A g ρ z s _ _ ok R fun v w σ1 ρ1 z1 s1 h1 R1 G1 r1 => ?_) hs
  refine h1 A g ρ1 z1 s1 _ _ ok R1 fun ov ow σ2 ρ2 z2 s2 h2 R2 G2 r2 => ?_
  exact h2 A g ρ2 z2 s2 _ _ _ _ _ ok R2 r2 (r1.mono G2.toExt) (r1.mono G2.toExt) fun σ3 ρ3 z3 s3 h3 R3 G3 => q _ _ _ _ _ _ _ h3 R3 ((G1.trans G2).trans G3) .next
theorem ex_sub {o i e : Expr} {p pos : Pos} (h : EV c env D (eval e env) l σ fun v σ₁ => EV c env D (eval o env) l σ₁ fun ov σ₂ => EV c env D (eval i env) l σ₂ fun iv σ₃ => EU3 c env D ov iv v setItem l σ₃ fun σ₄ => Q .next l σ₄)
    (hs : swapsWith e (some (.Subscript o i p)) pos.line env = pure false := by (subst_vars; kernel_rfl)) : EX c env D (exec (.Assign [.Subscript o i p] e pos) env) l σ Q := by
  intro A g ρ z s Q' E' ok R q
  refine wpAny_Assign_Subscript (h A g ρ z s _ _ ok R fun v w σ1 ρ1 z1 s1 h1 R1 G1 r1 => ?_) hs
  refine h1 A g ρ1 z1 s1 _ _ ok R1 fun ov ow σ2 ρ2 z2 s2 h2 R2 G2 r2 => ?_
  refine h2 A g ρ2 z2 s2 _ _ ok R2 fun iv iw σ3 ρ3 z3 s3 h3 R3 G3 r3 => ?_
  exact h3 A g ρ3 z3 s3 _ _ _ _ _ ok R3 (r2.mono G3.toExt) r3 ((r1.mono G2.toExt).mono G3.toExt) fun σ4 ρ4 z4 s4 h4 R4 G4 => q _ _ _ _ _ _ _ h4 R4 (((G1.trans G2).trans G3).trans G4) .next
theorem ex_augAttr {o e : Expr} {attr : Str} {op : Operator} {p pos : Pos} (h : EV c env D (eval o env) l σ fun ov σ₁ => EV1 c env D ov (fun a => getAttr a attr true) l σ₁ fun old σ₂ => EV c env D (eval e env) l σ₂ fun v σ₃ =>
    EV2 c env D old v (inplaceOp op) l σ₃ fun r σ₄ => EU3 c env D ov r r (fun a b _ => setAttr a attr b) l σ₄ fun σ₅ => Q .next l σ₅) : EX c env D (exec (.AugAssign (.Attribute o attr p) op e pos) env) l σ Q := by
  intro A g ρ z s Q' E' ok R q
  refine wpAny_AugAssign_AttributeAny (h A g ρ z s _ _ ok R fun ov ow σ1 ρ1 z1 s1 h1 R1 G1 r1 => ?_)
  refine h1 A g ρ1 z1 s1 _ _ _ ok R1 r1 fun old wold σ2 ρ2 z2 s2 h2 R2 G2 r2 => ?_
  refine h2 A g ρ2 z2 s2 _ _ ok R2 fun v w σ3 ρ3 z3 s3 h3 R3 G3 r3 => ?_
  refine h3 A g ρ3 z3 s3 _ _ _ _ ok R3 (r2.mono G3.toExt) r3 fun r wr σ4 ρ4 z4 s4 h4 R4 G4 r4 => ?_
  have ro := (r1.mono G2.toExt).mono (G3.trans G4).toExt
  exact h4 A g ρ4 z4 s4 _ _ _ _ _ ok R4 ro r4 r4 fun σ5 ρ5 z5 s5 h5 R5 G5 => q _ _ _ _ _ _ _ h5 R5 ((((G1.trans G2).trans G3).trans G4).trans G5) .next
end
end
section
open PySem PySem.W PyProof.Rows PySem.Calls

/-- arguments, from the left -/
def EL (c : Cx) (env : Env) (D : Nat) (pos : Pos) (es : List Expr) (l : Loc) (σ : Hp) (Q : List V → Hp → Prop) : Prop :=
  ((backTo pos (starEach es env)).any (·.1) = false) ∧ ∀ (A : Around) (g : Heap) (ρ : List Addr) (z : Led) (s : Shared) (Q' : List Value → Shared → Prop) (E' : Value → Shared → Prop), Ok A D → Rep c env g ρ z σ l s →
    (∀ vs ws σ' ρ' z' s', Q vs σ' → Rep c env g ρ' z' σ' l s' → Go g ρ z s ρ' z' s' → VRL z' ρ' vs ws → Q' ws s') → wpAny c.M A (spliced (backTo pos (starEach es env))) Q' E' s
def EK (c : Cx) (env : Env) (D : Nat) (pos : Pos) (ks : List Keyword) (l : Loc) (σ : Hp) (Q : List (Str × V) → Hp → Prop) : Prop :=
  ((backToKw pos (keywordEach ks env)).all (·.1.isSome) = true) ∧ ∀ (A : Around) (g : Heap) (ρ : List Addr) (z : Led) (s : Shared) (Q' : List Value → Shared → Prop) (E' : Value → Shared → Prop), Ok A D → Rep c env g ρ z σ l s →
    (∀ vs ws σ' ρ' z' s', Q vs σ' → vs.map (·.1) = (backToKw pos (keywordEach ks env)).filterMap (·.1) → Rep c env g ρ' z' σ' l s' → Go g ρ z s ρ' z' s' → VRL z' ρ' (vs.map (·.2)) ws → Q' ws s') → wpAny c.M A (evalAll ((backToKw pos (keywordEach ks env)).map (·.2))) Q' E' s

section
variable {c : Cx} {env : Env} {D : Nat} {l : Loc} {σ : Hp} {pos : Pos}
theorem el_nil {Q : List V → Hp → Prop} (h : Q [] σ) : EL c env D pos [] l σ Q := ⟨rfl, fun _ _ _ _ _ _ _ _ R q => args_nil (q _ _ _ _ _ _ h R (Go.refl ..) .nil)⟩
theorem el_cons {e : Expr} {rest : List Expr} {Q : List V → Hp → Prop} (hr : (backTo pos (starEach rest env)).any (·.1) = false) (h : EV c env D (eval e env) l σ fun v σ₁ => EL c env D pos rest l σ₁ fun vs σ₂ => Q (v :: vs) σ₂)
    (he : starEach (e :: rest) env = (false, eval e env) :: starEach rest env := by kernel_rfl) : EL c env D pos (e :: rest) l σ Q := by
  refine ⟨by rw [he]; simpa [backTo] using hr, fun A g ρ z s Q' E' ok R q => args_cons ?_ he⟩
  refine h A g ρ z s _ _ ok R fun v w σ1 ρ1 z1 s1 h1 R1 G1 r1 => ?_
  exact h1.2 A g ρ1 z1 s1 _ _ ok R1 fun vs ws σ2 ρ2 z2 s2 h2 R2 G2 r2 => q _ _ _ _ _ _ h2 R2 (G1.trans G2) (.cons (r1.mono G2.toExt) r2)
theorem ek_nil {Q : List (Str × V) → Hp → Prop} (h : Q [] σ) : EK c env D pos [] l σ Q := ⟨rfl, fun _ _ _ _ _ _ _ _ R q => wpAny_evalAll_nil (q [] _ _ _ _ _ h rfl R (Go.refl ..) .nil)⟩
theorem ek_cons {x : Str} {e : Expr} {kp : Pos} {rest : List Keyword} {Q : List (Str × V) → Hp → Prop} (hr : (backToKw pos (keywordEach rest env)).all (·.1.isSome) = true) (h : EV c env D (eval e env) l σ fun v σ₁ => EK c env D pos rest l σ₁ fun vs σ₂ => Q ((x, v) :: vs) σ₂) :
    EK c env D pos (⟨some x, e, kp⟩ :: rest) l σ Q := by
  refine ⟨by simpa [backToKw, keywordEach] using hr, fun A g ρ z s Q' E' ok R q => ?_⟩
  show wpAny c.M A (evalAll ((do let v ← eval e env; standAt pos; pure v) :: (backToKw pos (keywordEach rest env)).map (·.2))) Q' E' s
  refine wpAny_evalAll_cons (wpAny_bind (h A g ρ z s _ _ ok R fun v w σ1 ρ1 z1 s1 h1 R1 G1 r1 => wpAny_bind (wpAny_standAt (wpAny_pure ?_))))
  refine h1.2 A g ρ1 z1 s1 _ _ ok R1 fun vs ws σ2 ρ2 z2 s2 h2 hm R2 G2 r2 => q _ _ _ _ _ _ h2 ?_ R2 (G1.trans G2) (.cons (r1.mono G2.toExt) r2)
  simp only [List.map_cons, hm]
  rfl

theorem evalArgs_gen {M : Model} {A : Around} {E : Value → Shared → Prop} {s : Shared} {f : Value} {args : List (Bool × Sem Value)} {kws : List (Option Str × Sem Value)} {Q : Args → Shared → Prop} (ha : args.any (·.1) = false) (hk : kws.all (·.1.isSome) = true)
    (h : wpAny M A (spliced args) (fun vs s₁ => wpAny M A (evalAll (kws.map (·.2))) (fun ks s₂ => Q ⟨vs, (kws.filterMap (·.1)).zip ks⟩ s₂) E s₁) E s) : wpAny M A (evalArgs f true args kws) Q E s := by
  cases args with
  | nil =>
    unfold evalArgs
    show wpAny M A (spliced [] >>= _) Q E s
    refine wpAny_bind (wpAny_mono h (fun vs s₁ h₁ => ?_) fun _ _ x => x)
    refine wpAny_bind (wpAny_pure (wpAny_holding ?_))
    simp only [hk, if_true]
    exact wpAny_bind (wpAny_mono h₁ (fun ks s₂ h₂ => wpAny_bind (wpAny_pure (wpAny_pure h₂))) fun _ _ x => x)
  | cons x rest =>
    obtain ⟨b, t⟩ := x
    have : b = false := by cases b <;> simp_all
    subst this
    exact evalArgs_kw hk h

/-- the called thing is known to the machine -/
def KeepOk (c : Cx) : V → Prop
  | .val (.ref a) => keepIn c.K (.ref a) = true
  | .val _ => True
  | _ => False
theorem keepOk_looks {c : Cx} {M : Model} {v : V} {w : Value} {z : Led} {ρ : List Addr} (hk : KeepOk c v) (r : VR z ρ v w) (h : Heap) (X : c.K.In h) : ∃ k, (k = Keeper.frame ∨ k = Keeper.machine ∨ k = Keeper.boundFrame) ∧ Looks M h (keeperOf w) k := by
  cases r with
  | val w =>
    cases w <;> first | exact ⟨.machine, .inr (.inl rfl), Looks.of_pure rfl⟩ | exact keeps_K hk h X
  | _ => exact hk.elim

theorem callWith_AW {vf : V} {first : List V} {args : List Expr} {kws : List Keyword} {Q : V → Hp → Prop} (hk : KeepOk c vf) (h : EL c env D pos args l σ fun vs σ₁ => EK c env D pos kws l σ₁ fun ks σ₂ => FN c D vf (first ++ vs) ks σ₂ Q) :
    ∀ (A : Around) (g : Heap) (ρ : List Addr) (z : Led) (s : Shared) (Q' E' : Value → Shared → Prop) (wf : Value) (wfirst : List Value), Ok A D → Rep c env g ρ z σ l s → VR z ρ vf wf → VRL z ρ first wfirst →
      (hkw : (backToKw pos (keywordEach kws env)).all (·.1.isSome) = true) → 
      (∀ v w σ' ρ' z' s', Q v σ' → Rep c env g ρ' z' σ' l s' → Go g ρ z s ρ' z' s' → VR z' ρ' v w → Q' w s') →
      wpAny c.M A (callWith pos wf wfirst (backTo pos (starEach args env)) (backToKw pos (keywordEach kws env))) Q' E' s := by
  intro A g ρ z s Q' E' wf wfirst ok R rf rfirst hkw q
  have hplain : ((backTo pos (starEach args env)).any (·.1) || (backToKw pos (keywordEach kws env)).any (·.1.isNone)) = false := by
    rw [h.1, Bool.false_or, List.any_eq_false]
    intro x hx
    have := List.all_eq_true.mp hkw x hx
    cases hx1 : x.1 <;> simp_all
  refine callWith_of (P := fun h => c.K.In h) hplain (fun h X => keepOk_looks hk rf h X) (evalArgs_gen h.1 hkw ?_)
  refine h.2 A g ρ z s _ _ ok R fun vs ws σ1 ρ1 z1 s1 h1 R1 G1 r1 => ?_
  refine h1.2 A g ρ1 z1 s1 _ _ ok R1 fun ks wk σ2 ρ2 z2 s2 h2 hm R2 G2 r2 => ?_
  refine ⟨R2.base.X.keeps R2.keep, ?_⟩
  obtain ⟨g1, P, back⟩ := R2.out
  rw [← hm]
  refine h2 A g1 ρ2 z2 s2 _ _ wf (wfirst ++ ws) wk ok P (rf.mono (G1.trans G2).toExt) ((rfirst.mono (G1.trans G2).toExt).append (r1.mono G2.toExt)) r2 fun v w σ' ρ' z' s' hq P' G' r' => ?_
  obtain ⟨RB, GB⟩ := back _ _ _ _ P' G'
  exact q v w σ' ρ' z' s' hq RB ((G1.trans G2).trans GB) r'

theorem ev_call {func : Expr} {args : List Expr} {kws : List Keyword} {Q : V → Hp → Prop} (hkw : (backToKw pos (keywordEach kws env)).all (·.1.isSome) = true)
    (h : EV c env D (eval func env) l σ fun vf σ₁ => KeepOk c vf ∧ EL c env D pos args l σ₁ fun vs σ₂ => EK c env D pos kws l σ₂ fun ks σ₃ => FN c D vf vs ks σ₃ Q)
    (he : eval (.Call func args kws pos) env = (do callWith pos (← eval func env) [] (backTo pos (starEach args env)) (backToKw pos (keywordEach kws env))) := by kernel_rfl) : EV c env D (eval (.Call func args kws pos) env) l σ Q := by
  intro A g ρ z s Q' E' ok R q
  rw [he]
  refine wpAny_bind (h A g ρ z s _ _ ok R fun vf wf σ1 ρ1 z1 s1 h1 R1 G1 r1 => ?_)
  exact callWith_AW (first := []) h1.1 h1.2 A g ρ1 z1 s1 _ _ wf [] ok R1 r1 .nil hkw fun v w σ' ρ' z' s' hq R' G' r' => q v w σ' ρ' z' s' hq R' (G1.trans G') r'

/-- a method is looked up -/
def EM (c : Cx) (env : Env) (D : Nat) (v : V) (name : Str) (l : Loc) (σ : Hp) (Q : V → List V → Hp → Prop) : Prop :=
  ∀ (A : Around) (g : Heap) (ρ : List Addr) (z : Led) (s : Shared) (Q' : Value × List Value → Shared → Prop) (E' : Value → Shared → Prop) (w : Value) (pl : Sem Bool), Ok A D → Rep c env g ρ z σ l s → VR z ρ v w →
    (∀ vf first wf wfirst σ' ρ' z' s', Q vf first σ' → Rep c env g ρ' z' σ' l s' → Go g ρ z s ρ' z' s' → VR z' ρ' vf wf → VRL z' ρ' first wfirst → Q' (wf, wfirst) s') → wpAny c.M A (getMethod w name pl) Q' E' s
theorem ev_mcall {o : Expr} {name : Str} {apos : Pos} {args : List Expr} {kws : List Keyword} {pl : Sem Bool} {Q : V → Hp → Prop} (hkw : (backToKw pos (keywordEach kws env)).all (·.1.isSome) = true)
    (h : EV c env D (eval o env) l σ fun ov σ₁ => EM c env D ov name l σ₁ fun vf first σ₂ => KeepOk c vf ∧ EL c env D pos args l σ₂ fun vs σ₃ => EK c env D pos kws l σ₃ fun ks σ₄ => FN c D vf (first ++ vs) ks σ₄ Q)
    (he : eval (.Call (.Attribute o name apos) args kws pos) env = (do
      let ov ← eval o env
      standAt apos.atName
      let (f, first) ← holding [ov] (getMethod ov name pl)
      callWith pos f first (backTo pos (starEach args env)) (backToKw pos (keywordEach kws env))) := by rfl) : EV c env D (eval (.Call (.Attribute o name apos) args kws pos) env) l σ Q := by
  intro A g ρ z s Q' E' ok R q
  refine methodCall_KW (h A g ρ z s _ _ ok R fun ov ow σ1 ρ1 z1 s1 h1 R1 G1 r1 => ?_) he
  refine h1 A g ρ1 z1 s1 _ _ ow pl ok R1 r1 fun vf first wf wfirst σ2 ρ2 z2 s2 h2 R2 G2 r2 rl => ?_
  exact callWith_AW h2.1 h2.2 A g ρ2 z2 s2 _ _ wf wfirst ok R2 r2 rl hkw fun v w σ' ρ' z' s' hq R' G' r' => q v w σ' ρ' z' s' hq R' ((G1.trans G2).trans G') r'
theorem ev_attr {o : Expr} {attr : Str} {Q : V → Hp → Prop} (h : EV c env D (eval o env) l σ fun ov σ₁ => EV1 c env D ov (fun a => getAttr a attr true) l σ₁ Q)
    (he : ∀ (A : Around) (s : Shared) (Q' E' : Value → Shared → Prop), wpAny c.M A (eval o env) (fun ow s₁ => wpAny c.M A (getAttr ow attr true) Q' E' s₁) E' s → wpAny c.M A (eval (.Attribute o attr pos) env) Q' E' s) : EV c env D (eval (.Attribute o attr pos) env) l σ Q := by
  intro A g ρ z s Q' E' ok R q
  refine he _ _ _ _ (h A g ρ z s _ _ ok R fun ov ow σ1 ρ1 z1 s1 h1 R1 G1 r1 => ?_)
  exact h1 A g ρ1 z1 s1 _ _ ow ok R1 r1 fun v w σ' ρ' z' s' hq R' G' r' => q v w σ' ρ' z' s' hq R' (G1.trans G') r'
end
end
section
open PySem PySem.W PyProof.Rows PySem.Calls

theorem Rp.lessX {c g X ρ z σ} {s : Shared} (R : Rp c g X ρ z σ s) : Rp c g [] ρ z σ s := by
  obtain ⟨led, a, b, d⟩ := R.own
  exact ⟨R.base, R.keep, ⟨led, a, b, fun p hp => ⟨(d p hp).1, (d p hp).2.1, fun h => (d p hp).2.2.1 (List.mem_append_right _ (by simpa using h)), (d p hp).2.2.2⟩⟩, fun q hq => ⟨(R.frz q hq).1, fun h => (R.frz q hq).2 (List.mem_append_right _ (by simpa using h))⟩,
    fun a ha => R.off a (List.mem_append_right _ (by simpa using ha)), R.tabs, R.os, R.dr, R.gens, R.kz⟩
/-- a frame's dict, new -/
theorem Rp.addX {c g ρ z σ} {s s' : Shared} (R : Rp c g [] ρ z σ s) (k : ∀ b o, s.heap.get? b = some o → s'.heap.get? b = some o) {L : Addr} (hL : s.heap.get? L = none) (hL' : ∃ o, s'.heap.get? L = some o)
    (h1 : s'.os = s.os := by rfl) (h2 : s'.drawn = s.drawn := by rfl) (h3 : s'.gens = s.gens := by rfl) : Rp c g [L] ρ z σ s' := by
  have J := R.grow k h1 h2 h3
  obtain ⟨led, a, b, d⟩ := R.own
  refine ⟨R.base, J.keep, ⟨led, a, b, fun p hp => ⟨k _ _ (d p hp).1, (d p hp).2.1, fun h => ?_, (d p hp).2.2.2⟩⟩, fun q hq => ⟨(J.frz q hq).1, fun h => ?_⟩, fun x hx => ?_, J.tabs, J.os, J.dr, J.gens, J.kz⟩
  · rcases List.mem_append.mp h with h | h
    · exact fresh_ne (d p hp).1 hL (by simpa using h)
    · exact (d p hp).2.2.1 (by simpa using h)
  · rcases List.mem_append.mp h with h | h
    · exact fresh_ne (R.frz q hq).1 hL (by simpa using h)
    · exact (R.frz q hq).2 (by simpa using h)
  · rcases List.mem_append.mp hx with h | h
    · have : x = L := by simpa using h
      subst this
      exact ⟨fresh_base R.keep hL, hL'⟩
    · exact J.off x (by simpa using h)

/-- how the arguments of a call are bound -/
def BindA (c : Cx) (fd : FuncData) (args : List V) (kw : List (Str × V)) (bs : List (Str × V)) : Prop :=
  ∀ (z : Led) (ρ : List Addr) (ws kws : List Value) (s : Shared), c.K.In s.heap → VRL z ρ args ws → VRL z ρ (kw.map (·.2)) kws →
    ∃ binds, BindsTo s fd ⟨ws, (kw.map (·.1)).zip kws⟩ binds ∧ binds.map (·.1) = bs.map (·.1) ∧ VRL z ρ (bs.map (·.2)) (binds.map (·.2))

def postFn (Q : V → Hp → Prop) : Fl → Loc → Hp → Prop := fun f _ σ => match f with
  | .ret v => Q v σ
  | _ => Q .none σ

theorem vrl_lookup {z : Led} {ρ : List Addr} : ∀ {bs : List (Str × V)} {binds : List (Str × Value)}, binds.map (·.1) = bs.map (·.1) → VRL z ρ (bs.map (·.2)) (binds.map (·.2)) → (bs.map (·.1)).Nodup →
    ∀ {x : Str} {v : V}, (x, v) ∈ bs → ∃ w, binds.reverse.lookup x = some w ∧ VR z ρ v w := by
  intro bs binds e r nd x v hm
  have key : ∀ {bs : List (Str × V)} {binds : List (Str × Value)}, binds.map (·.1) = bs.map (·.1) → VRL z ρ (bs.map (·.2)) (binds.map (·.2)) → (x, v) ∈ bs → ∃ w, (x, w) ∈ binds ∧ VR z ρ v w := by
    intro bs
    induction bs with
    | nil => intro binds _ _ hm; cases hm
    | cons p bs ih =>
      intro binds e r hm
      cases binds with
      | nil => cases e
      | cons q binds =>
        simp only [List.map_cons, List.cons.injEq] at e
        cases r with
        | cons r1 r2 =>
          rcases List.mem_cons.mp hm with h | h
          · subst h; exact ⟨q.2, by rw [show q = (x, q.2) from Prod.ext e.1 rfl]; exact .head _, r1⟩
          · obtain ⟨w, h1, h2⟩ := ih e.2 r2 h
            exact ⟨w, .tail _ h1, h2⟩
  obtain ⟨w, h1, h2⟩ := key e r hm
  refine ⟨w, ?_, h2⟩
  have nd' : (binds.reverse.map (·.1)).Nodup := by rw [List.map_reverse, e]; exact List.pairwise_reverse.mpr (List.Pairwise.imp (fun h => Ne.symm h) nd)
  have hm' : (x, w) ∈ binds.reverse := List.mem_reverse.mpr h1
  clear h1 e r hm key nd
  generalize binds.reverse = l at nd' hm'
  induction l with
  | nil => cases hm'
  | cons p l ih =>
    obtain ⟨y, u⟩ := p
    rw [List.lookup_cons]
    simp only [List.map_cons, List.nodup_cons] at nd'
    rcases List.mem_cons.mp hm' with h | h
    · cases h; simp
    · have : (x == y) = false := by
        rw [beq_eq_false_iff_ne]; intro q; subst q; exact nd'.1 (List.mem_map_of_mem h)
      rw [this]; exact ih nd'.2 h

section
variable {c : Cx} {D : Nat} {σ : Hp}
/-- a def without cells is called -/
theorem fc_def {f : Addr} {fd : FuncData} {body : List Stmt} {oc : Value} {od : Option Addr} {osl : Array (Option Value)} {args : List V} {kw : List (Str × V)} {bs : List (Str × V)} {un : List Str} {Q : V → Hp → Prop}
    (ho : c.K.lookup f = some ⟨oc, od, .func fd, osl⟩) (hbody : fd.body = .stmts body) (hcd : codeIn c.K fd.code fd.qualname = true) (hbind : BindA c fd args kw bs)
    (hnd : ((bs ++ un.map fun x => (x, V.unb)).map (·.1)).Nodup) (hloc : ∀ x ∈ bs, fd.scope.names.lookup x.1 = some .local)
    (h : ∀ L, EX c (callEnv fd L f) D (execs body (callEnv fd L f)) (bs ++ un.map fun x => (x, V.unb)) σ (postFn Q))
    (hcell : ∀ x ∈ fd.scope.names, x.2 ≠ .cell) (hgl : fd.globals = mainGlobals) (hbl : fd.builtins = builtinsNs)
    (hco : fd.scope.isCoroutine = false := by rfl) (hgen : fd.scope.isGenerator = false := by rfl) (hk : fd.scope.kind = .function := by rfl) : FC c (D + 1) (.val (.ref f)) args kw σ Q := by
  intro A g ρ z s RR' wf ws kws ok R rf rl rk q
  cases rf
  have X := R.base.X.keeps R.keep
  obtain ⟨binds, hb, e1, e2⟩ := hbind z ρ ws kws s X rl rk
  refine (codeAny_call_def (by have := ok.d; omega) (X _ _ ho) rfl (R.base.nolimit.keeps R.keep) (codeRec_of X hcd) hbody hb hcell (fun x hx => ?_) (fun h₀ hns hk₀ => ?_) hco hgen hk)
  · have : x.1 ∈ bs.map (·.1) := e1 ▸ List.mem_map_of_mem hx
    obtain ⟨y, hy, e⟩ := List.mem_map.mp this
    rw [← e]; exact hloc y hy
  · have hL : s.heap.get? s.heap.objs.size = none := fresh_at (Nat.le_refl _)
    have hL' : ∃ o, h₀.get? s.heap.objs.size = some o := let ⟨o, _, _, e, _⟩ := hns; ⟨o, e⟩
    have R0 : Rp c g [s.heap.objs.size] ρ z σ { s with heap := h₀, toks := s.toks + binds.length } := R.addX (s' := { s with heap := h₀, toks := s.toks + binds.length }) hk₀ hL hL'
    have lt : s.heap.objs.size ∉ c.tk := fun hm => let ⟨_, e⟩ := (R.off _ (by simpa using hm)).2; Nat.lt_irrefl _ (Heap.lt_size e)
    have nd : (bs.map (·.1)).Nodup := by rw [List.map_append, List.nodup_append] at hnd; exact hnd.1
    have RR : Rep c (callEnv fd s.heap.objs.size f) g ρ z σ (bs ++ un.map fun x => (x, V.unb)) { s with heap := h₀, toks := s.toks + binds.length } := by
      refine ⟨R0, ⟨_, hns, fun p hp => ?_⟩, hnd, hk, hgl, hbl, lt⟩
      rcases List.mem_append.mp hp with h | h
      · obtain ⟨w, h1, h2⟩ := vrl_lookup e1 e2 nd h
        exact .inr (.inr ⟨hloc p h, w, h1, h2⟩)
      · obtain ⟨x, _, rfl⟩ := List.mem_map.mp h; exact .inl rfl
    have G0 : Go g ρ z s ρ z { s with heap := h₀, toks := s.toks + binds.length } := Go.same _ _ _ _ _ hk₀
    have ok' : Ok (A.deeper (callEnv fd s.heap.objs.size f)) D := ⟨ok.h, by have := ok.d; show A.depth + 1 + 3 * D + 3 < _; omega, by have := ok.u; show A.units + 3 + 20 * D + 20 < _; omega⟩
    refine h s.heap.objs.size _ g ρ z _ _ _ ok' RR fun fl fw l' σ' ρ' z' s' hq R' G' r' => ?_
    cases r' with
    | next => exact q _ _ _ _ _ _ hq R'.toRp.lessX (G0.trans G') .none
    | brk => exact q _ _ _ _ _ _ hq R'.toRp.lessX (G0.trans G') .none
    | cont => exact q _ _ _ _ _ _ hq R'.toRp.lessX (G0.trans G') .none
    | ret r => exact q _ _ _ _ _ _ hq R'.toRp.lessX (G0.trans G') r
end
end
section
open PySem PySem.W PyProof.Rows PySem.Calls

inductive FG (x : Nat) (v : V) : List (Nat × V) → Prop
  | hd {r} : FG x v ((x, v) :: r)
  | tl {y u r} : y ≠ x → FG x v r → FG x v ((y, u) :: r)
inductive FP (x : Nat) (v : V) : List (Nat × V) → List (Nat × V) → Prop
  | hd {u r} : FP x v ((x, u) :: r) ((x, v) :: r)
  | tl {y u r r'} : y ≠ x → FP x v r r' → FP x v ((y, u) :: r) ((y, u) :: r')
  | nil : FP x v [] [(x, v)]
def noKey (x : Nat) (fs : List (Nat × V)) : Bool := fs.all fun p => !(p.1 == x)

section
variable {z : Led} {ρ : List Addr} {x : Nat} {v : V}
theorem nm_ne {x y : Nat} (h : y ≠ x) {t : Tok} : (Value.str (nm y) t).isStr (nm x) = false := by
  simp only [Value.isStr, beq_eq_false_iff_ne]; exact fun e => h (nm_inj e)
theorem ER.norefs : ∀ {fs es}, ER z ρ fs es → es.any (·.refKey) = false
  | _, _, .nil => rfl
  | _, _, .cons _ l => by rw [List.any_cons, l.norefs]; rfl
theorem ER.find : ∀ {fs es}, ER z ρ fs es → FG x v fs → ∃ e, es.find? (·.key.isStr (nm x)) = some e ∧ VR z ρ v e.val
  | _, _, .cons h _, .hd => ⟨_, by rw [List.find?_cons_of_pos]; simp [Value.isStr], h⟩
  | _, _, .cons _ l, .tl ne g => by
    obtain ⟨e, h1, h2⟩ := l.find g
    refine ⟨e, ?_, h2⟩
    rw [List.find?_cons_of_neg]
    · exact h1
    · simp only [nm_ne ne]; exact Bool.false_ne_true
theorem ER.get {fs es} (h : ER z ρ fs es) (g : FG x v fs) : ∃ w, getL (nm x) es = some (some w) ∧ VR z ρ v w := by
  obtain ⟨e, h1, h2⟩ := h.find g
  exact ⟨e.val, by unfold getL; rw [h1], h2⟩
theorem ER.miss : ∀ {fs es}, ER z ρ fs es → noKey x fs = true → es.find? (·.key.isStr (nm x)) = none
  | _, _, .nil, _ => rfl
  | _, _, .cons (x := y) _ l, g => by
    simp only [noKey, List.all_cons, Bool.and_eq_true] at g
    have ne : y ≠ x := by simpa using g.1
    rw [List.find?_cons_of_neg]
    · exact l.miss g.2
    · simp only [nm_ne ne]; exact Bool.false_ne_true
theorem ER.none {fs es} (h : ER z ρ fs es) (g : noKey x fs = true) : getL (nm x) es = some none := by
  unfold getL
  rw [h.miss g, h.norefs]; rfl
theorem ER.some {fs es} (h : ER z ρ fs es) {x : Str} : (getL x es).isSome = true := by
  unfold getL
  split
  · rfl
  · rw [h.norefs]; rfl
theorem ER.put {w : Value} {hs : Int} {t : Tok} (r : VR z ρ v w) : ∀ {fs fs' es}, ER z ρ fs es → FP x v fs fs' → ER z ρ fs' (putL (nm x) hs (.str (nm x) t) w es)
  | _, _, _, .nil, .nil => .cons r .nil
  | _, _, _, .cons (t := t') h l, .hd => by
    have : (Value.str (nm x) t').isStr (nm x) = true := by simp [Value.isStr]
    simp only [putL, this, if_true]; exact .cons r l
  | _, _, _, .cons (x := y) (t := t') h l, .tl ne p => by
    simp only [putL, nm_ne ne, Bool.false_eq_true, if_false]; exact .cons h (l.put r p)
theorem ER.length : ∀ {fs es}, ER z ρ fs es → es.length = fs.length
  | _, _, .nil => rfl
  | _, _, .cons _ l => congrArg (· + 1) l.length
end

section
variable {prog : Program} {w : World} {A : Around} {E : Value → Shared → Prop} {s : Shared} {K : Frag} {x C dx : Addr} {ox : Obj} {es es' : List DictEntry} {n : Nat} {name : Str} {v : Value}
/-- an attribute is stored in the object's own dict -/
theorem set_raw {Q : Unit → Shared → Prop} (X : K.In s.heap) (I : InstAt s.heap x ox C (some (dictOf es n))) (hd : ox.dict = some dx)
    (hs : findIn K (.ref C) "__setattr__" = some (some (.builtin "object.__setattr__"))) (hp : plainOver K C = true) (ht : takerIn K C name = some none) (hh : hasDictIn K C = true) (hl : (getL name es).isSome = true) (hz : (putL name (PyData.keyHash w.params name) (.str name (s.toks + 1)) v es).length ≤ 1000)
    (h : ∀ h', Heap.SameBut dx s.heap h' → h'.get? dx = some (dictOf (putL name (PyData.keyHash w.params name) (.str name (s.toks + 1)) v es) (putN name es n)) → Q () { s with heap := h', toks := s.toks + 2 }) :
    wpAny (model prog w) A (setAttr (.ref x) name v) Q E s := by
  refine set_plain X I hs ?_
  refine osa_open (s := { s with toks := s.toks + 1 }) X I hp ht fun b => ?_
  obtain ⟨cd, hc, hd'⟩ := any_some hh
  have hdx : s.heap.get? dx = some (dictOf es n) := by
    have := I.dict
    rw [hd] at this
    exact this
  obtain ⟨hx, hcl, hn, -⟩ := I
  obtain ⟨oc, odi, oda, osl⟩ := ox
  dsimp only at hcl hd
  subst hcl hd
  refine wpAny_bind (wpAny_pure (wpAny_bind (wpAny_bind (wpAny_loadPart hx (wpAny_bind ((looks_clsIn (M := model prog w) X hc) _ _ _ _ (fun _ _ e => e) ?_))))))
  rw [hd']
  refine wpAny_pure (a := some dx) (wpAny_bind (wpAny_pure (wpAny_bind ?_)))
  unfold nsSet
  refine wpAny_bind (wpAny_bind (wpAny_askSetting (wpAny_pure (wpAny_bind (wpAny_mkText (wpAny_bind (wpAny_loadPart hdx ?_)))))))
  dsimp only
  have cnd : (!es.toArray.any (·.key.isStr name) && es.toArray.any (·.refKey)) = false := by
    rw [List.any_toArray, List.any_toArray]
    unfold getL at hl
    split at hl
    · rename_i en he
      rw [List.any_eq_true.mpr ⟨en, List.mem_of_find?_eq_some he, List.find?_some he⟩]; rfl
    · split at hl
      · cases hl
      · rename_i q; rw [Bool.not_eq_true] at q; rw [q, Bool.and_false]
  rw [aRefKeyMayBeTheName_at, cnd]
  refine wpAny_updatePart hdx ?_
  have e1 := putName_dict name (PyData.keyHash w.params name) (.str name (s.toks + 1)) v es n
  have hget : (s.heap.update dx (Obj.putName name (PyData.keyHash w.params name) (.str name (s.toks + 1)) v)).get? dx = some (dictOf (putL name (PyData.keyHash w.params name) (.str name (s.toks + 1)) v es) (putN name es n)) := by
    rw [← e1]
    exact Heap.get?_update_self _ hdx (by rw [e1]; rfl)
  refine wpAny_bind (wpAny_lookBehind hget (pastItsLine_dict (by rw [List.size_toArray, sizeLine_eq]; omega)) ?_)
  exact wpAny_pure (h _ (Heap.SameBut.update ..) hget)
end

/-- what a class must be for its instances' attributes to be plainly read | stored -/
structure ClsR (c : Cx) (C : Addr) (name : Str) : Prop where
  get : plainGet c.K C name = true
  dict : hasDictIn c.K C = true
structure ClsW (c : Cx) (C : Addr) : Prop where
  set : findIn c.K (.ref C) "__setattr__" = some (some (.builtin "object.__setattr__"))
  over : plainOver c.K C = true
  dict : hasDictIn c.K C = true

def V.handed : V → Bool
  | .val (.builtin i) => (withoutEnding? i "#data").isNone
  | _ => true
theorem V.handed_is {z : Led} {ρ : List Addr} {v : V} {w : Value} (h : v.handed = true) (r : VR z ρ v w) : handedIn w = true := by
  cases r <;> first | rfl | skip
  cases w <;> first | rfl | exact h

section
variable {c : Cx} {env : Env} {D : Nat} {l : Loc} {σ : Hp} {Q : V → Hp → Prop} {C : Addr} {fs fs' : List (Nat × V)} {name : Nat} {v : V} {i : Nat}
theorem PR.inst_inv {z : Led} {ρ : List Addr} {C : Addr} {fs : List (Nat × V)} {a : Addr} {p : Led} (h : PR z ρ (.inst C fs) a p) : ∃ dx sl es n, p = [(a, ⟨.ref C, some dx, .plain, sl⟩), (dx, dictOf es n)] ∧ ER z ρ fs es := by
  cases h with
  | inst l => exact ⟨_, _, _, _, rfl, l⟩
/-- an attribute of an owned object -/
theorem ev1_attr (hi : σ[i]? = some (.inst C fs)) (g : FG name v fs) (k : ClsR c C (nm name)) (a : Option Value) (ha : findIn c.K (.ref C) (nm name) = some a) (hn : noGet c.K a = true) (hv : v.handed = true) (h : Q v σ) : EV1 c env D (.ref i) (fun a => getAttr a (nm name) true) l σ Q := by
  intro A g' ρ z s Q' E' w ok R r q
  cases r with
  | ref hr =>
    rename_i x
    obtain ⟨x', p, h1, h2, h3⟩ := R.toRp.at hi
    rw [hr] at h1; cases h1
    obtain ⟨dx, sl, es, n, rfl, hE⟩ := h2.inst_inv
    obtain ⟨w, hw, rw'⟩ := hE.get g
    have I : InstAt s.heap x ⟨.ref C, some dx, .plain, sl⟩ C (some (dictOf es n)) := ⟨(h3 _ (.head _)).1, rfl, rfl, (h3 _ (.tail _ (.head _))).1⟩
    exact get_value (R.base.X.keeps R.keep) I (plainGet_of k.get).1 (findObj_own k.dict ha hn (by rw [lookIn_dict]; exact hw)) (V.handed_is hv rw') (q _ _ _ _ _ _ h (R.toks _) (Go.toks ..) rw')
/-- an attribute of an object that stays as it is -/
theorem ev1_attrZ (g : FG name v fs) (k : ClsR c C (nm name)) (a : Option Value) (ha : findIn c.K (.ref C) (nm name) = some a) (hn : noGet c.K a = true) (hv : v.handed = true) (h : Q v σ) : EV1 c env D (.obj C fs) (fun a => getAttr a (nm name) true) l σ Q := by
  intro A g' ρ z s Q' E' w ok R r q
  cases r with
  | obj hx hdx hE =>
    obtain ⟨w, hw, rw'⟩ := hE.get g
    have I := InstAt.mk (h := s.heap) (C := C) (od := some (dictOf _ _)) (R.frz _ hx).1 rfl rfl (R.frz _ hdx).1
    exact get_value (R.base.X.keeps R.keep) I (plainGet_of k.get).1 (findObj_own k.dict ha hn (by rw [lookIn_dict]; exact hw)) (V.handed_is hv rw') (q _ _ _ _ _ _ h (R.toks _) (Go.toks ..) rw')
/-- a class's own value, read from its object -/
theorem ev1_cattr (hi : σ[i]? = some (.inst C fs)) (g : noKey name fs = true) (k : ClsR c C (nm name)) (a : Value) (ha : findIn c.K (.ref C) (nm name) = some (some a)) (hn : specialIn c.K a "__get__" = some none) (hv : handedIn a = true) (hc : copiedNames.contains (nm name) = false) (h : Q (absV a) σ) :
    EV1 c env D (.ref i) (fun a => getAttr a (nm name) true) l σ Q := by
  intro A g' ρ z s Q' E' w ok R r q
  cases r with
  | ref hr =>
    rename_i x
    obtain ⟨x', p, h1, h2, h3⟩ := R.toRp.at hi
    rw [hr] at h1; cases h1
    obtain ⟨dx, sl, es, n, rfl, hE⟩ := h2.inst_inv
    have I : InstAt s.heap x ⟨.ref C, some dx, .plain, sl⟩ C (some (dictOf es n)) := ⟨(h3 _ (.head _)).1, rfl, rfl, (h3 _ (.tail _ (.head _))).1⟩
    exact get_value (R.base.X.keeps R.keep) I (plainGet_of k.get).1 (findObj_cls k.dict ha hn hv hc (by rw [lookIn_dict]; exact hE.none g)) hv (q _ _ _ _ _ _ h (R.toks _) (Go.toks ..) (absV_is ..))
/-- a method -/
theorem em_inst {QM : V → List V → Hp → Prop} {f : Addr} (hi : σ[i]? = some (.inst C fs)) (g : noKey name fs = true) (k : ClsR c C (nm name)) (hf : findIn c.K (.ref C) (nm name) = some (some (.ref f))) (ht : isFn c.K (.ref f) = true) (h : QM (.val (.ref f)) [.ref i] σ) : EM c env D (.ref i) (nm name) l σ QM := by
  intro A g' ρ z s Q' E' w pl ok R r q
  cases r with
  | ref hr =>
    rename_i x
    obtain ⟨x', p, h1, h2, h3⟩ := R.toRp.at hi
    rw [hr] at h1; cases h1
    obtain ⟨dx, sl, es, n, rfl, hE⟩ := h2.inst_inv
    have I : InstAt s.heap x ⟨.ref C, some dx, .plain, sl⟩ C (some (dictOf es n)) := ⟨(h3 _ (.head _)).1, rfl, rfl, (h3 _ (.tail _ (.head _))).1⟩
    exact method_fn (R.base.X.keeps R.keep) I (plainGet_of k.get).1 (plainGet_of k.get).2 hf (beq_iff_eq.mp ht) (by show (lookIn (nm name) (dictOf es n)).map _ = _; rw [lookIn_dict, hE.none g]; rfl)
      (q _ _ _ _ _ _ _ _ h R (Go.refl ..) (.val _) (.cons (.ref hr) .nil))
theorem em_obj {QM : V → List V → Hp → Prop} {f : Addr} (g : noKey name fs = true) (k : ClsR c C (nm name)) (hf : findIn c.K (.ref C) (nm name) = some (some (.ref f))) (ht : isFn c.K (.ref f) = true) (h : QM (.val (.ref f)) [.obj C fs] σ) : EM c env D (.obj C fs) (nm name) l σ QM := by
  intro A g' ρ z s Q' E' w pl ok R r q
  have r0 := r
  cases r with
  | obj hx hdx hE =>
    have I := InstAt.mk (h := s.heap) (C := C) (od := some (dictOf _ _)) (R.frz _ hx).1 rfl rfl (R.frz _ hdx).1
    exact method_fn (R.base.X.keeps R.keep) I (plainGet_of k.get).1 (plainGet_of k.get).2 hf (beq_iff_eq.mp ht) (by show (lookIn (nm name) (dictOf _ _)).map _ = _; rw [lookIn_dict, hE.none g]; rfl)
      (q _ _ _ _ _ _ _ _ h R (Go.refl ..) (.val _) (.cons r0 .nil))
/-- an attribute is stored -/
theorem eu_set {Q : Hp → Prop} {u : V} (hi : σ[i]? = some (.inst C fs)) (g : FP name v fs fs') (k : ClsW c C) (ht : takerIn c.K C (nm name) = some none) (hz : fs'.length ≤ 1000) (h : Q (σ.set i (.inst C fs'))) : EU3 c env D (.ref i) v u (fun a b _ => setAttr a (nm name) b) l σ Q := by
  intro A g' ρ z s Q' E' w₁ w₂ w₃ ok R r r₂ r₃ q
  cases r with
  | ref hr =>
    rename_i x
    obtain ⟨x', p, h1, h2, h3⟩ := R.toRp.at hi
    rw [hr] at h1; cases h1
    obtain ⟨dx, sl, es, n, rfl, hE⟩ := h2.inst_inv
    have I : InstAt s.heap x ⟨.ref C, some dx, .plain, sl⟩ C (some (dictOf es n)) := ⟨(h3 _ (.head _)).1, rfl, rfl, (h3 _ (.tail _ (.head _))).1⟩
    have hL : env.locals ≠ dx := fun e => (h3 _ (.tail _ (.head _))).2.2 (by simp [e])
    have hput := hE.put (x := name) (hs := PyData.keyHash c.w.params (nm name)) (t := s.toks + 1) r₂ g
    refine set_raw (R.base.X.keeps R.keep) I rfl k.set k.over ht k.dict hE.some (by rw [hput.length]; exact hz) fun h' hs hg => ?_
    have P : Rp c g' [env.locals] ρ z (σ.set i (.inst C fs')) { s with heap := h', toks := s.toks + 2 } := R.toRp.upd (s' := { s with heap := h', toks := s.toks + 2 }) hi hr (b := dx) (fun p hp hh => by
      obtain ⟨dx', sl', es', n', rfl, hE'⟩ := hp.inst_inv
      have e0 := (hh _ (.head _)).symm.trans (h3 _ (.head _)).1
      have : dx' = dx ∧ sl' = sl := by
        have := Option.some.inj e0
        injection this with _ a _ b
        exact ⟨Option.some.inj a, b⟩
      obtain ⟨rfl, rfl⟩ := this
      refine ⟨by simp, _, .inst (sl := sl') (n := putN (nm name) es n) (dx := dx') hput, rfl, fun q hq => ?_⟩
      rcases List.mem_cons.mp hq with rfl | hq
      · refine (hs.2 _ fun e => ?_).trans (h3 _ (.head _)).1
        have a1 := (h3 _ (.head _)).1
        have a2 := (h3 _ (.tail _ (.head _))).1
        simp only at e a1 a2
        rw [e, a2] at a1
        cases a1
      · cases List.mem_singleton.mp hq; exact hg) hs
    refine q _ _ _ _ h (R.mk' P (Ext.refl ..) fun m hm => hm.sameBut hs hL) ⟨Ext.refl .., fun b o e => ?_, fun _ h => .inl h⟩
    by_cases hb : b = dx
    · subst hb; exact ⟨_, hg⟩
    · exact ⟨o, (hs.2 b hb).trans e⟩
end
end
section
open PySem PySem.W PyProof.Rows PySem.Calls

/-- an owned object becomes a value that stays as it is -/
inductive Fz : AO → V → Prop
  | inst {C fs} : Fz (.inst C fs) (.obj C fs)
  | list {vs} : Fz (.list vs) (.lst vs)
  | dict {ks vs} : Fz (.dict ks vs) (.dct ks vs)

theorem Rp.freeze {c g X ρ z σ} {s : Shared} (R : Rp c g X ρ z σ s) {i : Nat} {o : AO} {v : V} (hi : σ[i]? = some o) (hz : Fz o v) {a : Addr} (ha : ρ[i]? = some a) :
    ∃ z', Rp c g X ρ z' (σ.set i .dead) s ∧ Go g ρ z s ρ z' s ∧ VR z' ρ v (.ref a) := by
  obtain ⟨led, a', nd, d⟩ := R.own
  obtain ⟨x, p, pre, post, hx, rfl, hp, h4⟩ := a'.split hi
  rw [ha] at hx; cases hx
  have e : Ext ρ z ρ (p ++ z) := ⟨fun _ _ h => h, fun _ h => List.mem_append_right _ h⟩
  have sub : ∀ q ∈ pre ++ post, q ∈ pre ++ p ++ post := fun q hq => by rcases List.mem_append.mp hq with h | h <;> simp [h]
  have nd' := nd
  simp only [List.map_append, List.append_assoc] at nd'
  rw [List.nodup_append] at nd'
  obtain ⟨n1, n2, n3⟩ := nd'
  rw [List.nodup_append] at n2
  refine ⟨p ++ z, ⟨R.base, R.keep, ⟨pre ++ post, ?_, ?_, fun q hq => ⟨(d q (sub q hq)).1, (d q (sub q hq)).2.1, (d q (sub q hq)).2.2.1, fun r hr => ?_⟩⟩, fun q hq => ?_, R.off, R.tabs, R.os, R.dr, R.gens, fun p hp => List.mem_append_right _ (R.kz p hp)⟩,
    ⟨e, fun b o h => ⟨o, h⟩, fun q hq => ?_⟩, ?_⟩
  · have := (h4 .dead [] (.dead _)).mono e
    simpa using this
  · rw [List.map_append, List.nodup_append]
    exact ⟨n1, n2.2.1, fun x hx y hy => n3 x hx y (List.mem_append_right _ hy)⟩
  · rcases List.mem_append.mp hr with h | h
    · rcases List.mem_append.mp hq with h' | h'
      · exact (n3 _ (List.mem_map_of_mem h') _ (List.mem_append_left _ (List.mem_map_of_mem h))).symm
      · exact n2.2.2 _ (List.mem_map_of_mem h) _ (List.mem_map_of_mem h')
    · exact (d q (sub q hq)).2.2.2 r h
  · rcases List.mem_append.mp hq with h | h
    · have := d q (by simp [h]); exact ⟨this.1, this.2.2.1⟩
    · exact R.frz q h
  · rcases List.mem_append.mp hq with h | h
    · exact .inr (d q (by simp [h])).2.1
    · exact .inl h
  · cases hz with
    | inst =>
      obtain ⟨dx, sl, es, n, rfl, hE⟩ := hp.inst_inv
      exact .obj (List.mem_append_left _ (.head _)) (List.mem_append_left _ (.tail _ (.head _))) (hE.mono e)
    | list =>
      cases hp with
      | list l => exact .lst (List.mem_append_left _ (.head _)) (l.mono e)
    | dict =>
      cases hp with
      | dict hm hd hl => exact .dct (List.mem_append_left _ (.head _)) hm hd (hl.mono e)

section
variable {c : Cx} {env : Env} {D : Nat} {l : Loc} {σ : Hp} {f : V} {args : List V} {kw : List (Str × V)} {Q : V → Hp → Prop}
/-- what a call hands back is kept as it is -/
theorem FC.freeze (h : FC c D f args kw σ fun v σ' => ∃ i o v', v = .ref i ∧ σ'[i]? = some o ∧ Fz o v' ∧ Q v' (σ'.set i .dead)) : FC c D f args kw σ Q := by
  intro A g ρ z s R wf ws kws ok P r1 r2 r3 q
  refine h A g ρ z s R wf ws kws ok P r1 r2 r3 fun v w σ' ρ' z' s' hq P' G' r' => ?_
  obtain ⟨i, o, v', rfl, hi, hz, hq⟩ := hq
  cases r' with
  | ref hr =>
    obtain ⟨z'', P2, G2, r2⟩ := P'.freeze hi hz hr
    exact q _ _ _ _ _ _ hq P2 (G'.trans G2) r2
theorem EV.freeze {t : Sem Value} (h : EV c env D t l σ fun v σ' => ∃ i o v', v = .ref i ∧ σ'[i]? = some o ∧ Fz o v' ∧ Q v' (σ'.set i .dead)) : EV c env D t l σ Q := by
  intro A g ρ z s Q' E' ok R q
  refine h A g ρ z s Q' E' ok R fun v w σ' ρ' z' s' hq R' G' r' => ?_
  obtain ⟨i, o, v', rfl, hi, hz, hq⟩ := hq
  cases r' with
  | ref hr =>
    obtain ⟨z'', P2, G2, r2⟩ := R'.toRp.freeze hi hz hr
    exact q _ _ _ _ _ _ hq (R'.mk' P2 G2.toExt fun _ h => h) (G'.trans G2) r2

/-- a class is called: the object, then its __init__ -/
theorem fc_class {C fI : Addr} (hm : makesIn c.K C = true) (hi : findIn c.K (.ref C) "__init__" = some (some (.ref fI))) (hf : typeIn c.K (.ref fI) = some (.type "function"))
    (h : FC c D (.val (.ref fI)) (.ref σ.length :: args) kw (σ ++ [.inst C []]) fun v σ' => v = .none ∧ Q (.ref σ.length) σ') : FC c (D + 1) (.val (.ref C)) args kw σ Q := by
  intro A g ρ z s R wf ws kws ok P r1 r2 r3 q
  cases r1
  have X := P.base.X.keeps P.keep
  obtain ⟨led0, a0, _⟩ := P.own
  have hlen : σ.length = ρ.length := a0.length
  obtain ⟨hh, gg, dd, tt, os⟩ := s
  have k : ∀ b o, hh.get? b = some o → ((hh.push emptyDict).push (instObj C hh.objs.size)).get? b = some o := fun b o e => Heap.get?_push_of_some _ (Heap.get?_push_of_some _ e)
  have g1 : (hh.push emptyDict).get? hh.objs.size = some emptyDict := Heap.get?_push_size _ rfl
  have g2 : ((hh.push emptyDict).push (instObj C hh.objs.size)).get? (hh.objs.size + 1) = some (instObj C hh.objs.size) := by
    have := Heap.get?_push_size (hh.push emptyDict) (o := instObj C hh.objs.size) rfl
    rwa [Heap.size_push] at this
  have P1 : Rp c g [] (ρ ++ [hh.objs.size + 1]) z (σ ++ [.inst C []]) ⟨(hh.push emptyDict).push (instObj C hh.objs.size), gg, dd, tt, os⟩ :=
    P.new (s' := ⟨(hh.push emptyDict).push (instObj C hh.objs.size), gg, dd, tt, os⟩) k (.inst (dx := hh.objs.size) (sl := #[]) (n := 0) .nil) (by simp) (fun q hq => by
      rcases List.mem_cons.mp hq with rfl | hq
      · exact ⟨g2, fresh_at (Nat.le_succ _)⟩
      · cases List.mem_singleton.mp hq
        exact ⟨Heap.get?_push_of_some _ g1, fresh_at (Nat.le_refl _)⟩)
  have G1 : Go g ρ z ⟨hh, gg, dd, tt, os⟩ (ρ ++ [hh.objs.size + 1]) z ⟨(hh.push emptyDict).push (instObj C hh.objs.size), gg, dd, tt, os⟩ := ⟨Ext.push .., fun b o e => ⟨o, k b o e⟩, fun _ h => .inl h⟩
  refine make_core (makes_of X hm) (looks_findIn X hi) (fun self => bind_fn X self hf) (.inl rfl) ?_
  have ok' : Ok (A.under (.builtin "type.__call__" ⟨.ref C :: ws, (kw.map (·.1)).zip kws⟩)) D := ⟨ok.h, by have := ok.d; show A.depth + 1 + 3 * D + 3 < _; omega, by have := ok.u; show A.units + 1 + 20 * D + 20 < _; omega⟩
  refine h _ g (ρ ++ [hh.objs.size + 1]) z _ _ (.ref fI) (.ref (hh.objs.size + 1) :: ws) kws ok' P1 (.val _) (.cons (.ref ?_) (r2.mono G1.toExt)) (r3.mono G1.toExt) fun v w σ' ρ' z' s' hq P' G' r' => ?_
  · rw [hlen]; simp
  · obtain ⟨rfl, hq⟩ := hq
    cases r'
    refine ⟨rfl, q _ _ _ _ _ _ hq P' (G1.trans G') (.ref (G'.r _ _ ?_))⟩
    rw [hlen]; simp

/-- a property is read -/
theorem ev1_prop {i : Nat} {C p fget : Addr} {fs : List (Nat × V)} {name : Nat} {rest : List Value} (hi : σ[i]? = some (.inst C fs)) (k : ClsR c C (nm name)) (ha : findIn c.K (.ref C) (nm name) = some (some (.ref p)))
    (hn : specialIn c.K (.ref p) "__get__" = some (some (.builtin "property.__get__"))) (ht : takesIn c.K (.ref p) = some true) (hp : recIn c.K p "property" = some (.ref fget :: rest))
    (h : FC c D (.val (.ref fget)) [.ref i] [] σ fun v σ' => v.handed = true ∧ Q v σ') : EV1 c env (D + 1) (.ref i) (fun a => getAttr a (nm name) true) l σ Q := by
  intro A g' ρ z s Q' E' w ok R r q
  have r0 := r
  cases r with
  | ref hr =>
    rename_i x
    obtain ⟨x', pc, h1, h2, h3⟩ := R.toRp.at hi
    rw [hr] at h1; cases h1
    obtain ⟨dx, sl, es, n, rfl, hE⟩ := h2.inst_inv
    have X := R.base.X.keeps R.keep
    have I : InstAt s.heap x ⟨.ref C, some dx, .plain, sl⟩ C (some (dictOf es n)) := ⟨(h3 _ (.head _)).1, rfl, rfl, (h3 _ (.tail _ (.head _))).1⟩
    refine get_bind X I (plainGet_of k.get).1 (findObj_data (by obtain ⟨cd, hc, _⟩ := any_some k.dict; rw [hc]; rfl) ha hn ht) (plainGet_of k.get).2 (wpAny_call (prop_get (s := { s with toks := s.toks + 1 }) X hp ?_))
    have R1 := R.toks (s.toks + 1)
    obtain ⟨g1, P, back⟩ := R1.out
    have ok' : Ok A.in1 D := ⟨ok.h, by have := ok.d; show A.depth + 3 * D + 3 < _; omega, by have := ok.u; show A.units + 1 + 20 * D + 20 < _; omega⟩
    refine h A.in1 g1 ρ z _ _ (.ref fget) [.ref x] [] ok' P (.val _) (.cons r0 .nil) .nil fun v w σ' ρ' z' s' hq P' G' r' => ?_
    obtain ⟨RB, GB⟩ := back _ _ _ _ P' G'
    exact handed_on (V.handed_is hq.1 r') (q _ _ _ _ _ _ hq.2 RB ((Go.toks ..).trans GB) r')
/-- a property is stored -/
theorem eu_prop {i : Nat} {C p fset : Addr} {fs : List (Nat × V)} {name : Nat} {a : Value} {v u : V} {rest : List Value} {Q : Hp → Prop} (hi : σ[i]? = some (.inst C fs)) (k : ClsW c C) (ht : takerIn c.K C (nm name) = some (some (.ref p)))
    (hT : typeIn c.K (.ref p) = some (.type "property")) (hp : recIn c.K p "property" = some (a :: .ref fset :: rest))
    (h : FC c D (.val (.ref fset)) [.ref i, v] [] σ fun _ σ' => Q σ') : EU3 c env (D + 1) (.ref i) v u (fun a b _ => setAttr a (nm name) b) l σ Q := by
  intro A g' ρ z s Q' E' w₁ w₂ w₃ ok R r r₂ r₃ q
  have r0 := r
  cases r with
  | ref hr =>
    rename_i x
    obtain ⟨x', pc, h1, h2, h3⟩ := R.toRp.at hi
    rw [hr] at h1; cases h1
    obtain ⟨dx, sl, es, n, rfl, hE⟩ := h2.inst_inv
    have X := R.base.X.keeps R.keep
    have I : InstAt s.heap x ⟨.ref C, some dx, .plain, sl⟩ C (some (dictOf es n)) := ⟨(h3 _ (.head _)).1, rfl, rfl, (h3 _ (.tail _ (.head _))).1⟩
    refine set_plain X I k.set (osa_descr (s := { s with toks := s.toks + 1 }) KF.slot_pset X I k.over ht hT (prop_set (s := { s with toks := s.toks + 1 }) X hp ?_))
    have R1 := R.toks (s.toks + 1)
    obtain ⟨g1, P, back⟩ := R1.out
    have ok' : Ok A.in1.in1 D := ⟨ok.h, by have := ok.d; show A.depth + 3 * D + 3 < _; omega, by have := ok.u; show A.units + 1 + 1 + 20 * D + 20 < _; omega⟩
    refine h A.in1.in1 g1 ρ z _ _ (.ref fset) [.ref x, w₂] [] ok' P (.val _) (.cons r0 (.cons r₂ .nil)) .nil fun v w σ' ρ' z' s' hq P' G' r' => ?_
    obtain ⟨RB, GB⟩ := back _ _ _ _ P' G'
    exact q _ _ _ _ hq RB ((Go.toks ..).trans GB)
end
end
section
open PySem PySem.W PyProof.Rows PySem.Calls

/-- the frame's own list of addresses grows by an object that is nobody's -/
theorem Rp.addX' {c g X ρ z σ} {s s' : Shared} (R : Rp c g X ρ z σ s) (k : ∀ b o, s.heap.get? b = some o → s'.heap.get? b = some o) {L : Addr} (hL : s.heap.get? L = none) (hL' : ∃ o, s'.heap.get? L = some o)
    (h1 : s'.os = s.os := by rfl) (h2 : s'.drawn = s.drawn := by rfl) (h3 : s'.gens = s.gens := by rfl) : Rp c g (L :: X) ρ z σ s' := by
  have J := R.grow k h1 h2 h3
  obtain ⟨led, a, b, d⟩ := R.own
  refine ⟨R.base, J.keep, ⟨led, a, b, fun p hp => ⟨k _ _ (d p hp).1, (d p hp).2.1, fun h => ?_, (d p hp).2.2.2⟩⟩, fun q hq => ⟨(J.frz q hq).1, fun h => ?_⟩, fun x hx => ?_, J.tabs, J.os, J.dr, J.gens, J.kz⟩
  · rcases List.mem_cons.mp h with h | h
    · exact fresh_ne (d p hp).1 hL h
    · exact (d p hp).2.2.1 h
  · rcases List.mem_cons.mp h with h | h
    · exact fresh_ne (R.frz q hq).1 hL h
    · exact (R.frz q hq).2 h
  · rcases List.mem_cons.mp hx with rfl | h
    · exact ⟨fresh_base R.keep hL, hL'⟩
    · exact J.off x h
/-- one object that is nobody's has changed -/
theorem Rp.atX' {c g X ρ z σ} {s s' : Shared} (R : Rp c g X ρ z σ s) {a : Addr} (ha : a ∈ X) (hk : a ∉ c.tk) (hs : ∀ b o, b ≠ a → s.heap.get? b = some o → s'.heap.get? b = some o) (he : ∃ o, s'.heap.get? a = some o)
    (h1 : s'.os = s.os := by rfl) (h2 : s'.drawn = s.drawn := by rfl) (h3 : s'.gens = s.gens := by rfl) : Rp c g X ρ z σ s' := by
  obtain ⟨led, a', b, d⟩ := R.own
  have hX : a ∈ X ++ c.tk := List.mem_append_left _ ha
  have ag := (R.off a hX).1
  refine ⟨R.base, fun x o e => hs x o (fun q => ?_) (R.keep x o e), ⟨led, a', b, fun p hp => ⟨hs p.1 _ (fun q => (d p hp).2.2.1 (by rw [q]; exact hX)) (d p hp).1, (d p hp).2⟩⟩,
    fun q hq => ⟨hs q.1 _ (fun e => (R.frz q hq).2 (by rw [e]; exact hX)) (R.frz q hq).1, (R.frz q hq).2⟩, fun x hx => ⟨(R.off x hx).1, ?_⟩, fun t ht => ?_, h1 ▸ R.os, h2 ▸ R.dr, h3 ▸ R.gens, R.kz⟩
  · rw [q, ag] at e; cases e
  · by_cases q : x = a
    · rw [q]; exact he
    · obtain ⟨o, e⟩ := (R.off x hx).2
      exact ⟨o, hs x o q e⟩
  · obtain ⟨ps, i1⟩ := R.tabs t ht
    have ht2 : t.2 ≠ a := fun q => hk (q ▸ List.mem_map_of_mem ht)
    have e1 : t.1 ≠ a := fun q => by
      obtain ⟨ob, eb⟩ := R.base.codes t ht
      rw [q, ag] at eb; cases eb
    have hx : Heap.ExtBut a s.heap s'.heap := fun b o hb e => hs b o hb e
    exact ⟨ps, i1.1.extBut hx e1 ht2, i1.2.extBut hx e1 ht2⟩

/-- an object of nobody's has changed, and is left alone from here on -/
theorem Rp.offI {c g X ρ z σ} {s s' : Shared} {I : Addr} (R : Rp c g (I :: X) ρ z σ s) (hI : I ∉ X ++ c.tk) (hs : ∀ b o, b ≠ I → s.heap.get? b = some o → s'.heap.get? b = some o)
    (h1 : s'.os = s.os := by rfl) (h2 : s'.drawn = s.drawn := by rfl) (h3 : s'.gens = s.gens := by rfl) : Rp c g X ρ z σ s' := by
  obtain ⟨led, a', b, d⟩ := R.own
  have ag := (R.off I (by simp)).1
  refine ⟨R.base, fun x o e => hs x o (fun q => ?_) (R.keep x o e), ⟨led, a', b, fun p hp => ⟨hs p.1 _ (fun q => (d p hp).2.2.1 (by rw [q]; simp)) (d p hp).1, (d p hp).2.1, fun h => (d p hp).2.2.1 (by simp at h ⊢; rcases h with h | h <;> simp [h]), (d p hp).2.2.2⟩⟩,
    fun q hq => ⟨hs q.1 _ (fun e => (R.frz q hq).2 (by rw [e]; simp)) (R.frz q hq).1, fun h => (R.frz q hq).2 (by simp at h ⊢; rcases h with h | h <;> simp [h])⟩, fun x hx => ?_, fun t ht => ?_, h1 ▸ R.os, h2 ▸ R.dr, h3 ▸ R.gens, R.kz⟩
  · rw [q, ag] at e; cases e
  · have hx' := R.off x (by simp at hx ⊢; rcases hx with h | h <;> simp [h])
    obtain ⟨o, e⟩ := hx'.2
    exact ⟨hx'.1, o, hs x o (fun q => hI (q ▸ hx)) e⟩
  · obtain ⟨ps, i1⟩ := R.tabs t ht
    have ht2 : t.2 ≠ I := fun q => hI (List.mem_append_right _ (q ▸ List.mem_map_of_mem ht))
    have e1 : t.1 ≠ I := fun q => by
      obtain ⟨ob, eb⟩ := R.base.codes t ht
      rw [q, ag] at eb; cases eb
    have hx : Heap.ExtBut I s.heap s'.heap := fun b o hb e => hs b o hb e
    exact ⟨ps, i1.1.extBut hx e1 ht2, i1.2.extBut hx e1 ht2⟩

/-- some of the frame's own addresses are left alone within -/
theorem Rp.inner {c : Cx} {g Xi Xo ρ z σ} {s : Shared} (P : Rp c g (Xi ++ Xo) ρ z σ s) (ho : ∀ x ∈ Xo, x ∉ Xi ∧ x ∉ c.tk) :
    ∃ g1, Rp c g1 Xi ρ z σ s ∧ ∀ ρ' z' σ' s', Rp c g1 Xi ρ' z' σ' s' → Go g1 ρ z s ρ' z' s' → Rp c g (Xi ++ Xo) ρ' z' σ' s' ∧ Go g ρ z s ρ' z' s' ∧ ∀ x ∈ Xo, ∀ o, s.heap.get? x = some o → s'.heap.get? x = some o := by
  obtain ⟨led, a, b, d⟩ := P.own
  let hid := Xi ++ c.tk ++ led.map (·.1)
  have gh : ∀ x, x ∈ hid → g.get? x = none := fun x hx => by
    rcases List.mem_append.mp hx with q | q
    · exact (P.off x (by simp only [List.mem_append] at q ⊢; rcases q with q | q <;> simp [q])).1
    · obtain ⟨p, hp, rfl⟩ := List.mem_map.mp q
      exact (d p hp).2.1
  have up : ∀ x o, g.get? x = some o → (hideAll s.heap hid).get? x = some o := fun x o e => hideAll_get _ (P.keep x o e) fun q => by rw [gh x q] at e; cases e
  have nO : ∀ x ∈ Xo, x ∉ hid := fun x hx q => by
    rcases List.mem_append.mp q with q | q
    · rcases List.mem_append.mp q with q | q
      · exact (ho x hx).1 q
      · exact (ho x hx).2 q
    · obtain ⟨p, hp, e⟩ := List.mem_map.mp q
      exact (d p hp).2.2.1 (by rw [e]; simp [hx])
  have down : ∀ x, (hideAll s.heap hid).get? x = none → g.get? x = none := fun x e => by
    cases q : g.get? x with
    | none => rfl
    | some o => rw [up x o q] at e; cases e
  have hm : ∀ x, x ∈ hid → (hideAll s.heap hid).get? x = none := fun x hx => hideAll_none _ hx
  refine ⟨hideAll s.heap hid, ⟨P.base.keeps up, fun x o e => of_hideAll _ e, ⟨led, a, b, fun p hp => ⟨(d p hp).1, hm _ (List.mem_append_right _ (List.mem_map_of_mem hp)), fun q => (d p hp).2.2.1 (by simp only [List.mem_append] at q ⊢; rcases q with q | q <;> simp [q]), (d p hp).2.2.2⟩⟩,
    fun q hq => ⟨(P.frz q hq).1, fun h => (P.frz q hq).2 (by simp only [List.mem_append] at h ⊢; rcases h with h | h <;> simp [h])⟩, fun x hx => ⟨hm _ (List.mem_append_left _ hx), (P.off x (by simp only [List.mem_append] at hx ⊢; rcases hx with h | h <;> simp [h])).2⟩, P.tabs, P.os, P.dr, P.gens, P.kz⟩, ?_⟩
  intro ρ' z' σ' s' R' G
  have kO : ∀ x ∈ Xo, ∀ o, s.heap.get? x = some o → s'.heap.get? x = some o := fun x hx o e => R'.keep x o (hideAll_get _ e (nO x hx))
  have gO : ∀ x ∈ Xo, ∃ o, (hideAll s.heap hid).get? x = some o ∧ s.heap.get? x = some o := fun x hx => by
    obtain ⟨o, e⟩ := (P.off x (by simp [hx])).2
    exact ⟨o, hideAll_get _ e (nO x hx), e⟩
  obtain ⟨led', a', b', d'⟩ := R'.own
  have sp : ∀ x, x ∈ (Xi ++ Xo) ++ c.tk → x ∈ Xo ∨ x ∈ Xi ++ c.tk := fun x h => by
    simp only [List.mem_append] at h ⊢
    rcases h with (h | h) | h
    · exact .inr (.inl h)
    · exact .inl h
    · exact .inr (.inr h)
  refine ⟨⟨P.base, fun x o e => R'.keep x o (up x o e), ⟨led', a', b', fun p hp => ⟨(d' p hp).1, down _ (d' p hp).2.1, fun q => ?_, (d' p hp).2.2.2⟩⟩, fun q hq => ⟨(R'.frz q hq).1, fun h => ?_⟩, fun x hx => ?_, R'.tabs, R'.os, R'.dr, R'.gens, R'.kz⟩, G.less up, kO⟩
  · rcases sp _ q with q | q
    · obtain ⟨o, e, _⟩ := gO _ q
      rw [(d' p hp).2.1] at e; cases e
    · exact (d' p hp).2.2.1 q
  · rcases sp _ h with h | h
    · rcases G.fr q hq with hz | hz
      · exact (P.frz q hz).2 (by simp only [List.mem_append]; exact .inl (.inr h))
      · obtain ⟨o, e, _⟩ := gO _ h
        rw [hz] at e; cases e
    · exact (R'.frz q hq).2 h
  · rcases sp _ hx with h | h
    · obtain ⟨o, e, e'⟩ := gO _ h
      exact ⟨(P.off x hx).1, o, kO x h o e'⟩
    · exact ⟨down _ (R'.off x h).1, (R'.off x h).2⟩
/-- an object of the frame's own becomes a fact that stays -/
theorem Rp.frozeX {c g X ρ z σ} {s : Shared} {a : Addr} {o : Obj} (R : Rp c g (a :: X) ρ z σ s) (ha : a ∉ X ++ c.tk) (e : s.heap.get? a = some o) : Rp c g X ρ ((a, o) :: z) σ s ∧ Go g ρ z s ρ ((a, o) :: z) s := by
  obtain ⟨led, a', b, d⟩ := R.own
  have sub : ∀ x, x ∈ X ++ c.tk → x ∈ (a :: X) ++ c.tk := fun x h => by simp only [List.mem_append, List.mem_cons] at h ⊢; rcases h with h | h <;> simp [h]
  refine ⟨⟨R.base, R.keep, ⟨led, a'.mono (Ext.cons ..), b, fun p hp => ⟨(d p hp).1, (d p hp).2.1, fun h => (d p hp).2.2.1 (sub _ h), fun q hq => ?_⟩⟩, fun q hq => ?_, fun x hx => R.off x (sub x hx), R.tabs, R.os, R.dr, R.gens, fun p hp => .tail _ (R.kz p hp)⟩, Ext.cons .., fun x o e => ⟨o, e⟩, fun q hq => ?_⟩
  · rcases List.mem_cons.mp hq with rfl | h
    · intro e'; exact (d p hp).2.2.1 (by rw [← e']; simp)
    · exact (d p hp).2.2.2 q h
  · rcases List.mem_cons.mp hq with rfl | h
    · exact ⟨e, ha⟩
    · exact ⟨(R.frz q h).1, fun h' => (R.frz q h).2 (sub _ h')⟩
  · rcases List.mem_cons.mp hq with rfl | h
    · exact .inr (R.off a (by simp)).1
    · exact .inl h
theorem Rp.drop {c g X ρ z σ} {s : Shared} {a : Addr} (R : Rp c g (a :: X) ρ z σ s) : Rp c g X ρ z σ s := by
  obtain ⟨led, a', b, d⟩ := R.own
  have sub : ∀ x, x ∈ X ++ c.tk → x ∈ (a :: X) ++ c.tk := fun x h => by simp only [List.mem_append, List.mem_cons] at h ⊢; rcases h with h | h <;> simp [h]
  exact ⟨R.base, R.keep, ⟨led, a', b, fun p hp => ⟨(d p hp).1, (d p hp).2.1, fun h => (d p hp).2.2.1 (sub _ h), (d p hp).2.2.2⟩⟩, fun q hq => ⟨(R.frz q hq).1, fun h' => (R.frz q hq).2 (sub _ h')⟩, fun x hx => R.off x (sub x hx), R.tabs, R.os, R.dr, R.gens, R.kz⟩

theorem Rp.perm {c g X Y ρ z σ} {s : Shared} (R : Rp c g X ρ z σ s) (h : ∀ x, x ∈ Y → x ∈ X) : Rp c g Y ρ z σ s := by
  obtain ⟨led, a', b, d⟩ := R.own
  have sub : ∀ x, x ∈ Y ++ c.tk → x ∈ X ++ c.tk := fun x hx => (List.mem_append.mp hx).elim (fun k => List.mem_append_left _ (h x k)) (List.mem_append_right _)
  exact ⟨R.base, R.keep, ⟨led, a', b, fun p hp => ⟨(d p hp).1, (d p hp).2.1, fun h => (d p hp).2.2.1 (sub _ h), (d p hp).2.2.2⟩⟩, fun q hq => ⟨(R.frz q hq).1, fun h' => (R.frz q hq).2 (sub _ h')⟩, fun x hx => R.off x (sub x hx), R.tabs, R.os, R.dr, R.gens, R.kz⟩


theorem Rp.addXs {c g X ρ z σ} {s s' : Shared} (R : Rp c g X ρ z σ s) {Xs : List Addr} (k : ∀ b o, s.heap.get? b = some o → s'.heap.get? b = some o) (hf : ∀ x ∈ Xs, s.heap.get? x = none) (he : ∀ x ∈ Xs, ∃ o, s'.heap.get? x = some o)
    (h1 : s'.os = s.os := by rfl) (h2 : s'.drawn = s.drawn := by rfl) (h3 : s'.gens = s.gens := by rfl) : Rp c g (Xs ++ X) ρ z σ s' := by
  induction Xs with
  | nil => exact R.grow k h1 h2 h3
  | cons x Xs ih =>
    have J := ih (fun y hy => hf y (.tail _ hy)) (fun y hy => he y (.tail _ hy))
    obtain ⟨led, a, b, d⟩ := J.own
    obtain ⟨led0, a0, b0, d0⟩ := R.own
    by_cases hx : x ∈ Xs
    · exact J.perm fun y hy => by
        rcases List.mem_cons.mp hy with rfl | h
        · exact List.mem_append_left _ hx
        · exact h
    · have hxn := hf x (.head _)
      have he' := he x (.head _)
      refine ⟨R.base, J.keep, ⟨led0, a0, b0, fun p hp => ⟨k _ _ (d0 p hp).1, (d0 p hp).2.1, fun h => ?_, (d0 p hp).2.2.2⟩⟩, fun q hq => ⟨(J.frz q hq).1, fun h => ?_⟩, fun y hy => ?_, J.tabs, J.os, J.dr, J.gens, J.kz⟩
      · have h' : p.1 = x ∨ p.1 ∈ Xs ∨ p.1 ∈ X ++ c.tk := by simpa [or_assoc] using h
        rcases h' with h | h | h
        · exact fresh_ne (d0 p hp).1 hxn h
        · exact fresh_ne (d0 p hp).1 (hf _ (.tail _ h)) rfl
        · exact (d0 p hp).2.2.1 h
      · rcases List.mem_cons.mp h with h | h
        · exact fresh_ne (R.frz q hq).1 hxn h
        · exact (J.frz q hq).2 h
      · rcases List.mem_cons.mp hy with rfl | h
        · exact ⟨fresh_base R.keep hxn, he'⟩
        · exact J.off y h
theorem Rp.atXs {c g X ρ z σ} {s s' : Shared} (R : Rp c g X ρ z σ s) {Xs : List Addr} (hX : ∀ x ∈ Xs, x ∈ X ∧ x ∉ c.tk) (hs : ∀ b o, b ∉ Xs → s.heap.get? b = some o → s'.heap.get? b = some o) (he : ∀ x ∈ Xs, ∃ o, s'.heap.get? x = some o)
    (h1 : s'.os = s.os := by rfl) (h2 : s'.drawn = s.drawn := by rfl) (h3 : s'.gens = s.gens := by rfl) : Rp c g X ρ z σ s' := by
  obtain ⟨led, a', b, d⟩ := R.own
  have hXX : ∀ x ∈ Xs, x ∈ X ++ c.tk := fun x hx => List.mem_append_left _ (hX x hx).1
  refine ⟨R.base, fun x o e => hs x o (fun q => ?_) (R.keep x o e), ⟨led, a', b, fun p hp => ⟨hs p.1 _ (fun q => (d p hp).2.2.1 (hXX _ q)) (d p hp).1, (d p hp).2⟩⟩,
    fun q hq => ⟨hs q.1 _ (fun e => (R.frz q hq).2 (hXX _ e)) (R.frz q hq).1, (R.frz q hq).2⟩, fun x hx => ⟨(R.off x hx).1, ?_⟩, fun t ht => ?_, h1 ▸ R.os, h2 ▸ R.dr, h3 ▸ R.gens, R.kz⟩
  · rw [(R.off x (hXX x q)).1] at e; cases e
  · by_cases q : x ∈ Xs
    · exact he x q
    · obtain ⟨o, e⟩ := (R.off x hx).2
      exact ⟨o, hs x o q e⟩
  · obtain ⟨ps, i1⟩ := R.tabs t ht
    obtain ⟨o1, e1⟩ := R.base.codes t ht
    have n1 : t.1 ∉ Xs := fun q => by rw [(R.off _ (hXX _ q)).1] at e1; cases e1
    have n2 : t.2 ∉ Xs := fun q => (hX _ q).2 (List.mem_map_of_mem ht)
    refine ⟨ps, ?_⟩
    refine ⟨?_, ?_⟩
    · let ⟨o, vs, file, tf, flags, tg, inF, text, tt, op, a, r1, r2, r3, r4, r5, r6, b, r⟩ := i1.1
      exact ⟨o, vs, file, tf, flags, tg, inF, text, tt, op, hs _ _ n1 a, r1, r2, r3, r4, r5, r6, hs _ _ n2 b, r⟩
    · let ⟨⟨o, vs, e, r⟩, tb⟩ := i1.2
      exact ⟨⟨o, vs, hs _ _ n1 e, r⟩, hs _ _ n2 tb⟩

theorem Rp.offXs {c g X ρ z σ} {s s' : Shared} {Xs : List Addr} (R : Rp c g (Xs ++ X) ρ z σ s) (hX : ∀ x ∈ Xs, x ∉ X ++ c.tk) (hs : ∀ b o, b ∉ Xs → s.heap.get? b = some o → s'.heap.get? b = some o)
    (h1 : s'.os = s.os := by rfl) (h2 : s'.drawn = s.drawn := by rfl) (h3 : s'.gens = s.gens := by rfl) : Rp c g X ρ z σ s' := by
  obtain ⟨led, a', b, d⟩ := R.own
  have inX : ∀ x ∈ Xs, x ∈ (Xs ++ X) ++ c.tk := fun x hx => by simp [hx]
  have sub : ∀ x, x ∈ X ++ c.tk → x ∈ (Xs ++ X) ++ c.tk := fun x hx => by simp only [List.mem_append] at hx ⊢; rcases hx with h | h <;> simp [h]
  refine ⟨R.base, fun x o e => hs x o (fun q => ?_) (R.keep x o e), ⟨led, a', b, fun p hp => ⟨hs p.1 _ (fun q => (d p hp).2.2.1 (inX _ q)) (d p hp).1, (d p hp).2.1, fun h => (d p hp).2.2.1 (sub _ h), (d p hp).2.2.2⟩⟩,
    fun q hq => ⟨hs q.1 _ (fun e => (R.frz q hq).2 (inX _ e)) (R.frz q hq).1, fun h => (R.frz q hq).2 (sub _ h)⟩, fun x hx => ⟨(R.off x (sub x hx)).1, ?_⟩, fun t ht => ?_, h1 ▸ R.os, h2 ▸ R.dr, h3 ▸ R.gens, R.kz⟩
  · rw [(R.off x (inX x q)).1] at e; cases e
  · obtain ⟨o, e⟩ := (R.off x (sub x hx)).2
    exact ⟨o, hs x o (fun q => hX x q hx) e⟩
  · obtain ⟨ps, i1⟩ := R.tabs t ht
    obtain ⟨o1, e1⟩ := R.base.codes t ht
    have n1 : t.1 ∉ Xs := fun q => by rw [(R.off _ (inX _ q)).1] at e1; cases e1
    have n2 : t.2 ∉ Xs := fun q => hX _ q (List.mem_append_right _ (List.mem_map_of_mem ht))
    refine ⟨ps, ?_⟩
    refine ⟨?_, ?_⟩
    · let ⟨o, vs, file, tf, flags, tg, inF, text, tt, op, a, r1, r2, r3, r4, r5, r6, b, r⟩ := i1.1
      exact ⟨o, vs, file, tf, flags, tg, inF, text, tt, op, hs _ _ n1 a, r1, r2, r3, r4, r5, r6, hs _ _ n2 b, r⟩
    · let ⟨⟨o, vs, e, r⟩, tb⟩ := i1.2
      exact ⟨⟨o, vs, hs _ _ n1 e, r⟩, hs _ _ n2 tb⟩

/-- a walk: the iterator I, the objects Xs that it needs, and the values it gives -/
structure Wk (c : Cx) (A : Around) (Xs : List Addr) (I : Addr) (vs : List V) (Sg : Hp → Prop) (St : Nat → List Addr → Led → Heap → Prop) : Prop where
  item : ∀ (i : Nat) (v : V) (g : Heap) (X ρ : List Addr) (z : Led) (σ : Hp) (s : Shared) (Q' : Option Value → Shared → Prop) (E' : Value → Shared → Prop), vs[i]? = some v → Rp c g X ρ z σ s → (∀ x ∈ Xs, x ∈ X ∧ x ∉ c.tk) → Sg σ → St i ρ z s.heap →
    (∀ w ρ' z' s', Rp c g X ρ' z' σ s' → Go g ρ z s ρ' z' s' → (∀ b o, b ∉ Xs → s.heap.get? b = some o → s'.heap.get? b = some o) → VR z' ρ' v w → St (i + 1) ρ' z' s'.heap →
      (∀ (t : Expr) (Q₁ : Unit → Shared → Prop) (E₁ : Value → Shared → Prop), (∀ s'', Rp c g X ρ' z' σ s'' → Go g ρ' z' s' ρ' z' s'' → (∀ b o, b ∉ Xs → s'.heap.get? b = some o → s''.heap.get? b = some o) → St (i + 1) ρ' z' s''.heap → Q₁ () s'') → wpAny c.M A (letOwnedTupleGo t (.ref I) w) Q₁ E₁ s') →
      Q' (some w) s') → wpAny c.M A (pyNext (.ref I)) Q' E' s
  done : ∀ (g : Heap) (X ρ : List Addr) (z : Led) (σ : Hp) (s : Shared) (Q' : Option Value → Shared → Prop) (E' : Value → Shared → Prop), Rp c g X ρ z σ s → (∀ x ∈ Xs, x ∈ X ∧ x ∉ c.tk) → Sg σ → St vs.length ρ z s.heap →
    (∀ s', (∀ b o, b ∉ Xs → s.heap.get? b = some o → s'.heap.get? b = some o) → s'.os = s.os → s'.drawn = s.drawn → s'.gens = s.gens → Q' none s') → wpAny c.M A (pyNext (.ref I)) Q' E' s
  keep : ∀ i ρ z ρ' z' h h', St i ρ z h → Ext ρ z ρ' z' → (∀ x ∈ Xs, ∀ o, h.get? x = some o → h'.get? x = some o) → (∀ p ∈ z, h.get? p.1 = some p.2) → (∀ p ∈ z, h'.get? p.1 = some p.2) → St i ρ' z' h'
  self : ∀ i ρ z (s : Shared) (Q' E' : Value → Shared → Prop), St i ρ z s.heap → Q' (.ref I) s → wpAny c.M A (pyIter (.ref I)) Q' E' s
  mem : I ∈ Xs
  sole : ∀ i ρ z h, St i ρ z h → ∀ x ∈ Xs, ∃ o, h.get? x = some o

/-- what a loop may walk over, and the values it gives -/
def Iterable (c : Cx) (v : V) (vs : List V) (Sg : Hp → Prop) : Prop :=
  ∀ (A : Around) (g : Heap) (X : List Addr) (ρ : List Addr) (z : Led) (σ : Hp) (s : Shared) (Q' E' : Value → Shared → Prop) (w : Value), A.handled = none → Rp c g X ρ z σ s → Sg σ → VR z ρ v w →
    (∀ I Xs St s', Wk c A Xs I vs Sg St → Rp c g (Xs ++ X) ρ z σ s' → (∀ b o, s.heap.get? b = some o → s'.heap.get? b = some o) → (∀ x ∈ Xs, s.heap.get? x = none) → St 0 ρ z s'.heap → s'.os = s.os → s'.drawn = s.drawn → s'.gens = s.gens → Q' (.ref I) s') → wpAny c.M A (pyIter w) Q' E' s

theorem lg_plain {M : Model} {A : Around} {s : Shared} {t : Expr} {I : Addr} {o : Obj} {n : String} {w : Value} {Q : Unit → Shared → Prop} {E : Value → Shared → Prop} (e : s.heap.get? I = some o) (hc : o.cls = .type n)
    (hn : ["enumerate", "zip", "dict_itemiterator", "dict_reverseitemiterator", "odict_iterator", "itertools.zip_longest", "itertools.pairwise"].contains n = false) (h : Q () s) : wpAny M A (letOwnedTupleGo t (.ref I) w) Q E s := by
  obtain ⟨oc, od, oda, os⟩ := o
  simp only at hc
  subst hc
  have main : wpAny M A (match (Value.ref I, w) with
    | (.ref r, .ref a) => (do
      let o ← load r
      match o.cls, o.data with
      | .type n, .fields vs =>
        if (["enumerate", "zip", "dict_itemiterator", "dict_reverseitemiterator", "odict_iterator", "itertools.zip_longest", "itertools.pairwise"].contains n && vs[0]? == some (rawInt a)) = true then do
          rule "for.unpacks-the-owned-tuple"
          updateField r 0 .none
        else pure ()
      | _, _ => pure ())
    | _ => pure ()) Q E s := by
    cases w <;> first | exact wpAny_pure h | skip
    refine wpAny_bind (wpAny_load e ?_)
    cases oda <;> first | exact wpAny_pure h | skip
    show wpAny M A (if _ then _ else _) Q E s
    rw [hn, Bool.false_and]
    exact wpAny_pure h
  cases t <;> first | exact wpAny_pure h | exact main

/-- a walk of the library's, over an iterator that stands alone and objects that stay as they are -/
theorem wk_of {c : Cx} {A : Around} {I : Addr} {fp : List Addr} {P : Nat → Value → Prop} {S₀ : Nat → Heap → Prop} {vs : List V} {z₀ : Led} {ρ₀ : List Addr} {n : String} (W : Walks c.prog c.w A I fp [I] vs.length P S₀) (hfp : ∀ b ∈ fp, b = I ∨ ∃ o, (b, o) ∈ z₀)
    (hP : ∀ i w, P i w → ∃ v, vs[i]? = some v ∧ VR z₀ ρ₀ v w) (hS : ∀ i h, S₀ i h → ∃ o, h.get? I = some o ∧ o.cls = .type n)
    (hn : ["enumerate", "zip", "dict_itemiterator", "dict_reverseitemiterator", "odict_iterator", "itertools.zip_longest", "itertools.pairwise"].contains n = false) : Wk c A [I] I vs (fun _ => True) (fun i ρ z h => S₀ i h ∧ Ext ρ₀ z₀ ρ z) where
  mem := .head _
  self := fun i ρ z s Q' E' st hq => W.self i s Q' E' st.1 hq
  sole := fun i ρ z h st x hx => by
    cases List.mem_singleton.mp hx
    obtain ⟨o, e, _⟩ := hS _ _ st.1
    exact ⟨o, e⟩
  keep := fun i ρ z ρ' z' h h' st e k kz kz' => ⟨W.frame _ _ _ st.1 fun b hb o e1 => by
    rcases hfp b hb with rfl | ⟨o', ho'⟩
    · exact k _ (.head _) o e1
    · have h1 := kz _ (st.2.zz _ ho')
      have h2 := kz' _ (st.2.zz _ ho')
      have : o = o' := Option.some.inj (e1.symm.trans h1)
      rw [this]; exact h2, st.2.trans e⟩
  item := fun i v g X ρ z σ s Q' E' hv R hX _ st q => by
    have hlt : i < vs.length := (List.getElem?_eq_some_iff.mp hv).1
    refine W.item i s _ _ hlt st.1 fun wv h₁ tk₁ hPv st₁ k₁ => ?_
    obtain ⟨vv, hvv, rv⟩ := hP i wv hPv
    rw [hv] at hvv; cases hvv
    obtain ⟨oI, eI, cI⟩ := hS _ _ st₁
    have ex : ∀ x ∈ [I], ∃ o, h₁.get? x = some o := fun x hx => by cases List.mem_singleton.mp hx; exact ⟨oI, eI⟩
    have kk : ∀ b o, b ∉ [I] → s.heap.get? b = some o → h₁.get? b = some o := fun b o hb e => k₁ b o hb e
    have R' : Rp c g X ρ z σ { s with heap := h₁, toks := tk₁ } := R.atXs (s' := { s with heap := h₁, toks := tk₁ }) hX kk ex
    have G' : Go g ρ z s ρ z { s with heap := h₁, toks := tk₁ } := ⟨Ext.refl .., fun b o e => by
      by_cases hb : b = I
      · subst hb; exact ⟨oI, eI⟩
      · exact ⟨o, kk b o (by simpa using hb) e⟩, fun _ h => .inl h⟩
    refine q wv ρ z _ R' G' kk (rv.mono st.2) ⟨st₁, st.2⟩ fun t Q₁ E₁ h₁' => ?_
    exact lg_plain (s := { s with heap := h₁, toks := tk₁ }) eI cI hn (h₁' _ R' (Go.refl ..) (fun _ _ _ e => e) ⟨st₁, st.2⟩)
  done := fun g X ρ z σ s Q' E' R hX _ st q => W.done s _ _ st.1 fun h₁ tk₁ k₁ => q _ k₁ rfl rfl rfl

def rngVs (a st : Int) (n : Nat) : List V := (List.range n).map fun i : Nat => V.int (a + (i : Int) * st)
theorem it_range {c : Cx} {a b st : Int} {n : Nat} (hs : Builtin.Range.small a b st = true) (hn : Builtin.Range.rangeSize a b st = (n : Int)) : Iterable c (.rng a b st) (rngVs a st n) (fun _ => True) := by
  intro A g X ρ z σ s Q' E' w hh R _ r q
  cases r with
  | rng hm =>
    refine wpAny_pyIter_range (R.frz _ hm).1 hs ?_
    have hl : (rngVs a st n).length = n := by simp [rngVs]
    have W0 := Walks.range (prog := c.prog) (w := c.w) hh s.heap.objs.size a st n
    have W : Walks c.prog c.w A s.heap.objs.size [s.heap.objs.size] [s.heap.objs.size] (rngVs a st n).length (fun i v => ∃ t, v = .int (a + i * st) t ∧ i < n) (fun i h => IsRangeIter h s.heap.objs.size (a + (i : Nat) * st) ((n : Int) - (i : Nat)) st) := by
      rw [hl]
      exact ⟨W0.sub, W0.frame, fun i s' Q E hi st' hQ => W0.item i s' Q E hi st' fun v h' tk ⟨t, e⟩ => hQ v h' tk ⟨t, e, hi⟩, W0.done, W0.self⟩
    have K := wk_of (z₀ := z) (ρ₀ := ρ) (n := "range_iterator") W (fun b hb => .inl (by simpa using hb)) (by
      rintro i w ⟨t, rfl, hi⟩
      exact ⟨.int (a + i * st), by simp [rngVs, hi], .int _ _⟩) (fun i h st => ⟨_, st, rfl⟩) (by decide)
    refine q s.heap.objs.size [s.heap.objs.size] _ { s with heap := _ } K (R.addXs (s' := { s with heap := _ }) (fun _ _ e => Heap.get?_push_of_some _ e) (fun x hx => ?_) (fun x hx => ?_)) (fun _ _ e => Heap.get?_push_of_some _ e) (fun x hx => ?_) ⟨?_, Ext.refl ..⟩ rfl rfl rfl
    · cases List.mem_singleton.mp hx; exact fresh_at (Nat.le_refl _)
    · cases List.mem_singleton.mp hx; exact ⟨_, Heap.get?_push_size _ rfl⟩
    · cases List.mem_singleton.mp hx; exact fresh_at (Nat.le_refl _)
    · show IsRangeIter _ _ _ _ _
      have e1 : a + ((0 : Nat) : Int) * st = a := by simp
      have e2 : (n : Int) - ((0 : Nat) : Int) = Builtin.Range.rangeSize a b st := by rw [hn]; simp
      rw [e1, e2]
      exact Heap.get?_push_size _ rfl
theorem it_lst {c : Cx} {vs : List V} : Iterable c (.lst vs) vs (fun _ => True) := by
  intro A g X ρ z σ s Q' E' w hh R _ r q
  cases r with
  | lst hm hl =>
    rename_i ws a n
    have hL : s.heap.IsList a ws.toArray := ⟨_, (R.frz _ hm).1, rfl, _, rfl⟩
    have ne : a ≠ s.heap.objs.size := fresh_ne (R.frz _ hm).1 (fresh_at (Nat.le_refl _))
    refine wpAny_pyIter_list hL ?_
    have W := Walks.list (prog := c.prog) (w := c.w) hh s.heap.objs.size a ne ws.toArray
    have e : ws.toArray.size = vs.length := by simp [hl.length]
    rw [e] at W
    have K := wk_of (z₀ := z) (ρ₀ := ρ) (n := "list_iterator") W (fun b hb => by
      rcases List.mem_cons.mp hb with h | h
      · exact .inl h
      · exact .inr ⟨_, by rw [List.mem_singleton.mp h]; exact hm⟩) (fun i w hw => by
      have hw' : ws[i]? = some w := by simpa using hw
      have hi : i < vs.length := by rw [hl.length]; exact (List.getElem?_eq_some_iff.mp hw').1
      obtain ⟨w', e1, r⟩ := hl.get (i := i) (v := vs[i]) (by simp [hi])
      rw [hw'] at e1; cases e1
      exact ⟨vs[i], by simp [hi], r⟩) (fun i h st => let ⟨⟨o, e, c, _⟩, _⟩ := st; ⟨o, e, c⟩) (by decide)
    refine q _ [s.heap.objs.size] _ { s with heap := _ } K (R.addXs (s' := { s with heap := _ }) (fun _ _ e => Heap.get?_push_of_some _ e) (fun x hx => ?_) (fun x hx => ?_)) (fun _ _ e => Heap.get?_push_of_some _ e) (fun x hx => ?_) ⟨⟨⟨_, Heap.get?_push_size _ rfl, rfl, rfl⟩, hL.push _⟩, Ext.refl ..⟩ rfl rfl rfl
    · cases List.mem_singleton.mp hx; exact fresh_at (Nat.le_refl _)
    · cases List.mem_singleton.mp hx; exact ⟨_, Heap.get?_push_size _ rfl⟩
    · cases List.mem_singleton.mp hx; exact fresh_at (Nat.le_refl _)
theorem it_tup {c : Cx} {vs : List V} : Iterable c (.tup vs) vs (fun _ => True) := by
  intro A g X ρ z σ s Q' E' w hh R _ r q
  cases r with
  | tup hm hl =>
    rename_i ws a n
    have hL : s.heap.IsTuple a ws.toArray := ⟨_, (R.frz _ hm).1, rfl, _, rfl⟩
    have ne : a ≠ s.heap.objs.size := fresh_ne (R.frz _ hm).1 (fresh_at (Nat.le_refl _))
    refine wpAny_pyIter_tuple hL ?_
    have W := Walks.tuple (prog := c.prog) (w := c.w) hh s.heap.objs.size a ne ws.toArray
    have e : ws.toArray.size = vs.length := by simp [hl.length]
    rw [e] at W
    have K := wk_of (z₀ := z) (ρ₀ := ρ) (n := "tuple_iterator") W (fun b hb => by
      rcases List.mem_cons.mp hb with h | h
      · exact .inl h
      · exact .inr ⟨_, by rw [List.mem_singleton.mp h]; exact hm⟩) (fun i w hw => by
      have hw' : ws[i]? = some w := by simpa using hw
      have hi : i < vs.length := by rw [hl.length]; exact (List.getElem?_eq_some_iff.mp hw').1
      obtain ⟨w', e1, r⟩ := hl.get (i := i) (v := vs[i]) (by simp [hi])
      rw [hw'] at e1; cases e1
      exact ⟨vs[i], by simp [hi], r⟩) (fun i h st => let ⟨⟨o, e, c, _⟩, _⟩ := st; ⟨o, e, c⟩) (by decide)
    refine q _ [s.heap.objs.size] _ { s with heap := _ } K (R.addXs (s' := { s with heap := _ }) (fun _ _ e => Heap.get?_push_of_some _ e) (fun x hx => ?_) (fun x hx => ?_)) (fun _ _ e => Heap.get?_push_of_some _ e) (fun x hx => ?_) ⟨⟨⟨_, Heap.get?_push_size _ rfl, rfl, rfl⟩, ⟨_, Heap.get?_push_of_some _ (R.frz _ hm).1, rfl, _, rfl⟩⟩, Ext.refl ..⟩ rfl rfl rfl
    · cases List.mem_singleton.mp hx; exact fresh_at (Nat.le_refl _)
    · cases List.mem_singleton.mp hx; exact ⟨_, Heap.get?_push_size _ rfl⟩
    · cases List.mem_singleton.mp hx; exact fresh_at (Nat.le_refl _)
theorem it_bytes {c : Cx} {b : List UInt8} : Iterable c (.bytes b) (b.map fun x => V.int (x.toNat : Int)) (fun _ => True) := by
  intro A g X ρ z σ s Q' E' w hh R _ r q
  cases r with
  | bytes _ t =>
    refine KBw.pyIter_bytes ?_
    have W := KBw.walks (prog := c.prog) (w := c.w) hh s.heap.objs.size b.toArray t
    have e : b.toArray.size = (b.map fun x => V.int (x.toNat : Int)).length := by simp
    rw [e] at W
    have K := wk_of (z₀ := z) (ρ₀ := ρ) (n := "bytes_iterator") W (fun b hb => .inl (by simpa using hb)) (fun i w hw => by
      obtain ⟨x, u, hx, rfl⟩ := hw
      exact ⟨.int (x.toNat : Int), by simp at hx; simp [hx], .int _ _⟩) (fun i h st => let ⟨o, e, c, _⟩ := st; ⟨o, e, c⟩) (by decide)
    refine q _ [s.heap.objs.size] _ { s with heap := _ } K (R.addXs (s' := { s with heap := _ }) (fun _ _ e => Heap.get?_push_of_some _ e) (fun x hx => ?_) (fun x hx => ?_)) (fun _ _ e => Heap.get?_push_of_some _ e) (fun x hx => ?_) ⟨?_, Ext.refl ..⟩ rfl rfl rfl
    · cases List.mem_singleton.mp hx; exact fresh_at (Nat.le_refl _)
    · cases List.mem_singleton.mp hx; exact ⟨_, Heap.get?_push_size _ rfl⟩
    · cases List.mem_singleton.mp hx; exact fresh_at (Nat.le_refl _)
    · exact ⟨_, Heap.get?_push_size _ rfl, rfl, rfl⟩
theorem PR.list_inv {z : Led} {ρ : List Addr} {vs : List V} {a : Addr} {p : Led} (h : PR z ρ (.list vs) a p) : ∃ ws n, p = [(a, listOf ws.toArray n)] ∧ VRL z ρ vs ws := by
  cases h with
  | list l => exact ⟨_, _, rfl, l⟩
theorem Rp.list {c : Cx} {σ : Hp} {g X ρ z} {s : Shared} (P : Rp c g X ρ z σ s) {i : Nat} {vs : List V} (hi : σ[i]? = some (.list vs)) {a : Addr} (ha : ρ[i]? = some a) :
    ∃ ws n, s.heap.get? a = some (listOf ws.toArray n) ∧ VRL z ρ vs ws ∧ a ∉ X ++ c.tk ∧ g.get? a = none := by
  obtain ⟨x, p, h1, h2, h3⟩ := P.at hi
  rw [ha] at h1; cases h1
  obtain ⟨ws, n, rfl, hl⟩ := h2.list_inv
  exact ⟨ws, n, (h3 _ (.head _)).1, hl, (h3 _ (.head _)).2.2, (h3 _ (.head _)).2.1⟩
theorem isList_of {h : Heap} {a : Addr} {ws : List Value} {n : Nat} (e : h.get? a = some (listOf ws.toArray n)) : h.IsList a ws.toArray := ⟨_, e, rfl, _, rfl⟩
/-- over an owned list that stays as it is -/
theorem it_own {c : Cx} {i : Nat} {vs : List V} : Iterable c (.ref i) vs (fun σ => σ[i]? = some (.list vs)) := by
  intro A g X ρ z σ s Q' E' w hh R hσ r q
  cases r with
  | ref hr =>
    rename_i a
    obtain ⟨ws, n, h1, h2, h3, h4⟩ := R.list hσ hr
    refine wpAny_pyIter_list (isList_of h1) ?_
    have ne : a ≠ s.heap.objs.size := fresh_ne h1 (fresh_at (Nat.le_refl _))
    generalize hI : s.heap.objs.size = I at ne
    have nI : s.heap.get? I = none := by rw [← hI]; exact fresh_at (Nat.le_refl _)
    have K : Wk c A [I] I vs (fun σ => σ[i]? = some (.list vs)) (fun j ρ' z' h => h.IsListIter I a j ∧ ρ'[i]? = some a ∧ a ≠ I) := by
      refine ⟨fun j v g X ρ z σ s Q' E' hv R hX hσ st q => ?_, fun g X ρ z σ s Q' E' R hX hσ st q => ?_, fun j ρ z ρ' z' h h' st e k kz kz' => ?_, fun j ρ z s Q' E' st hq => ?_, .head _, fun j ρ z h st x hx => ?_⟩
      · obtain ⟨ws, n, h1, h2, h3, h4⟩ := R.list hσ st.2.1
        have W := Walks.list (prog := c.prog) (w := c.w) hh I a st.2.2 ws.toArray
        have hlt : j < ws.toArray.size := by rw [List.size_toArray, ← h2.length]; exact (List.getElem?_eq_some_iff.mp hv).1
        refine W.item j s _ _ hlt ⟨st.1, isList_of h1⟩ fun wv h₁ tk₁ hPv st₁ k₁ => ?_
        obtain ⟨w', e1, rv⟩ := h2.get hv
        have e2 : ws[j]? = some wv := by simpa using hPv
        rw [e1] at e2; cases e2
        obtain ⟨oI, eI, cI, _⟩ := st₁.1
        have kk : ∀ b o, b ∉ [I] → s.heap.get? b = some o → h₁.get? b = some o := fun b o hb e => k₁ b o hb e
        have R' : Rp c g X ρ z σ { s with heap := h₁, toks := tk₁ } := R.atXs (s' := { s with heap := h₁, toks := tk₁ }) hX kk (fun x hx => by cases List.mem_singleton.mp hx; exact ⟨oI, eI⟩)
        have G' : Go g ρ z s ρ z { s with heap := h₁, toks := tk₁ } := ⟨Ext.refl .., fun b o e => by
          by_cases hb : b = I
          · subst hb; exact ⟨oI, eI⟩
          · exact ⟨o, kk b o (by simpa using hb) e⟩, fun _ h => .inl h⟩
        refine q _ ρ z _ R' G' kk rv ⟨st₁.1, st.2⟩ fun t Q₁ E₁ h₁' => ?_
        exact lg_plain (s := { s with heap := h₁, toks := tk₁ }) eI cI (by decide) (h₁' _ R' (Go.refl ..) (fun _ _ _ e => e) ⟨st₁.1, st.2⟩)
      · obtain ⟨ws, n, h1, h2, h3, h4⟩ := R.list hσ st.2.1
        have W := Walks.list (prog := c.prog) (w := c.w) hh I a st.2.2 ws.toArray
        have e : ws.toArray.size = vs.length := by simp [h2.length]
        refine W.done s _ _ ⟨by rw [e]; exact st.1, isList_of h1⟩ fun h₁ tk₁ k₁ => q _ k₁ rfl rfl rfl
      · obtain ⟨⟨o, e1, e2⟩, e3, e4⟩ := st
        exact ⟨⟨o, k _ (.head _) _ e1, e2⟩, e.r _ _ e3, e4⟩
      · exact wpAny_pyIter_listiter st.1 hq
      · cases List.mem_singleton.mp hx; exact let ⟨o, e, _⟩ := st.1; ⟨o, e⟩
    have gI : (s.heap.push { cls := .type "list_iterator", data := .fields #[.ref a, .int 0 0] }).get? I = some { cls := .type "list_iterator", data := .fields #[.ref a, .int 0 0] } := by rw [← hI]; exact Heap.get?_push_size _ rfl
    refine q I [I] _ { s with heap := _ } K (R.addXs (s' := { s with heap := _ }) (fun _ _ e => Heap.get?_push_of_some _ e) (fun x hx => ?_) (fun x hx => ?_)) (fun _ _ e => Heap.get?_push_of_some _ e) (fun x hx => ?_) ⟨⟨_, gI, rfl, rfl⟩, hr, ne⟩ rfl rfl rfl
    · cases List.mem_singleton.mp hx; exact nI
    · cases List.mem_singleton.mp hx; exact ⟨_, gI⟩
    · cases List.mem_singleton.mp hx; exact nI

section
variable {c : Cx} {env : Env} {D : Nat} {l : Loc} {σ : Hp}
/-- a target is bound -/
def EA (c : Cx) (env : Env) (D : Nat) (t : Expr) (v : V) (l : Loc) (σ : Hp) (Q : Loc → Hp → Prop) : Prop :=
  ∀ (A : Around) (g : Heap) (ρ : List Addr) (z : Led) (s : Shared) (Q' : Unit → Shared → Prop) (E' : Value → Shared → Prop) (w : Value), Ok A D → Rep c env g ρ z σ l s → VR z ρ v w →
    (∀ l' σ' ρ' z' s', Q l' σ' → Rep c env g ρ' z' σ' l' s' → Go g ρ z s ρ' z' s' → Q' () s') → wpAny c.M A (assign t env w) Q' E' s
theorem ea_name {x : Str} {p : Pos} {v : V} {l' : Loc} {Q : Loc → Hp → Prop} (u : Up x v l l') (h : Q l' σ) (hk : env.kindOf x = some .local := by (subst_vars; kernel_rfl)) : EA c env D (.Name x p) v l σ Q := by
  intro A g ρ z s Q' E' w ok R r q
  exact wpAny_assign_Name (store_local R r hk u fun s' R' G' => q _ _ _ _ _ h R' G')


/-- what a loop walks over, reckoned -/
def EIt (c : Cx) (env : Env) (D : Nat) (e : Expr) (l : Loc) (σ : Hp) (Qi : List V → (Hp → Prop) → Hp → Prop) : Prop :=
  ∀ (A : Around) (g : Heap) (ρ : List Addr) (z : Led) (s : Shared) (Q' E' : Value → Shared → Prop), Ok A D → Rep c env g ρ z σ l s →
    (∀ vs Sg σ' I Xs St ρ' z' s', Qi vs Sg σ' → Sg σ' → Wk c A Xs I vs Sg St → Rep c env g ρ' z' σ' l s' → Rp c g (Xs ++ [env.locals]) ρ' z' σ' s' → (∀ x ∈ Xs, x ∉ [env.locals] ++ c.tk) → Go g ρ z s ρ' z' s' → (∀ x ∈ Xs, s.heap.get? x = none) → St 0 ρ' z' s'.heap → Q' (.ref I) s') →
    wpAny c.M A (eval e env) (fun w s₁ => wpAny c.M A (pyIter w) Q' E' s₁) E' s
theorem eit_of {e : Expr} {Qi : List V → (Hp → Prop) → Hp → Prop} (h : EV c env D (eval e env) l σ fun v σ₁ => ∃ vs Sg, Iterable c v vs Sg ∧ Sg σ₁ ∧ Qi vs Sg σ₁) : EIt c env D e l σ Qi := by
  intro A g ρ z s Q' E' ok R q
  refine h A g ρ z s _ _ ok R fun v w σ1 ρ1 z1 s1 h1 R1 G1 r1 => ?_
  obtain ⟨vs, Sg, hI, hSg, hq⟩ := h1
  refine hI A g [env.locals] ρ1 z1 σ1 s1 _ _ w ok.h R1.toRp hSg r1 fun I Xs St s2 K P2 k2 nX st0 e1 e2 e3 => ?_
  refine q vs Sg σ1 I Xs St ρ1 z1 s2 hq hSg K (R1.grow k2 e1 e2 e3) P2 (fun x hx hm => ?_) (G1.trans (Go.same _ _ _ _ _ k2)) (fun x hx => ?_) st0
  · obtain ⟨_, e⟩ := (R1.off x hm).2
    rw [nX x hx] at e; cases e
  · cases e : s.heap.get? x with
    | none => rfl
    | some o => obtain ⟨o', e'⟩ := G1.dom x o e; rw [nX x hx] at e'; cases e'

/-- a for loop, by what holds behind the first i items -/
theorem ex_for {target iter : Expr} {body : List Stmt} {pos : Pos} {Q : Fl → Loc → Hp → Prop} (h : EIt c env D iter l σ fun vs Sg σ₁ => ∃ J : Nat → Loc → Hp → Prop, J 0 l σ₁ ∧ (∀ i l₁ σ₁, J i l₁ σ₁ → Sg σ₁) ∧
      (∀ i v l₁ σ₁, vs[i]? = some v → J i l₁ σ₁ → EA c env D target v l₁ σ₁ fun l₂ σ₂ => EX c env D (execs body env) l₂ σ₂ fun f l₃ σ₃ => match f with
        | .next => J (i + 1) l₃ σ₃ | .cont => J (i + 1) l₃ σ₃ | .brk => Q .next l₃ σ₃ | .ret v => Q (.ret v) l₃ σ₃) ∧
      ∀ l₁ σ₁, J vs.length l₁ σ₁ → Q .next l₁ σ₁)
    (hs : ∀ x, foldedSetIterable iter env x = pure x := by (subst_vars; intro _; kernel_rfl)) : EX c env D (exec (.For target iter body [] pos) env) l σ Q := by
  intro A g ρ z s Q' E' ok R q
  refine wpAny_For (h A g ρ z s _ _ ok R fun vs Sg σ1 I Xs St ρ1 z1 s2 h1 hSg K R2 RI2 nX G2 nX0 st0 => ?_) hs
  obtain ⟨J, j0, jS, step, fin⟩ := h1
  have hXt : ∀ x ∈ Xs, x ∉ c.tk := fun x hx hm => nX x hx (List.mem_append_right _ hm)
  have hXL : ∀ x ∈ Xs, x ≠ env.locals := fun x hx e => nX x hx (List.mem_append_left _ (by simp [e]))
  refine codeAny_forLoop_any (fun k s' => ∃ i l' σ' ρ' z', k = vs.length + 1 - i ∧ i ≤ vs.length ∧ Rep c env g ρ' z' σ' l' s' ∧ Rp c g (Xs ++ [env.locals]) ρ' z' σ' s' ∧ Go g ρ z s ρ' z' s' ∧ St i ρ' z' s'.heap ∧ J i l' σ') ?_ (vs.length + 1) ⟨0, l, σ1, ρ1, z1, by simp, Nat.zero_le _, R2, RI2, G2, st0, j0⟩
  rintro k s' ⟨i, l', σ', ρ', z', rfl, hi, R', RI', G', st', hJ⟩
  have hXX : ∀ x ∈ Xs, x ∈ Xs ++ [env.locals] ∧ x ∉ c.tk := fun x hx => ⟨List.mem_append_left _ hx, hXt x hx⟩
  have nL : env.locals ∉ Xs := fun h => hXL _ h rfl
  by_cases hlt : i < vs.length
  · refine K.item i vs[i] g _ ρ' z' σ' s' _ _ (by simp [hlt]) RI' hXX (jS _ _ _ hJ) st' fun wv ρ2 z2 s2' RI₂ G₂ k₂ rv st₂ lg => ?_
    refine lg _ _ _ fun s3' RI₃ G₃ k₃ st₃ => ?_
    have R₃ : Rep c env g ρ2 z2 σ' l' s3' := R'.mk' (RI₃.perm fun x hx => List.mem_append_right _ hx) (G₂.trans G₃).toExt fun m hm => hm.at' fun o e => k₃ _ o nL (k₂ _ o nL e)
    obtain ⟨g1, Rg, back⟩ := (RI₃.perm (Y := [env.locals] ++ Xs) fun x hx => by simp only [List.mem_append] at hx ⊢; exact hx.symm).inner fun x hx => ⟨by simpa using hXL x hx, hXt x hx⟩
    have RR : Rep c env g1 ρ2 z2 σ' l' s3' := ⟨Rg, R₃.ns, R₃.nd, R₃.kind, R₃.glob, R₃.bltn, R₃.lt⟩
    refine step i vs[i] l' σ' (by simp [hlt]) hJ A g1 ρ2 z2 _ _ _ wv ok RR (rv.mono G₃.toExt) fun l3 σ3 ρ3 z3 s3 h3 R3 G3 => ?_
    refine h3 A g1 ρ3 z3 s3 _ _ ok R3 fun f fw l4 σ4 ρ4 z4 s4 h4 R4 G4 r4 => ?_
    obtain ⟨PB, GB, kO⟩ := back _ _ _ _ R4.toRp (G3.trans G4)
    have RIB : Rp c g (Xs ++ [env.locals]) ρ4 z4 σ4 s4 := PB.perm fun x hx => by simp only [List.mem_append] at hx ⊢; exact hx.symm
    have RB : Rep c env g ρ4 z4 σ4 l4 s4 := ⟨PB.perm fun x hx => List.mem_append_left _ hx, R4.ns, R4.nd, R4.kind, R4.glob, R4.bltn, R4.lt⟩
    have GT : Go g ρ z s ρ4 z4 s4 := ((G'.trans G₂).trans G₃).trans GB
    have again : J (i + 1) l4 σ4 → ∃ m, m < vs.length + 1 - i ∧ ∃ i' l' σ' ρ' z', m = vs.length + 1 - i' ∧ i' ≤ vs.length ∧ Rep c env g ρ' z' σ' l' s4 ∧ Rp c g (Xs ++ [env.locals]) ρ' z' σ' s4 ∧ Go g ρ z s ρ' z' s4 ∧ St i' ρ' z' s4.heap ∧ J i' l' σ' := fun hj =>
      ⟨vs.length + 1 - (i + 1), by omega, i + 1, l4, σ4, ρ4, z4, rfl, hlt, RB, RIB, GT, K.keep _ _ _ _ _ _ _ st₃ GB.toExt kO (fun p hp => (RI₃.frz p hp).1) (fun p hp => (RIB.frz p (GB.zz p hp)).1), hj⟩
    cases r4 with
    | next => exact again h4
    | cont => exact again h4
    | brk => exact q _ _ _ _ _ _ _ h4 RB GT .next
    | ret r => exact q _ _ _ _ _ _ _ h4 RB GT (.ret r)
  · have hin : i = vs.length := by omega
    subst hin
    refine K.done g _ ρ' z' σ' s' _ _ RI' hXX (jS _ _ _ hJ) st' fun s₁ k₁ e1 e2 e3 => wpAny_execs_nil ?_
    have P₁ : Rp c g [env.locals] ρ' z' σ' s₁ := RI'.offXs nX k₁ e1 e2 e3
    refine q _ _ _ _ _ _ _ (fin _ _ hJ) (R'.mk' P₁ (Ext.refl ..) fun m hm => hm.at' fun o e => k₁ _ o nL e) ⟨G'.toExt, fun b o e => ?_, G'.fr⟩ .next
    obtain ⟨o', e'⟩ := G'.dom b o e
    exact ⟨o', k₁ b o' (fun hb => by rw [nX0 b hb] at e; cases e) e'⟩
end
end
section
open PySem PySem.W PyProof.Rows PySem.Calls

/-- the loop of a comprehension, of any target, with tests -/
theorem compLoop_gen {prog : Program} {w : World} {A : Around} {R : Result → Shared → Prop} {s : Shared} {elt target iter : Expr} {ifs : List Expr} {scope : Scope} {pos : Pos} {it acc : Value} {env : Env} (I : Nat → Shared → Prop)
    (turn : ∀ n s, I n s → wpAny (model prog w) A (pyNext it) (fun r s₁ => match r with
      | none => R (.ok .next) s₁
      | some v => wpAny (model prog w) A (letOwnedTupleGo target it v) (fun _ s₁' => wpAny (model prog w) A (assign target env v) (fun _ s₂ =>
          wpAny (model prog w) A (forIn ifs true fun c r => if r = true then do let ok ← isTrue c env (eval c env); pure (ForInStep.yield ok) else pure (ForInStep.yield r)) (fun ok s₃ =>
            if ok = true then wpAny (model prog w) A (eval elt env) (fun x s₄ =>
              wpAny (model prog w) A (call (.builtin "list.append") [acc, x]) (fun _ s₅ => ∃ m, m < n ∧ I m s₅) (notedBy (model prog w) A env fun e s' => R (.error e) s') s₄) (notedBy (model prog w) A env fun e s' => R (.error e) s') s₃
            else ∃ m, m < n ∧ I m s₃) (notedBy (model prog w) A env fun e s' => R (.error e) s') s₂) (notedBy (model prog w) A env fun e s' => R (.error e) s') s₁') (notedBy (model prog w) A env fun e s' => R (.error e) s') s₁) (notedBy (model prog w) A env fun e s' => R (.error e) s') s)
    (n : Nat) (h : I n s) :
    codeAny (model prog w) A (.compLoop (.ListComp elt [⟨target, iter, ifs, 0⟩] scope pos) 0 it acc env) R s := by
  refine codeAny_loop rfl I (fun n s hI => ?_) n h
  show wpAny _ A ((compTurn (.ListComp elt [⟨target, iter, ifs, 0⟩] scope pos) 0 it acc env).onRaise (fun x => do noteFrame x env; theTreesLotGoes x)) _ _ s
  refine wpAny_noted ?_
  rw [compTurn_list]
  refine wpAny_bind (wpAny_standAt (wpAny_bind (wpAny_mono (turn n s hI) (fun r s₁ h₁ => ?_) fun _ _ h' => h')))
  cases r with
  | none => exact wpAny_pure h₁
  | some v =>
    refine wpAny_bind (wpAny_mono h₁ (fun _ s₁' h₁' => ?_) fun _ _ h' => h')
    refine wpAny_bind (wpAny_mono h₁' (fun _ s₂ h₂ => wpAny_bind (wpAny_mono h₂ (fun ok s₃ h₃ => ?_) fun _ _ h' => h')) fun _ _ h' => h')
    cases ok with
    | false => exact wpAny_pure ⟨rfl, h₃⟩
    | true =>
      exact wpAny_bind (wpAny_bind (wpAny_mono h₃ (fun x s₄ h₄ => wpAny_bind (wpAny_mono h₄ (fun _ s₅ h₅ => wpAny_pure (wpAny_pure ⟨rfl, h₅⟩)) fun _ _ h' => h')) fun _ _ h' => h'))

section
variable {c : Cx} {env : Env} {D : Nat} {l : Loc} {σ : Hp}
/-- a while loop, by what holds ahead of each turn and a measure -/
theorem ex_while {test : Expr} {body : List Stmt} {pos : Pos} {Q : Fl → Loc → Hp → Prop} (J : Nat → Loc → Hp → Prop) (n : Nat) (j0 : J n l σ)
    (turn : ∀ n l₁ σ₁, J n l₁ σ₁ → EB c env D (isTrue test env (eval test env)) l₁ σ₁ fun b σ₂ => (b = true → EX c env D (execs body env) l₁ σ₂ fun f l₃ σ₃ => match f with
        | .next => ∃ m, m < n ∧ J m l₃ σ₃ | .cont => ∃ m, m < n ∧ J m l₃ σ₃ | .brk => Q .next l₃ σ₃ | .ret v => Q (.ret v) l₃ σ₃) ∧ (b = false → Q .next l₁ σ₂)) : EX c env D (exec (.While test body [] pos) env) l σ Q := by
  intro A g ρ z s Q' E' ok R q
  refine wpAny_While (codeAny_whileLoop (fun k s' => ∃ l' σ' ρ' z', Rep c env g ρ' z' σ' l' s' ∧ Go g ρ z s ρ' z' s' ∧ J k l' σ') ?_ n ⟨l, σ, ρ, z, R, Go.refl .., j0⟩)
  rintro k s' ⟨l', σ', ρ', z', R', G', hj⟩
  refine turn k l' σ' hj A g ρ' z' s' _ _ ok R' fun b σ2 ρ2 z2 s2 h2 R2 G2 => ?_
  cases b with
  | true =>
    refine h2.1 rfl A g ρ2 z2 s2 _ _ ok R2 fun f fw l3 σ3 ρ3 z3 s3 h3 R3 G3 r3 => ?_
    have GT := (G'.trans G2).trans G3
    cases r3 with
    | next => obtain ⟨m, hm, hj'⟩ := h3; exact ⟨m, hm, l3, σ3, ρ3, z3, R3, GT, hj'⟩
    | cont => obtain ⟨m, hm, hj'⟩ := h3; exact ⟨m, hm, l3, σ3, ρ3, z3, R3, GT, hj'⟩
    | brk => exact q _ _ _ _ _ _ _ h3 R3 GT .next
    | ret r => exact q _ _ _ _ _ _ _ h3 R3 GT (.ret r)
  | false => exact wpAny_execs_nil (q _ _ _ _ _ _ _ (h2.2 rfl) R2 (G'.trans G2) .next)

/-- the names that a comprehension sees: its own, unbound, and cells of the frame's -/
def CompLoc (env : Env) (scope : Scope) (cl : List (Str × Addr)) (l lc : Loc) : Prop :=
  ∀ p ∈ lc, p.2 = .unb ∨ (∃ i, p.2 = .cell i ∧ p ∈ l ∧ cl.lookup p.1 = env.cells.lookup p.1 ∧ ((relabel scope env).names.lookup p.1 = some .cell ∨ (relabel scope env).names.lookup p.1 = some .free))
/-- the tests of a comprehension -/
abbrev testsOf (ifs : List Expr) (env : Env) : Sem Bool := forIn ifs true fun c r => if r = true then do let ok ← isTrue c env (eval c env); pure (ForInStep.yield ok) else pure (ForInStep.yield r)
theorem eb_tests0 {QB : Bool → Hp → Prop} (h : QB true σ) : EB c env D (testsOf [] env) l σ QB := fun _ _ _ _ _ _ _ _ R q => wpAny_tests_nil (q _ _ _ _ _ h R (Go.refl ..))
theorem eb_tests1 {t : Expr} {QB : Bool → Hp → Prop} (h : EB c env D (isTrue t env (eval t env)) l σ QB) : EB c env D (testsOf [t] env) l σ QB := fun A g ρ z s Q' E' ok R q => wpAny_tests_one (h A g ρ z s _ _ ok R q)
theorem ev_comp {elt target iter : Expr} {ifs : List Expr} {scope : Scope} {pos : Pos} {cl : List (Str × Addr)} {lc : Loc} {Q : V → Hp → Prop}
    (hclos : closureFor scope env = pure cl) (hcell : ∀ y ∈ scope.names, y.2 ≠ .cell) (hkind : scope.kind = .function) (hnames : ∀ y ∈ scope.names, y.2 = .local → scope.names.lookup y.1 = some .local) (hlc : CompLoc env scope cl l lc) (hnd : (lc.map (·.1)).Nodup)
    (h : EIt c env D iter l σ fun vs Sg σ₁ => vs.length ≤ 1000000 ∧ ∃ J : Nat → List V → Hp → Prop, J 0 [] σ₁ ∧ (∀ i acc σ₁, J i acc σ₁ → Sg σ₁) ∧
      (∀ C i v acc σ₁, vs[i]? = some v → J i acc σ₁ → EA c (compEnvC scope cl C env) D target v lc σ₁ fun l₂ σ₂ => EB c (compEnvC scope cl C env) D (testsOf ifs (compEnvC scope cl C env)) l₂ σ₂ fun b σ₃ =>
        (b = true → EV c (compEnvC scope cl C env) D (eval elt (compEnvC scope cl C env)) l₂ σ₃ fun u σ₄ => J (i + 1) (acc ++ [u]) σ₄) ∧ (b = false → J (i + 1) acc σ₃)) ∧
      ∀ acc σ₁, J vs.length acc σ₁ → Q (.lst acc) σ₁)
    (hs : ∀ x, foldedSetIterable iter env x = pure x := by (subst_vars; intro _; kernel_rfl)) : EV c env D (eval (.ListComp elt [⟨target, iter, ifs, 0⟩] scope pos) env) l σ Q := by
  intro A g ρ z s Q' E' ok R q
  rw [eval_ListComp]
  refine wpAny_comprehension_free (use := none) rfl hs hclos hkind hnames (h A g ρ z s _ _ ok R fun vs Sg σ1 I Xs St ρ1 z1 s2 h1 hSg K R2 RI2 nX G2 nX0 st0 => ?_)
  obtain ⟨hsz, J, j0, jS, step, fin⟩ := h1
  have tX : ∀ x ∈ Xs, x ∉ c.tk := fun x hx hm => nX x hx (List.mem_append_right _ hm)
  have lX : ∀ x ∈ Xs, x ≠ env.locals := fun x hx e => nX x hx (List.mem_append_left _ (by simp [e]))
  have exX : ∀ x ∈ Xs, ∃ o, s2.heap.get? x = some o := K.sole _ _ _ _ st0
  have exL : ∃ o, s2.heap.get? env.locals = some o := (R2.off env.locals (by simp)).2
  obtain ⟨hp2, gens2, dr2, tk2, os2⟩ := s2
  dsimp only at st0 exX exL ⊢
  -- the list that is built
  refine wpAny_newObj_type (wpAny_newFunctionEnv hcell (by intro y hy; simp at hy) (fun h₁ hns₁ hsb₁ => ?_) hkind)
  dsimp only at hns₁ hsb₁ ⊢
  generalize hH2 : hp2.push { cls := .type "list", dict := none, data := .seq ([] : List Value).toArray } = H2 at hns₁ hsb₁ ⊢
  have hD2 : H2.get? hp2.objs.size = some (listOf #[] 0) := by rw [← hH2]; exact Heap.get?_push_size _ rfl
  have nD2 : hp2.get? hp2.objs.size = none := fresh_at (Nat.le_refl _)
  have k23 : ∀ b o, hp2.get? b = some o → H2.get? b = some o := fun b o e => by rw [← hH2]; exact Heap.get?_push_of_some _ e
  have nC2 : H2.get? H2.objs.size = none := fresh_at (Nat.le_refl _)
  have k3 : ∀ b o, H2.get? b = some o → h₁.get? b = some o := fun b o e => (hsb₁.2 b (Nat.ne_of_lt (Heap.lt_size e))).trans (Heap.get?_push_of_some _ e)
  have eC : ∃ o, h₁.get? H2.objs.size = some o := let ⟨o, _, _, e, _⟩ := hns₁; ⟨o, e⟩
  generalize hp2.objs.size = Da at hD2 nD2 ⊢
  generalize H2.objs.size = C at nC2 hns₁ hsb₁ eC ⊢
  have P3 : Rp c g (Da :: (Xs ++ [env.locals])) ρ1 z1 σ1 ⟨H2, gens2, dr2, tk2, os2⟩ := RI2.addX' (s' := ⟨H2, gens2, dr2, tk2, os2⟩) k23 nD2 ⟨_, hD2⟩
  have P4 : Rp c g (C :: Da :: (Xs ++ [env.locals])) ρ1 z1 σ1 ⟨h₁, gens2, dr2, tk2, os2⟩ := P3.addX' (s' := ⟨h₁, gens2, dr2, tk2, os2⟩) k3 nC2 eC
  have notTk : ∀ {x : Addr} {XX : List Addr} {ss : Shared} {ρρ zz σσ}, Rp c g XX ρρ zz σσ ss → ss.heap.get? x = none → x ∉ c.tk := fun PP e hm => by
    obtain ⟨_, e'⟩ := (PP.off _ (List.mem_append_right _ hm)).2
    rw [e] at e'; cases e'
  have tD : Da ∉ c.tk := notTk RI2 nD2
  have tC : C ∉ c.tk := notTk P3 nC2
  have nDX : Da ∉ Xs := fun h => by obtain ⟨o, e'⟩ := exX _ h; rw [e'] at nD2; cases nD2
  have nDL : Da ≠ env.locals := fun e => by obtain ⟨o, e'⟩ := exL; rw [e, e'] at nD2; cases nD2
  have nCD : C ≠ Da := fun e => by rw [e, hD2] at nC2; cases nC2
  have nCX : C ∉ Xs := fun h => by obtain ⟨o, e'⟩ := exX _ h; rw [k23 _ _ e'] at nC2; cases nC2
  have nCL : C ≠ env.locals := fun e => by obtain ⟨o, e'⟩ := exL; rw [e, k23 _ _ e'] at nC2; cases nC2
  have nLX : env.locals ∉ Xs := fun h => lX _ h rfl
  obtain ⟨oL, eL⟩ := exL
  have k13 : ∀ b o, hp2.get? b = some o → h₁.get? b = some o := fun b o e => k3 _ _ (k23 _ _ e)
  have G4 : Go g ρ z s ρ1 z1 ⟨h₁, gens2, dr2, tk2, os2⟩ := G2.trans (Go.same _ _ _ _ _ k13)
  have st1 : St 0 ρ1 z1 h₁ := K.keep _ _ _ _ _ _ _ st0 (Ext.refl ..) (fun x _ o e => k13 _ _ e) (fun p hp => (RI2.frz p hp).1) (fun p hp => (P4.frz p hp).1)
  obtain ⟨mL, hmL, hlL⟩ := R2.ns
  have nrc : ∀ {ρ' z' m'}, Ext ρ1 z1 ρ' z' → ∀ p ∈ lc, NR (compEnvC scope cl C env) ρ' z' m' p := fun {ρ' z' m'} ex p hp => by
    rcases hlc p hp with h | ⟨i, h1, h2, h3, h4⟩
    · exact .inl h
    · rcases hlL p h2 with h5 | ⟨i', a, h5, _, h6, h7⟩ | ⟨h5, w', h6, h7⟩
      · rw [h1] at h5; cases h5
      · rw [h1] at h5; cases h5
        exact .inr (.inl ⟨i, a, h1, h4, h3.trans h6, ex.r _ _ h7⟩)
      · rw [h1] at h7; cases h7
  -- the turns
  have loop : ∀ tk, codeAny c.M A (.compLoop (.ListComp elt [⟨target, iter, ifs, 0⟩] scope pos) 0 (.ref I) (.ref Da) (compEnvC scope cl C env)) (compPost c.M A E' none Q' (.ref Da) C) ⟨h₁, gens2, dr2, tk, os2⟩ := fun tk => by
    refine compLoop_gen (fun k s' => ∃ i acc σ' ρ' z' ws n, k = vs.length + 1 - i ∧ i ≤ vs.length ∧ acc.length ≤ i ∧ Rp c g (C :: Da :: (Xs ++ [env.locals])) ρ' z' σ' s' ∧ s'.heap.get? Da = some (listOf ws n) ∧ VRL z' ρ' acc ws.toList ∧ (∃ m, s'.heap.Ns C m) ∧ s'.heap.get? env.locals = some oL ∧ Go g ρ z s ρ' z' s' ∧ Ext ρ1 z1 ρ' z' ∧ St i ρ' z' s'.heap ∧ J i acc σ') ?_ (vs.length + 1)
      ⟨0, [], σ1, ρ1, z1, #[], 0, by simp, Nat.zero_le _, Nat.le_refl _, P4.grow (s' := ⟨h₁, gens2, dr2, tk, os2⟩) (fun _ _ e => e), k3 _ _ hD2, .nil, ⟨_, hns₁⟩, k13 _ _ eL, G4.trans (Go.same _ _ _ _ _ fun _ _ e => e), Ext.refl .., st1, j0⟩
    rintro k s' ⟨i, acc, σ', ρ', z', ws, n, rfl, hi, hacc, P', hD, hVR, ⟨mC, hmC⟩, hL, G', X', st', hJ⟩
    have hXX : ∀ x ∈ Xs, x ∈ C :: Da :: (Xs ++ [env.locals]) ∧ x ∉ c.tk := fun x hx => ⟨by simp [hx], tX x hx⟩
    by_cases hlt : i < vs.length
    · refine K.item i vs[i] g _ ρ' z' σ' s' _ _ (by simp [hlt]) P' hXX (jS _ _ _ hJ) st' fun wv ρ2 z2 s2' P₂ G₂ k₂ rv st₂ lg => ?_
      refine lg _ _ _ fun s3' P₃ G₃ k₃ st₃ => ?_
      have kk : ∀ b o, b ∉ Xs → s'.heap.get? b = some o → s3'.heap.get? b = some o := fun b o hb e => k₃ b o hb (k₂ b o hb e)
      have eo : ∀ x, x ∈ C :: Da :: (Xs ++ [env.locals]) → x ∈ [C] ++ (Da :: (Xs ++ [env.locals])) := fun x hx => hx
      obtain ⟨g1, Pg, back⟩ := (P₃.perm (Y := [C] ++ (Da :: (Xs ++ [env.locals]))) fun x hx => hx).inner (by
        intro x hx
        simp only [List.mem_cons, List.mem_append, List.not_mem_nil, or_false] at hx ⊢
        rcases hx with rfl | hx | rfl
        · exact ⟨nCD.symm, tD⟩
        · exact ⟨fun e => nCX (e ▸ hx), tX x hx⟩
        · exact ⟨nCL.symm, R2.lt⟩)
      have ex3 := G₂.trans G₃
      have RR : Rep c (compEnvC scope cl C env) g1 ρ2 z2 σ' lc s3' :=
        ⟨Pg, ⟨mC, hmC.at' fun o e => kk _ o nCX e, nrc (X'.trans ex3.toExt)⟩, hnd, hkind, R2.glob, R2.bltn, tC⟩
      refine step C i vs[i] acc σ' (by simp [hlt]) hJ A g1 ρ2 z2 _ _ _ wv ok RR (rv.mono G₃.toExt) fun l3 σ3 ρ3 z3 s3 h3 R3 G3 => ?_
      refine h3 A g1 ρ3 z3 s3 _ _ ok R3 fun b σb ρb zb sb hb Rb Gb => ?_
      cases b with
      | false =>
        rw [if_neg (by simp)]
        obtain ⟨PB, GB, kO⟩ := back _ _ _ _ Rb.toRp (G3.trans Gb)
        have GT := (G'.trans ex3).trans GB
        obtain ⟨m4, hm4, _⟩ := Rb.ns
        exact ⟨vs.length + 1 - (i + 1), by omega, i + 1, acc, σb, ρb, zb, ws, n, rfl, hlt, by omega, PB, kO Da (by simp) _ (kk _ _ nDX hD), hVR.mono (ex3.trans GB).toExt, ⟨m4, hm4⟩, kO env.locals (by simp) _ (kk _ _ nLX hL), GT, X'.trans (ex3.trans GB).toExt,
          K.keep _ _ _ _ _ _ _ st₃ GB.toExt (fun x hx o e => kO x (by simp [hx]) o e) (fun p hp => (P₃.frz p hp).1) (fun p hp => (PB.frz p (GB.zz p hp)).1), hb.2 rfl⟩
      | true =>
        rw [if_pos rfl]
        refine hb.1 rfl A g1 ρb zb sb _ _ ok Rb fun u wu σ4 ρ4 z4 s4 h4 R4 G4' r4 => ?_
        obtain ⟨PB, GB, kO⟩ := back _ _ _ _ R4.toRp ((G3.trans Gb).trans G4')
        have hD4 : s4.heap.get? Da = some (listOf ws n) := kO Da (by simp) _ (kk _ _ nDX hD)
        have hVR4 := hVR.mono (ex3.trans GB).toExt
        have hws : ws.size ≤ sizeLine := by
          have := hVR.length
          simp only [Array.length_toList] at this
          rw [sizeLine_eq]; omega
        refine wpAny_list_append_plain ⟨n, hD4⟩ (fun h₅ hD5 hs5 => ?_) hws
        obtain ⟨n5, hD5⟩ := hD5
        have P5 : Rp c g (C :: Da :: (Xs ++ [env.locals])) ρ4 z4 σ4 { s4 with heap := h₅ } := PB.atX' (a := Da) (by simp) tD (fun b o hb e => (hs5.2 b hb).trans e) ⟨_, hD5⟩
        have G5 : Go g ρ4 z4 s4 ρ4 z4 { s4 with heap := h₅ } := ⟨Ext.refl .., fun b o e => by
          by_cases hb : b = Da
          · subst hb; exact ⟨_, hD5⟩
          · exact ⟨o, (hs5.2 b hb).trans e⟩, fun _ h => .inl h⟩
        have GT := (G'.trans ex3).trans (GB.trans G5)
        obtain ⟨m4, hm4, _⟩ := R4.ns
        refine ⟨vs.length + 1 - (i + 1), by omega, i + 1, acc ++ [u], σ4, ρ4, z4, ws.push wu, n5, rfl, hlt, by simp; omega, P5, hD5, ?_, ⟨m4, hm4.sameBut hs5 nCD⟩, ?_, GT, X'.trans (ex3.trans (GB.trans G5)).toExt, ?_, h4⟩
        · have := hVR4.append (.cons r4 .nil)
          simpa using this
        · exact (hs5.2 _ nDL.symm).trans (kO env.locals (by simp) _ (kk _ _ nLX hL))
        · refine K.keep _ _ _ _ _ _ _ st₃ GB.toExt (fun x hx o e => ?_) (fun p hp => (P₃.frz p hp).1) (fun p hp => (P5.frz p (GB.zz p hp)).1)
          exact (hs5.2 _ fun e => nDX (e ▸ hx)).trans (kO x (by simp [hx]) o e)
    · have hin : i = vs.length := by omega
      subst hin
      refine K.done g _ ρ' z' σ' s' _ _ P' hXX (jS _ _ _ hJ) st' fun s₁ kk e1 e2 e3 => ?_
      refine ⟨mC, hmC.at' fun o e => kk _ o nCX e, fun h₃ hs₃ => ?_⟩
      -- what is left is the frame and the list
      have kC : ∀ b o, b ≠ C → s₁.heap.get? b = some o → h₃.get? b = some o := fun b o hb e => (hs₃.2 b hb).trans e
      have P6 : Rp c g (Xs ++ [C, Da, env.locals]) ρ' z' σ' s' := P'.perm (by
        intro x hx
        simp only [List.mem_cons, List.mem_append, List.not_mem_nil, or_false] at hx ⊢
        rcases hx with h | h | h | h <;> simp [h])
      have P7 : Rp c g [C, Da, env.locals] ρ' z' σ' s₁ := P6.offXs (by
        intro x hx
        simp only [List.mem_append, List.mem_cons, List.not_mem_nil, or_false]
        rintro ((h | h | h) | h)
        · exact nCX (h ▸ hx)
        · exact nDX (h ▸ hx)
        · exact lX x hx h
        · exact tX x hx h) kk e1 e2 e3
      have P8 : Rp c g [Da, env.locals] ρ' z' σ' { s₁ with heap := h₃ } := P7.offI (s' := { s₁ with heap := h₃ }) (by
        simp only [List.mem_append, List.mem_cons, List.not_mem_nil, or_false]
        rintro ((h | h) | h)
        · exact nCD h
        · exact nCL h
        · exact tC h) kC
      obtain ⟨P9, G9⟩ := P8.frozeX (a := Da) (o := listOf ws n) (by
        simp only [List.mem_append, List.mem_cons, List.not_mem_nil, or_false]
        rintro (h | h)
        · exact nDL h
        · exact tD h) (kC _ _ nCD.symm (kk _ _ nDX hD))
      have hL3 : h₃.get? env.locals = some oL := kC _ _ nCL.symm (kk _ _ nLX hL)
      have G8 : Go g ρ z s ρ' z' { s₁ with heap := h₃ } := ⟨G'.toExt, fun b o e => by
        obtain ⟨o1, e1⟩ := G2.dom b o e
        obtain ⟨o', e'⟩ := G'.dom b o e
        exact ⟨o', kC _ _ (fresh_ne (k23 _ _ e1) nC2) (kk _ _ (fun hb => by rw [nX0 b hb] at e; cases e) e')⟩, G'.fr⟩
      refine q _ _ _ _ _ _ (fin _ _ hJ) (R2.mk' P9 (X'.trans G9.toExt) fun m hm => ?_) (G8.trans G9) (.lst (.head _) (hVR.mono G9.toExt))
      obtain ⟨o, es, ep, e, r⟩ := hm
      have : o = oL := Option.some.inj (e.symm.trans eL)
      subst this
      exact ⟨o, es, ep, hL3, r⟩
  exact codeAny_compStart_list (loop _) (K.self _ _ _ _ _ _ st1 (loop _))
end
end
section
open PySem PySem.W PyProof.Rows PySem.Calls

section
variable {c : Cx} {D : Nat} {σ : Hp} {Q : V → Hp → Prop}
theorem fn1 {f : Value} {v : V} (h : ∀ (A : Around) (g : Heap) (ρ : List Addr) (z : Led) (s : Shared) (Q' E' : Value → Shared → Prop) (w : Value), Ok A D → Rp c g [] ρ z σ s → VR z ρ v w →
    (∀ v w σ' ρ' z' s', Q v σ' → Rp c g [] ρ' z' σ' s' → Go g ρ z s ρ' z' s' → VR z' ρ' v w → Q' w s') → wpAny c.M A (call f [w]) Q' E' s) : FN c D (.val f) [v] [] σ Q := by
  intro A g ρ z s Q' E' wf ws kws ok P rf rl rk q
  cases rf; cases rk
  cases rl with
  | cons r1 rl => cases rl; exact h A g ρ z s Q' E' _ ok P r1 q
theorem fn2 {f : Value} {v₁ v₂ : V} (h : ∀ (A : Around) (g : Heap) (ρ : List Addr) (z : Led) (s : Shared) (Q' E' : Value → Shared → Prop) (w₁ w₂ : Value), Ok A D → Rp c g [] ρ z σ s → VR z ρ v₁ w₁ → VR z ρ v₂ w₂ →
    (∀ v w σ' ρ' z' s', Q v σ' → Rp c g [] ρ' z' σ' s' → Go g ρ z s ρ' z' s' → VR z' ρ' v w → Q' w s') → wpAny c.M A (call f [w₁, w₂]) Q' E' s) : FN c D (.val f) [v₁, v₂] [] σ Q := by
  intro A g ρ z s Q' E' wf ws kws ok P rf rl rk q
  cases rf; cases rk
  cases rl with
  | cons r1 rl => cases rl with
    | cons r2 rl => cases rl; exact h A g ρ z s Q' E' _ _ ok P r1 r2 q
theorem fn3 {f : Value} {v₁ v₂ v₃ : V} (h : ∀ (A : Around) (g : Heap) (ρ : List Addr) (z : Led) (s : Shared) (Q' E' : Value → Shared → Prop) (w₁ w₂ w₃ : Value), Ok A D → Rp c g [] ρ z σ s → VR z ρ v₁ w₁ → VR z ρ v₂ w₂ → VR z ρ v₃ w₃ →
    (∀ v w σ' ρ' z' s', Q v σ' → Rp c g [] ρ' z' σ' s' → Go g ρ z s ρ' z' s' → VR z' ρ' v w → Q' w s') → wpAny c.M A (call f [w₁, w₂, w₃]) Q' E' s) : FN c D (.val f) [v₁, v₂, v₃] [] σ Q := by
  intro A g ρ z s Q' E' wf ws kws ok P rf rl rk q
  cases rf; cases rk
  cases rl with
  | cons r1 rl => cases rl with
    | cons r2 rl => cases rl with
      | cons r3 rl => cases rl; exact h A g ρ z s Q' E' _ _ _ ok P r1 r2 r3 q

-- OWNED OBJECTS, READ
theorem isTup_of {h : Heap} {a : Addr} {ws : List Value} {n : Nat} (e : h.get? a = some (tupObj ws n)) : IsTup h a ws.toArray := ⟨_, e, rfl, _, rfl⟩
/-- an owned list is changed -/
theorem Rp.setList {g X ρ z σ} {s s' : Shared} (P : Rp c g X ρ z σ s) {i : Nat} {vs vs' : List V} {ws' : List Value} (hi : σ[i]? = some (.list vs)) {a : Addr} (ha : ρ[i]? = some a) (hs : Heap.SameBut a s.heap s'.heap)
    (he : ∃ n, s'.heap.get? a = some (listOf ws'.toArray n)) (hl : VRL z ρ vs' ws') (h1 : s'.os = s.os := by rfl) (h2 : s'.drawn = s.drawn := by rfl) (h3 : s'.gens = s.gens := by rfl) : Rp c g X ρ z (σ.set i (.list vs')) s' ∧ Go g ρ z s ρ z s' := by
  obtain ⟨n, he⟩ := he
  refine ⟨P.upd hi ha (b := a) (o' := .list vs') (fun p hp hg => ?_) hs h1 h2 h3, Ext.refl .., fun b o e => ?_, fun _ h => .inl h⟩
  · obtain ⟨ws, n', rfl, _⟩ := hp.list_inv
    exact ⟨by simp, [(a, listOf ws'.toArray n)], .list hl, rfl, fun q hq => by cases List.mem_singleton.mp hq; exact he⟩
  · by_cases hb : b = a
    · subst hb; exact ⟨_, he⟩
    · exact ⟨o, (hs.2 b hb).trans e⟩
/-- a new owned list -/
theorem Rp.newList {g X ρ z σ} {s : Shared} (P : Rp c g X ρ z σ s) {vs : List V} {ws : List Value} {n : Nat} (hl : VRL z ρ vs ws) :
    Rp c g X (ρ ++ [s.heap.objs.size]) z (σ ++ [.list vs]) { s with heap := s.heap.push (listOf ws.toArray n) } ∧ Go g ρ z s (ρ ++ [s.heap.objs.size]) z { s with heap := s.heap.push (listOf ws.toArray n) } ∧
    VR z (ρ ++ [s.heap.objs.size]) (.ref σ.length) (.ref s.heap.objs.size) := by
  have k : ∀ b o, s.heap.get? b = some o → (s.heap.push (listOf ws.toArray n)).get? b = some o := fun b o e => Heap.get?_push_of_some _ e
  obtain ⟨led0, a0, _⟩ := P.own
  have hlen : σ.length = ρ.length := a0.length
  refine ⟨P.new (s' := { s with heap := s.heap.push (listOf ws.toArray n) }) k (.list (n := n) (hl.mono (Ext.push ..))) (by simp) (fun q hq => ?_), ⟨Ext.push .., fun b o e => ⟨o, k b o e⟩, fun _ h => .inl h⟩, .ref (by rw [hlen]; simp)⟩
  cases List.mem_singleton.mp hq
  exact ⟨Heap.get?_push_size _ rfl, fresh_at (Nat.le_refl _)⟩
/-- a new tuple -/
theorem Rp.newTup {g X ρ z σ} {s : Shared} (P : Rp c g X ρ z σ s) {vs : List V} {ws : List Value} {n : Nat} (hl : VRL z ρ vs ws) :
    Rp c g X ρ ((s.heap.objs.size, tupObj ws n) :: z) σ { s with heap := s.heap.push (tupObj ws n) } ∧ Go g ρ z s ρ ((s.heap.objs.size, tupObj ws n) :: z) { s with heap := s.heap.push (tupObj ws n) } ∧
    VR ((s.heap.objs.size, tupObj ws n) :: z) ρ (.tup vs) (.ref s.heap.objs.size) :=
  ⟨P.pushZ _, Go.push P.keep _, .tup (.head _) (hl.mono (Ext.cons ..))⟩

-- LISTS
theorem em_append {env : Env} {l : Loc} {QM : V → List V → Hp → Prop} {i : Nat} {vs : List V} (hi : σ[i]? = some (.list vs)) (h : QM (.val (.builtin "list.append")) [.ref i] σ) : EM c env D (.ref i) "append" l σ QM := by
  intro A g ρ z s Q' E' w pl ok R r q
  have r0 := r
  cases r with
  | ref hr =>
    obtain ⟨ws, n, h1, h2, h3, h4⟩ := R.toRp.list hi hr
    exact getMethod_list_append h1 rfl rfl (q _ _ _ _ _ _ _ _ h R (Go.refl ..) (.val _) (.cons r0 .nil))
theorem fn_append {i : Nat} {vs : List V} {v : V} (hi : σ[i]? = some (.list vs)) (hz : vs.length ≤ 1000000) (h : Q .none (σ.set i (.list (vs ++ [v])))) : FN c D (.val (.builtin "list.append")) [.ref i, v] [] σ Q := by
  refine fn2 fun A g ρ z s Q' E' w₁ w₂ ok P r₁ r₂ q => ?_
  cases r₁ with
  | ref hr =>
    obtain ⟨ws, n, h1, h2, h3, h4⟩ := P.list hi hr
    refine wpAny_list_append_plain ⟨n, h1⟩ (fun h' hp hs => ?_) (by have := h2.length; rw [List.size_toArray, sizeLine_eq]; omega)
    obtain ⟨n', hp⟩ := hp
    obtain ⟨P', G'⟩ := P.setList (s' := { s with heap := h' }) (ws' := ws ++ [w₂]) (vs' := vs ++ [v]) hi hr hs ⟨n', by rw [hp]; simp⟩ (h2.append (.cons r₂ .nil))
    exact q _ _ _ _ _ _ h P' G' .none
theorem fn_len_list {i : Nat} {vs : List V} (hi : σ[i]? = some (.list vs)) (hz : vs.length ≤ 1000000) (h : Q (.int vs.length) σ) : FN c D (.val (.builtin "len")) [.ref i] [] σ Q := by
  refine fn1 fun A g ρ z s Q' E' w ok P r q => ?_
  cases r with
  | ref hr =>
    obtain ⟨ws, n, h1, h2, h3, h4⟩ := P.list hi hr
    refine call_len_list (isList_of h1) (by have := h2.length; rw [List.size_toArray]; omega) ?_
    refine q _ _ _ _ _ _ h (P.toks _) (Go.toks ..) ?_
    rw [List.size_toArray, ← h2.length]; exact .int _ _
theorem fn_len_lst {vs : List V} (hz : vs.length ≤ 1000000) (h : Q (.int vs.length) σ) : FN c D (.val (.builtin "len")) [.lst vs] [] σ Q := by
  refine fn1 fun A g ρ z s Q' E' w ok P r q => ?_
  cases r with
  | lst hm h2 =>
    refine call_len_list (isList_of (P.frz _ hm).1) (by have := h2.length; rw [List.size_toArray]; omega) ?_
    refine q _ _ _ _ _ _ h (P.toks _) (Go.toks ..) ?_
    rw [List.size_toArray, ← h2.length]; exact .int _ _
theorem fn_len_tup {vs : List V} (hz : vs.length ≤ 1000000) (h : Q (.int vs.length) σ) : FN c D (.val (.builtin "len")) [.tup vs] [] σ Q := by
  refine fn1 fun A g ρ z s Q' E' w ok P r q => ?_
  cases r with
  | tup hm h2 =>
    refine Calls.call_function_entry kind_len plain_len entry_len (args_len1 _) (len_body_tuple (isTup_of (P.frz _ hm).1) (by have := h2.length; rw [List.size_toArray]; omega) ?_)
    refine q _ _ _ _ _ _ h (P.toks _) (Go.toks ..) ?_
    rw [List.size_toArray, ← h2.length]; exact .int _ _
theorem fn_len_bytes {b : List UInt8} (hz : b.length ≤ 1000000) (h : Q (.int b.length) σ) : FN c D (.val (.builtin "len")) [.bytes b] [] σ Q := by
  refine fn1 fun A g ρ z s Q' E' w ok P r q => ?_
  cases r with
  | bytes _ t =>
    refine PySem.W.len_bytes (by rw [List.size_toArray]; omega) ?_
    refine q _ _ _ _ _ _ h (P.toks _) (Go.toks ..) ?_
    rw [List.size_toArray]; exact .int _ _
theorem fn_abs {a : Int} (h : Q (.int (if a < 0 then -a else a)) σ) : FN c D (.val (.builtin "abs")) [.int a] [] σ Q := by
  refine fn1 fun A g ρ z s Q' E' w ok P r q => ?_
  cases r
  exact call_abs_int fun u tk => q _ _ _ _ _ _ h (P.toks _) (Go.toks ..) (.int _ _)
theorem fn_int {a : Int} (h : Q (.int a) σ) : FN c D (.val (.type "int")) [.int a] [] σ Q := by
  refine fn1 fun A g ρ z s Q' E' w ok P r q => ?_
  cases r
  exact call_int_int (q _ _ _ _ _ _ h P (Go.refl ..) (.int _ _))
theorem fn_int_bool {b : Bool} (h : Q (.int (if b then 1 else 0)) σ) : FN c D (.val (.type "int")) [.bool b] [] σ Q := by
  refine fn1 fun A g ρ z s Q' E' w ok P r q => ?_
  cases r
  exact call_int_bool (q _ _ _ _ _ _ h (P.toks _) (Go.toks ..) (.int _ _))
theorem fn_range1 {n : Int} (h : Q (.rng 0 n 1) σ) : FN c D (.val (.type "range")) [.int n] [] σ Q := by
  refine fn1 fun A g ρ z s Q' E' w ok P r q => ?_
  cases r
  refine call_range_1 (q _ _ _ _ _ _ h ((P.pushZ _).toks _) ((Go.push P.keep _).trans (Go.toks ..)) (.rng (.head _)))
theorem fn_range2 {a b : Int} (h : Q (.rng a b 1) σ) : FN c D (.val (.type "range")) [.int a, .int b] [] σ Q := by
  refine fn2 fun A g ρ z s Q' E' w₁ w₂ ok P r₁ r₂ q => ?_
  cases r₁; cases r₂
  refine call_range_2 (q _ _ _ _ _ _ h ((P.pushZ _).toks _) ((Go.push P.keep _).trans (Go.toks ..)) (.rng (.head _)))
theorem fn_range3 {a b k : Int} (hk : k ≠ 0) (hp : Builtin.divisionGoesByPylong (b - a) k = false) (h : Q (.rng a b k) σ) : FN c D (.val (.type "range")) [.int a, .int b, .int k] [] σ Q := by
  refine fn3 fun A g ρ z s Q' E' w₁ w₂ w₃ ok P r₁ r₂ r₃ q => ?_
  cases r₁; cases r₂; cases r₃
  refine call_range_3 hk (q _ _ _ _ _ _ h (P.pushZ _) (Go.push P.keep _) (.rng (.head _))) (.inl hp)
end
end
section
open PySem PySem.W PyProof.Rows PySem.Calls

def cut {α : Type} (l : List α) (lo hi : Option Int) : List α := (l.drop (lo.elim 0 (clipAt l.length))).take (hi.elim l.length (clipAt l.length) - lo.elim 0 (clipAt l.length))
theorem cut_pick (items : List Value) (lo hi : Option Int) : slicePick items.toArray lo hi none = (cut items lo hi).toArray := by
  unfold slicePick cut
  rw [sliceBounds_plain]
  simp only [sliceRange_one, pick_run, List.size_toArray]
theorem cut_picked (b : List UInt8) (lo hi : Option Int) : KBy.picked b.toArray lo hi = (cut b lo hi).toArray := by
  rw [KBc.picked_eq, List.size_toArray]; rfl
theorem VRL.cut {z : Led} {ρ : List Addr} {vs ws} (h : VRL z ρ vs ws) (lo hi : Option Int) : VRL z ρ (cut vs lo hi) (Mine.cut ws lo hi) := by
  unfold Mine.cut
  rw [h.length]
  exact (h.drop _).take _
theorem cut_length_le {α : Type} (l : List α) (lo hi : Option Int) : (cut l lo hi).length ≤ l.length := by
  unfold cut; rw [List.length_take, List.length_drop]; omega

theorem Obj.mapSeq_set_plain (its : Array Value) (n : Nat) (j : Nat) (x : Value) : ∃ n', Obj.mapSeq (·.setIfInBounds j x) { cls := .type "list", data := .seq its n } = { cls := .type "list", data := .seq (its.setIfInBounds j x) n' } := by
  exact ⟨_, rfl⟩
theorem setItem_plain {prog : Program} {w : World} {A : Around} {E : Value → Shared → Prop} {s : Shared} {l : Addr} {items : Array Value} {k : Int} {t : Tok} {v : Value} {Q : Unit → Shared → Prop} (hp : s.heap.PlainList l items)
    (h0 : 0 ≤ k) (hfit : k < 2 ^ 63) (hn : k < items.size)
    (hQ : ∀ h', h'.PlainList l (items.setIfInBounds k.toNat v) → Heap.SameBut l s.heap h' → Q () { s with heap := h' }) :
    wpAny (model prog w) A (setItem (.ref l) (.int k t) v) Q E s := by
  have hl := hp.isList
  obtain ⟨n, ho⟩ := hp
  unfold setItem
  try with_reducible refine wpAny_holding ?_
  first | refine wpAny_bind (wpAny_pure ?_) | skip
  refine wpAny_bind (wpAny_sequenceKey hl.typeIs (by decide) ?_)
  refine wpAny_bind (wpAny_callSpecial?_slot (name := Str.ofString "__setitem__") hl.typeIs slot_list_setitem
    (wpAny_call_entry slot_list_setitem hl.typeIs entry_list_setitem ?_ (args_list_setitem _ _ _)))
  show wpAny _ _ (Builtin.List.listSubscript? (.int k t) >>= _) _ _ s
  refine wpAny_bind (wpAny_listSubscript_int (fitsIndex_of h0 hfit) ?_)
  clear hfit
  obtain ⟨j, rfl⟩ := Int.eq_ofNat_of_zero_le h0
  have hj : j < items.size := by omega
  have hx' : items[j]? = some items[j] := Array.getElem?_eq_getElem hj
  show wpAny _ _ ((seqItemAt l j >>= fun r => pure (r.map (j, ·))) >>= _) _ _ s
  refine wpAny_bind (wpAny_bind (wpAny_seqItemAt ho rfl (wpAny_pure ?_)))
  rw [hx']
  show wpAny _ _ (setSeqItemAt l j v >>= _) _ _ s
  obtain ⟨n', hd'⟩ := Obj.mapSeq_set_plain items n j v
  have hfin : (s.heap.update l (Obj.mapSeq (·.setIfInBounds j v))).PlainList l (items.setIfInBounds j v) :=
    ⟨n', by rw [← hd']; exact Heap.get?_update_self _ ho (by rw [hd']; rfl)⟩
  refine wpAny_bind (wpAny_setSeqItemAt ho rfl ?_)
  first
    | exact wpAny_bind (wpAny_pure (wpAny_pure ⟨.none, rfl, wpAny_pure (hQ _ hfin (Heap.SameBut.update ..))⟩))
    | exact wpAny_pure ⟨.none, rfl, wpAny_pure (hQ _ hfin (Heap.SameBut.update ..))⟩

section
variable {c : Cx} {env : Env} {D : Nat} {l : Loc} {σ : Hp} {Q : V → Hp → Prop}

-- SUBSCRIPTS
theorem ev_item {o i : Expr} {pos : Pos} (h : EV c env D (eval o env) l σ fun ov σ₁ => EV c env D (eval i env) l σ₁ fun iv σ₂ => EV2 c env D ov iv (subscriptTail o i) l σ₂ Q) : EV c env D (eval (.Subscript o i pos) env) l σ Q := by
  intro A g ρ z s Q' E' ok R q
  refine Subscript_ (h A g ρ z s _ _ ok R fun ov ow σ1 ρ1 z1 s1 h1 R1 G1 r1 => ?_)
  refine h1 A g ρ1 z1 s1 _ _ ok R1 fun iv iw σ2 ρ2 z2 s2 h2 R2 G2 r2 => ?_
  exact h2 A g ρ2 z2 s2 _ _ _ _ ok R2 (r1.mono G2.toExt) r2 fun v w σ' ρ' z' s' hq R' G' r' => q v w σ' ρ' z' s' hq R' ((G1.trans G2).trans G') r'
/-- that the slice is no slice display -/
def PlainIx (o i : Expr) : Prop := ∀ (a b : Value), (∃ ops, subscripted i false a b = operate ops (getItem a b))
variable {oe ie : Expr}
theorem ei_list {i : Nat} {vs : List V} {k : Int} {v : V} (hi : σ[i]? = some (.list vs)) (h0 : 0 ≤ k) (hz : k < 2 ^ 63) (hv : vs[k.toNat]? = some v) (h : Q v σ)
    (hs : ∀ a b t, subscripted ie false (.ref a) (.int b t) = operate [.ref a, .int b t] (getItem (.ref a) (.int b t)) := by intro _ _ _; with_unfolding_all rfl) : EV2 c env D (.ref i) (.int k) (subscriptTail oe ie) l σ Q := by
  intro A g ρ z s Q' E' w₁ w₂ ok R r₁ r₂ q
  cases r₁ with
  | ref hr =>
    cases r₂
    obtain ⟨ws, n, h1, h2, h3, h4⟩ := R.toRp.list hi hr
    obtain ⟨w, hw, rw'⟩ := h2.get hv
    exact tail_any (Heap.IsList.typeIs (isList_of h1)) slot_list_getitem.lookup (wpAny_getItem_list (isList_of h1) h0 hz (by simpa using hw) (q _ _ _ _ _ _ h R (Go.refl ..) rw')) (hs _ _ _)
theorem ei_lst {vs : List V} {k : Int} {v : V} (h0 : 0 ≤ k) (hz : k < 2 ^ 63) (hv : vs[k.toNat]? = some v) (h : Q v σ)
    (hs : ∀ a b t, subscripted ie false (.ref a) (.int b t) = operate [.ref a, .int b t] (getItem (.ref a) (.int b t)) := by intro _ _ _; with_unfolding_all rfl) : EV2 c env D (.lst vs) (.int k) (subscriptTail oe ie) l σ Q := by
  intro A g ρ z s Q' E' w₁ w₂ ok R r₁ r₂ q
  cases r₁ with
  | lst hm h2 =>
    cases r₂
    obtain ⟨w, hw, rw'⟩ := h2.get hv
    have h1 := (R.frz _ hm).1
    exact tail_any (Heap.IsList.typeIs (isList_of h1)) slot_list_getitem.lookup (wpAny_getItem_list (isList_of h1) h0 hz (by simpa using hw) (q _ _ _ _ _ _ h R (Go.refl ..) rw')) (hs _ _ _)
theorem ei_tup {vs : List V} {k : Int} {v : V} (h0 : 0 ≤ k) (hz : k < 2 ^ 63) (hv : vs[k.toNat]? = some v) (h : Q v σ)
    (hs : ∀ a b t, subscripted ie false (.ref a) (.int b t) = operate [.ref a, .int b t] (getItem (.ref a) (.int b t)) := by intro _ _ _; with_unfolding_all rfl) : EV2 c env D (.tup vs) (.int k) (subscriptTail oe ie) l σ Q := by
  intro A g ρ z s Q' E' w₁ w₂ ok R r₁ r₂ q
  cases r₁ with
  | tup hm h2 =>
    cases r₂
    obtain ⟨w, hw, rw'⟩ := h2.get hv
    have h1 := (R.frz _ hm).1
    have hlt := (List.getElem?_eq_some_iff.mp hw).1
    refine item_tupleT (j := k.toNat) (isTup_of h1) (by omega) hz ?_ hw (q _ _ _ _ _ _ h R (Go.refl ..) rw') (hs _ _ _)
    unfold seqIndex?
    obtain ⟨j, rfl⟩ := Int.eq_ofNat_of_zero_le h0
    simp at hlt ⊢
    omega
theorem ei_bytes {b : List UInt8} {k : Int} (hz : b.length ≤ 1000000) (h0 : 0 ≤ k) (h1 : k < b.length) (h : Q (.int (b.getD k.toNat 0).toNat) σ)
    (hs : ∀ a t b u, subscripted ie false (.bytes a t) (.int b u) = operate [.bytes a t, .int b u] (getItem (.bytes a t) (.int b u)) := by intro _ _ _ _; with_unfolding_all rfl) : EV2 c env D (.bytes b) (.int k) (subscriptTail oe ie) l σ Q := by
  intro A g ρ z s Q' E' w₁ w₂ ok R r₁ r₂ q
  cases r₁; cases r₂
  refine tail_any (typeIs_bytes _ _ _) FB.slot_bytes_getitem.lookup (getItem_bytes (by omega) h0 h1 ?_) (hs _ _ _ _)
  exact q _ _ _ _ _ _ h (R.toks _) (Go.toks ..) (.int _ _)

-- DICTS WITH INTS AS KEYS
theorem idict_at {p : Program} {w : World} {h : Heap} {a : Addr} {o : Obj} {ks : List Int} {ws : List Value} (e : h.get? a = some o) (d : IDict o ks ws) : h.DictOf (intKind p w) a (ks.zip ws) := Heap.dictOf_iff.mpr ⟨o, e, d.2 p w⟩
theorem zip_valueAt {z : Led} {ρ : List Addr} {k : Int} {v : V} : ∀ {ks : List Int} {vs : List V} {ws : List Value}, ks.length = ws.length → VRL z ρ vs ws → (ks.zip vs).find? (fun p => p.1 == k) = some (k, v) → ∃ w, valueAt (ks.zip ws) k = some w ∧ VR z ρ v w
  | [], _, _, _, _, h => by simp at h
  | _ :: _, [], _, _, _, h => by simp at h
  | k' :: ks, v' :: vs, w' :: ws, e, .cons r l, h => by
    simp only [List.zip_cons_cons] at h
    unfold valueAt
    by_cases hk : k' = k
    · subst hk
      rw [List.find?_cons_of_pos (by simp)] at h
      cases h
      exact ⟨w', by simp, r⟩
    · rw [List.find?_cons_of_neg (by simpa using hk)] at h
      obtain ⟨w, hw, r'⟩ := zip_valueAt (ks := ks) (by simpa using e) l h
      refine ⟨w, ?_, r'⟩
      rw [List.zip_cons_cons, List.find?_cons_of_neg (by simpa using hk)]
      exact hw
theorem zip_valueAt_none {k : Int} : ∀ {ks : List Int} {ws : List Value}, ks.contains k = false → valueAt (ks.zip ws) k = none
  | [], _, _ => by simp [valueAt]
  | k' :: ks, [], _ => by simp [valueAt]
  | k' :: ks, w' :: ws, h => by
    simp only [List.contains_cons, Bool.or_eq_false_iff, beq_eq_false_iff_ne] at h
    have := zip_valueAt_none (ks := ks) (ws := ws) h.2
    unfold valueAt at this ⊢
    rw [List.zip_cons_cons, List.find?_cons_of_neg (by simpa using fun q : k' = k => h.1 q.symm)]
    exact this
theorem zip_valueAt_some {k : Int} : ∀ {ks : List Int} {ws : List Value}, ks.length = ws.length → ks.contains k = true → ∃ w, valueAt (ks.zip ws) k = some w
  | [], _, _, h => by simp at h
  | k' :: ks, [], e, _ => by simp at e
  | k' :: ks, w' :: ws, e, h => by
    unfold valueAt
    by_cases hk : k' = k
    · exact ⟨w', by rw [List.zip_cons_cons, List.find?_cons_of_pos (by simpa using hk)]; rfl⟩
    · rw [List.zip_cons_cons, List.find?_cons_of_neg (by simpa using hk)]
      refine zip_valueAt_some (by simpa using e) ?_
      simp only [List.contains_cons, Bool.or_eq_true, beq_iff_eq] at h
      rcases h with h | h
      · exact absurd h.symm hk
      · exact h
theorem ei_dct {ks : List Int} {vs : List V} {k : Int} {v : V} (hv : (ks.zip vs).find? (fun p => p.1 == k) = some (k, v)) (h : Q v σ)
    (hs : ∀ a b t, subscripted ie false (.ref a) (.int b t) = operate [.ref a, .int b t] (getItem (.ref a) (.int b t)) := by intro _ _ _; with_unfolding_all rfl) : EV2 c env D (.dct ks vs) (.int k) (subscriptTail oe ie) l σ Q := by
  intro A g ρ z s Q' E' w₁ w₂ ok R r₁ r₂ q
  cases r₁ with
  | dct hm hsm hd hl =>
    cases r₂
    rename_i t
    obtain ⟨w, hw, r⟩ := zip_valueAt hd.1 hl hv
    have hD := idict_at (p := c.prog) (w := c.w) (R.frz _ hm).1 hd
    exact tail_any hD.typeIs slot_dict_getitem.lookup (wpAny_getItem_of (intKind_is _ _ k t) hD.mapOf hw (q _ _ _ _ _ _ h (R.toks _) (Go.toks ..) r)) (hs _ _ _)
theorem ev_in_dct {ks : List Int} {vs : List V} {k : Int} (h : Q (.bool (ks.contains k)) σ) : EV2 c env D (.int k) (.dct ks vs) (compareOp .In) l σ Q := by
  intro A g ρ z s Q' E' w₁ w₂ ok R r₁ r₂ q
  cases r₂ with
  | dct hm hsm hd hl =>
    cases r₁
    rename_i t
    have hD := idict_at (p := c.prog) (w := c.w) (R.frz _ hm).1 hd
    refine wpAny_in_of (intKind_is _ _ k t) hsm hD.mapOf (q _ _ _ _ _ _ h (R.toks _) (Go.toks ..) ?_)
    cases e : ks.contains k with
    | false => rw [zip_valueAt_none e]; exact .bool _
    | true => obtain ⟨w, hw⟩ := zip_valueAt_some hd.1 e; rw [hw]; exact .bool _
theorem ev_notin_dct {ks : List Int} {vs : List V} {k : Int} (h : Q (.bool (!ks.contains k)) σ) : EV2 c env D (.int k) (.dct ks vs) (compareOp .NotIn) l σ Q := by
  intro A g ρ z s Q' E' w₁ w₂ ok R r₁ r₂ q
  cases r₂ with
  | dct hm hsm hd hl =>
    cases r₁
    rename_i t
    have hD := idict_at (p := c.prog) (w := c.w) (R.frz _ hm).1 hd
    refine wpAny_notIn_of (intKind_is _ _ k t) hsm hD.mapOf (q _ _ _ _ _ _ h (R.toks _) (Go.toks ..) ?_)
    cases e : ks.contains k with
    | false => rw [zip_valueAt_none e]; exact .bool _
    | true => obtain ⟨w, hw⟩ := zip_valueAt_some hd.1 e; rw [hw]; exact .bool _

-- STORES
theorem eu_list {Q : Hp → Prop} {i : Nat} {vs : List V} {k : Int} {v : V} (hi : σ[i]? = some (.list vs)) (h0 : 0 ≤ k) (hn : k < vs.length) (hz : k < 2 ^ 63) (h : Q (σ.set i (.list (vs.set k.toNat v)))) : EU3 c env D (.ref i) (.int k) v setItem l σ Q := by
  intro A g ρ z s Q' E' w₁ w₂ w₃ ok R r₁ r₂ r₃ q
  cases r₁ with
  | ref hr =>
    cases r₂
    obtain ⟨ws, n, h1, h2, h3, h4⟩ := R.toRp.list hi hr
    have hL : env.locals ≠ _ := fun e => h3 (List.mem_append_left _ (List.mem_singleton.mpr e.symm))
    refine setItem_plain ⟨n, h1⟩ h0 hz (by rw [List.size_toArray, ← h2.length]; exact hn) fun h' hp hs => ?_
    obtain ⟨n', hp⟩ := hp
    obtain ⟨P', G'⟩ := R.toRp.setList (s' := { s with heap := h' }) (ws' := ws.set k.toNat w₃) (vs' := vs.set k.toNat v) hi hr hs ⟨n', by rw [hp]; simp⟩ (h2.set _ r₃)
    exact q _ _ _ _ h (R.mk' P' (Ext.refl ..) fun m hm => hm.sameBut hs hL) G'
end
end
section
open PySem PySem.W PyProof.Rows PySem.Calls

section
variable {c : Cx} {env : Env} {D : Nat} {l : Loc} {σ : Hp} {Q : V → Hp → Prop} {QB : Bool → Hp → Prop}

-- SLICES
def EO (c : Cx) (env : Env) (D : Nat) (x : Option Expr) (l : Loc) (σ : Hp) (Q : Option Int → Hp → Prop) : Prop :=
  ∀ (A : Around) (g : Heap) (ρ : List Addr) (z : Led) (s : Shared) (Q' E' : Value → Shared → Prop), Ok A D → Rep c env g ρ z σ l s →
    (∀ i w σ' ρ' z' s', Q i σ' → Rep c env g ρ' z' σ' l s' → Go g ρ z s ρ' z' s' → IsPart w i → Q' w s') → wpAny c.M A (evalPart x env) Q' E' s
theorem eo_none {Q : Option Int → Hp → Prop} (h : Q none σ) : EO c env D none l σ Q := fun _ _ _ _ _ _ _ _ R q => evalPart_none_step (q _ _ _ _ _ _ h R (Go.refl ..) .none)
theorem eo_some {e : Expr} {Q : Option Int → Hp → Prop} (h : EV c env D (eval e env) l σ fun v σ₁ => ∃ i, v = .int i ∧ Q (some i) σ₁) : EO c env D (some e) l σ Q := fun A g ρ z s Q' E' ok R q =>
  evalPart_some_step (h A g ρ z s _ _ ok R fun v w σ1 ρ1 z1 s1 h1 R1 G1 r1 => by
    obtain ⟨i, rfl, hq⟩ := h1
    cases r1
    exact q _ _ _ _ _ _ hq R1 G1 (.int _ _))
/-- a value is cut -/
def ES (c : Cx) (env : Env) (D : Nat) (v : V) (lo hi : Option Int) (l : Loc) (σ : Hp) (Q : V → Hp → Prop) : Prop :=
  ∀ (A : Around) (g : Heap) (ρ : List Addr) (z : Led) (s : Shared) (Q' E' : Value → Shared → Prop) (w wl wu : Value) (sl : Addr), Ok A D → Rep c env g ρ z σ l s → VR z ρ v w → IsPart wl lo → IsPart wu hi → s.heap.IsSliceOf sl wl wu .none →
    (∀ v w σ' ρ' z' s', Q v σ' → Rep c env g ρ' z' σ' l s' → Go g ρ z s ρ' z' s' → VR z' ρ' v w → Q' w s') → ItemOn c.M A E' w (.ref sl) Q' s
theorem ev_slice {o : Expr} {lo hi : Option Expr} {p pos : Pos} (h : EV c env D (eval o env) l σ fun ov σ₁ => EO c env D lo l σ₁ fun a σ₂ => EO c env D hi l σ₂ fun b σ₃ => ES c env D ov a b l σ₃ Q)
    (ht : ∀ a r, letTemporaryGo o a r = pure () := by intro _ _; rfl) : EV c env D (eval (.Subscript o (.Slice lo hi none p) pos) env) l σ Q := by
  intro A g ρ z s Q' E' ok R q
  refine Subscript_Slice (h A g ρ z s _ _ ok R fun ov ow σ1 ρ1 z1 s1 h1 R1 G1 r1 => ?_) ht
  refine wpAny_Slice (h1 A g ρ1 z1 s1 _ _ ok R1 fun a wa σ2 ρ2 z2 s2 h2 R2 G2 p2 => ?_)
  refine h2 A g ρ2 z2 s2 _ _ ok R2 fun b wb σ3 ρ3 z3 s3 h3 R3 G3 p3 => ?_
  refine evalPart_none_step ?_
  have R4 := R3.junk { cls := .type "slice", data := .fields #[wa, wb, .none] }
  exact h3 A g ρ3 z3 _ _ _ ow wa wb s3.heap.objs.size ok R4 ((r1.mono G2.toExt).mono G3.toExt) p2 p3 (Heap.IsSliceOf.new ..) fun v w σ' ρ' z' s' hq R' G' r' =>
    q v w σ' ρ' z' s' hq R' (((G1.trans G2).trans G3).trans ((Go.same _ _ _ _ _ fun _ _ e => Heap.get?_push_of_some _ e).trans G')) r'
theorem es_bytes {b : List UInt8} {lo hi : Option Int} (hz : b.length ≤ 1000000) (h : Q (.bytes (cut b lo hi)) σ) : ES c env D (.bytes b) lo hi l σ Q := by
  intro A g ρ z s Q' E' w wl wu sl ok R r pl pu hs q
  cases r with
  | bytes _ t =>
    refine ⟨"bytes", _, FB.slot_bytes_getitem.lookup, typeIs_bytes _ _ _, getItem_meets (typeIs_bytes _ _ _) (by decide) FB.slot_bytes_getitem FB.entry_bytes_getitem (FB.args_bytes_getitem_2 _ _) (KBc.meets_slice2 b.toArray t sl pl pu)
      ⟨hs, Nat.le_trans (KBc.size_picked_le _ lo hi) (by rw [List.size_toArray, sizeLine_eq]; omega), fun t' k => ?_⟩⟩
    rw [cut_picked]
    exact q _ _ _ _ _ _ h (R.toks _) (Go.toks ..) (.bytes _ _)
theorem es_mkList {vs : List V} {ws : List Value} {lo hi : Option Int} {g : Heap} {ρ : List Addr} {z : Led} {s : Shared} {a sl : Addr} {n : Nat} {A : Around} {Q' E' : Value → Shared → Prop} {wl wu : Value} (R : Rep c env g ρ z σ l s) (hz : vs.length ≤ 1000000) (e : s.heap.get? a = some (listOf ws.toArray n)) (hl : VRL z ρ vs ws)
    (pl : IsPart wl lo) (pu : IsPart wu hi) (hs : s.heap.IsSliceOf sl wl wu .none) (h : Q (.ref σ.length) (σ ++ [.list (cut vs lo hi)]))
    (q : ∀ v w σ' ρ' z' s', Q v σ' → Rep c env g ρ' z' σ' l s' → Go g ρ z s ρ' z' s' → VR z' ρ' v w → Q' w s') : ItemOn c.M A E' (.ref a) (.ref sl) Q' s := by
  refine ⟨"list", _, slot_list_getitem.lookup, (isList_of e).typeIs, wpAny_getItem_list_slice (isList_of e) hs pl pu .none (by simp) ?_ (by have := hl.length; rw [List.size_toArray, sizeLine_eq]; omega)⟩
  rw [cut_pick]
  obtain ⟨P', G', r'⟩ := R.toRp.newList (vs := cut vs lo hi) (ws := cut ws lo hi) (n := 0) (hl.cut lo hi)
  exact q _ _ _ _ _ _ h (R.mk' P' G'.toExt fun m hm => hm.push _) G' r'
theorem es_list {i : Nat} {vs : List V} {lo hi : Option Int} (hi' : σ[i]? = some (.list vs)) (hz : vs.length ≤ 1000000) (h : Q (.ref σ.length) (σ ++ [.list (cut vs lo hi)])) : ES c env D (.ref i) lo hi l σ Q := by
  intro A g ρ z s Q' E' w wl wu sl ok R r pl pu hs q
  cases r with
  | ref hr =>
    obtain ⟨ws, n, h1, h2, h3, h4⟩ := R.toRp.list hi' hr
    exact es_mkList R hz h1 h2 pl pu hs h q
theorem es_lst {vs : List V} {lo hi : Option Int} (hz : vs.length ≤ 1000000) (h : Q (.ref σ.length) (σ ++ [.list (cut vs lo hi)])) : ES c env D (.lst vs) lo hi l σ Q := by
  intro A g ρ z s Q' E' w wl wu sl ok R r pl pu hs q
  cases r with
  | lst hm h2 => exact es_mkList R hz (R.frz _ hm).1 h2 pl pu hs h q

theorem adjust_run (a b n : Nat) (ha : a ≤ n) : Builtin.Slice.sliceAdjust (some (a : Int)) (some (b : Int)) 1 (n : Int) = ((a : Int), ((min b n : Nat) : Int)) := by
  unfold Builtin.Slice.sliceAdjust
  simp
  omega
theorem places_run (a b : Nat) : Builtin.Slice.slicePlaces (a : Int) (b : Int) 1 = b - a := by
  unfold Builtin.Slice.slicePlaces
  have h1 : (1 : Int) > 0 := by omega
  simp only [h1, if_true, Int.ediv_one]
  split <;> omega
theorem sliceApplied_run {prog : Program} {w : World} {A : Around} {E : Value → Shared → Prop} {s : Shared} {sl : Addr} {a b n : Nat} {u u' : Tok} {Q : Int × Int × Nat → Shared → Prop} (hs : s.heap.IsSliceOf sl (.int a u) (.int b u') .none) (ha : a ≤ n) (h : Q ((a : Int), 1, min b n - a) s) :
    wpAny (model prog w) A (Builtin.Slice.sliceApplied (.ref sl) (pure (n : Int))) Q E s := by
  obtain ⟨os, hos, hcs, hds⟩ := id hs
  unfold Builtin.Slice.sliceApplied Builtin.Slice.sliceFields
  refine wpAny_bind (wpAny_bind (wpAny_field hos hds (x := .int a u) rfl (wpAny_bind (wpAny_field hos hds (x := .int b u') rfl (wpAny_bind (wpAny_field hos hds (x := .none) rfl (wpAny_pure ?_)))))))
  refine wpAny_bind (slicePart_none ?_)
  show wpAny _ _ (if ((1 : Int) == 0) = true then _ else _) _ _ s
  rw [if_neg (by decide)]
  refine wpAny_bind (slicePart_int (wpAny_bind (slicePart_int (wpAny_bind (wpAny_pure ?_)))))
  show wpAny _ _ (match Builtin.Slice.sliceAdjust (some (a : Int)) (some (b : Int)) 1 (n : Int) with | (lo, hi) => pure (lo, (1 : Int), Builtin.Slice.slicePlaces lo hi 1)) _ _ s
  rw [adjust_run a b n ha]
  show wpAny _ _ (pure ((a : Int), (1 : Int), Builtin.Slice.slicePlaces (a : Int) ((min b n : Nat) : Int) 1)) _ _ s
  rw [places_run a (min b n)]
  exact wpAny_pure h
theorem es_tup {vs : List V} {a b : Nat} (ha : a ≤ vs.length) (hz : vs.length ≤ 1000000) (h : Q (.tup ((vs.drop a).take (b - a))) σ) : ES c env D (.tup vs) (some (a : Int)) (some (b : Int)) l σ Q := by
  intro A g ρ z s Q' E' w wl wu sl ok R r pl pu hs q
  have r0 := r
  cases r with
  | tup hm hl =>
    rename_i ws t n
    have ht : IsTup s.heap t ws.toArray := isTup_of (R.frz _ hm).1
    have hlen := hl.length
    refine ⟨"tuple", _, slot_tuple_getitem.lookup, ht.typeIs, ?_⟩
    obtain ⟨os, hos, hcs, hds⟩ := id hs
    have hTs : s.TypeIs (.ref sl) "slice" := ⟨os, hos, hcs⟩
    cases pl with
    | int _ u =>
      cases pu with
      | int _ u' =>
        show wpAny c.M A (getItem (.ref t) (.ref sl)) Q' E' s
        unfold getItem
        try with_reducible refine wpAny_holding ?_
        first | refine wpAny_bind (wpAny_pure ?_) | skip
        refine wpAny_bind (wpAny_sequenceKey ht.typeIs (by decide) ?_)
        refine wpAny_bind (wpAny_callSpecial?_slot (name := Str.ofString "__getitem__") ht.typeIs slot_tuple_getitem
          (wpAny_call_entry slot_tuple_getitem ht.typeIs entry_tuple_getitem ?_ (args_tuple_getitem _ _)))
        show wpAny _ _ (Builtin.Tuple.tupleItemsOf (.ref t) >>= _) _ _ s
        refine wpAny_bind (tupleItemsOf_ ht ?_)
        refine wpAny_bind (wpAny_typeOf hTs ?_)
        rw [if_pos (by decide)]
        refine wpAny_bind (sliceApplied_run hs (by rw [List.size_toArray, ← hlen]; exact ha) ?_)
        rw [List.size_toArray, ← hlen]
        have epick : (((List.range (min b vs.length - a)).filterMap fun (k : Nat) => (ws.toArray)[((a : Int) + (k : Int) * 1).toNat]?).toArray : Array Value) = ((ws.drop a).take (b - a)).toArray := by
          have e : (fun (k : Nat) => (ws.toArray)[((a : Int) + (k : Int) * 1).toNat]?) = fun k => (ws.toArray)[a + k]? := by
            funext k
            have : ((a : Int) + (k : Int) * 1).toNat = a + k := by omega
            rw [this]
          rw [e]
          have := pick_run ws.toArray a (min b vs.length - a)
          rw [List.filterMap_map] at this
          have e2 : ((fun x => (ws.toArray)[x]?) ∘ fun x => a + x) = fun k => (ws.toArray)[a + k]? := rfl
          rw [e2] at this
          rw [this]
          show ((ws.drop a).take (min b vs.length - a)).toArray = _
          rw [hlen]
          congr 1
          by_cases hb : b ≤ ws.length
          · rw [Nat.min_eq_left hb]
          · rw [Nat.min_eq_right (by omega), List.take_of_length_le (by simp), List.take_of_length_le (by simp; omega)]
        show wpAny _ _ (if ((a : Int) == 0 && (1 : Int) == 1 && (min b vs.length - a) == vs.length) = true then _ else _) _ _ s
        by_cases hw : ((a : Int) == 0 && (1 : Int) == 1 && (min b vs.length - a) == vs.length) = true
        · rw [if_pos hw]
          have hw' := hw
          simp only [Bool.and_eq_true, beq_iff_eq] at hw'
          have ha0 : a = 0 := by omega
          have hb : vs.length ≤ b := by omega
          have eV : (vs.drop a).take (b - a) = vs := by
            subst ha0
            rw [List.drop_zero]; exact List.take_of_length_le (by omega)
          rw [eV] at h
          have fin := q _ _ _ _ _ _ h R (Go.refl ..) r0
          refine wpAny_bind (wpAny_bind (wpAny_typeOf ht.typeIs (wpAny_pure ?_)))
          rw [if_pos (by rfl)]
          first
            | exact wpAny_bind (wpAny_rule (wpAny_bind (wpAny_pure (wpAny_pure ⟨_, rfl, wpAny_pure fin⟩))))
            | exact wpAny_bind (wpAny_rule (wpAny_bind (wpAny_pure (wpAny_pure (wpAny_pure ⟨_, rfl, wpAny_pure fin⟩)))))
            | exact wpAny_bind (wpAny_rule (wpAny_pure ⟨_, rfl, wpAny_pure fin⟩))
            | exact wpAny_bind (wpAny_rule (wpAny_bind (wpAny_pure ⟨_, rfl, wpAny_pure fin⟩)))
        · rw [if_neg hw, epick]
          have hsz : sizeOk (.seq (List.take (b - a) (List.drop a ws)).toArray) := by
            show (List.take (b - a) (List.drop a ws)).toArray.size ≤ sizeLine
            rw [List.size_toArray, List.length_take, List.length_drop, sizeLine_eq]; omega
          obtain ⟨P', G', r'⟩ := R.toRp.newTup (vs := (vs.drop a).take (b - a)) (ws := (ws.drop a).take (b - a)) (n := 0) ((hl.drop a).take _)
          have fin := q _ _ _ _ _ _ h (R.mk' P' G'.toExt fun m hm => hm.push _) G' r'
          first
            | exact wpAny_bind (m := Builtin.Tuple.tupleExact _) (wpAny_newObj_type (wpAny_pure ⟨_, rfl, wpAny_pure fin⟩) hsz)
            | exact wpAny_bind (m := Builtin.Tuple.tupleExact _) (wpAny_newObj_type (wpAny_bind (wpAny_pure (wpAny_pure ⟨_, rfl, wpAny_pure fin⟩))) hsz)
            | exact wpAny_bind (wpAny_bind (m := Builtin.Tuple.tupleExact _) (wpAny_newObj_type (wpAny_pure (wpAny_pure ⟨_, rfl, wpAny_pure fin⟩)) hsz))
            | exact wpAny_bind (wpAny_bind (m := Builtin.Tuple.tupleExact _) (wpAny_newObj_type (wpAny_pure ⟨_, rfl, wpAny_pure fin⟩) hsz))
end
end
section
open PySem PySem.W PyProof.Rows PySem.Calls

section
variable {c : Cx} {env : Env} {D : Nat} {l : Loc} {σ : Hp} {Q : V → Hp → Prop} {QB : Bool → Hp → Prop} {pos : Pos}

-- DISPLAYS
theorem ev_list {es : List Expr} (h : EL c env D pos es l σ fun vs σ₁ => vs.length ≤ 1000000 ∧ Q (.ref σ₁.length) (σ₁ ++ [.list vs])) : EV c env D (eval (.List es pos) env) l σ Q := by
  intro A g ρ z s Q' E' ok R q
  refine List_ (h.2 A g ρ z s _ _ ok R fun vs ws σ1 ρ1 z1 s1 h1 R1 G1 r1 => ?_)
  obtain ⟨P', G', r'⟩ := R1.toRp.newList (n := 0) r1
  exact wpAny_newObj_type (q _ _ _ _ _ _ h1.2 (R1.mk' P' G'.toExt fun m hm => hm.push _) (G1.trans G') r') (by show ws.toArray.size ≤ sizeLine; have := r1.length; have := h1.1; rw [List.size_toArray, sizeLine_eq]; omega)
theorem ev_tuple {es : List Expr} {k : Nat} (h : EL c env D pos es l σ fun vs σ₁ => vs.length ≤ 1000000 ∧ Q (.tup vs) σ₁) : EV c env D (eval (.Tuple es k pos) env) l σ Q := by
  intro A g ρ z s Q' E' ok R q
  refine Tuple_ (h.2 A g ρ z s _ _ ok R fun vs ws σ1 ρ1 z1 s1 h1 R1 G1 r1 => ?_)
  obtain ⟨P', G', r'⟩ := R1.toRp.newTup (n := 0) r1
  exact wpAny_newObj_type (q _ _ _ _ _ _ h1.2 (R1.mk' P' G'.toExt fun m hm => hm.push _) (G1.trans G') r') (by show ws.toArray.size ≤ sizeLine; have := r1.length; have := h1.1; rw [List.size_toArray, sizeLine_eq]; omega)

-- LISTS ADDED, REPEATED
/-- a value is a list of these items -/
inductive LsOf (σ : Hp) : V → List V → Prop
  | own {i vs} : σ[i]? = some (.list vs) → LsOf σ (.ref i) vs
  | lst {vs} : LsOf σ (.lst vs) vs
theorem LsOf.at {g X ρ z} {s : Shared} {v : V} {vs : List V} {w : Value} (h : LsOf σ v vs) (P : Rp c g X ρ z σ s) (r : VR z ρ v w) : ∃ a ws n, w = .ref a ∧ s.heap.get? a = some (listOf ws.toArray n) ∧ VRL z ρ vs ws := by
  cases h with
  | own hi =>
    cases r with
    | ref hr => obtain ⟨ws, n, h1, h2, _⟩ := P.list hi hr; exact ⟨_, ws, n, rfl, h1, h2⟩
  | lst =>
    cases r with
    | lst hm hl => exact ⟨_, _, _, rfl, (P.frz _ hm).1, hl⟩
theorem ev_addL {v₁ v₂ : V} {vs₁ vs₂ : List V} (h₁ : LsOf σ v₁ vs₁) (h₂ : LsOf σ v₂ vs₂) (hz : vs₁.length + vs₂.length ≤ 1000000) (h : Q (.ref σ.length) (σ ++ [.list (vs₁ ++ vs₂)])) : EV2 c env D v₁ v₂ (binaryOp .Add) l σ Q := by
  intro A g ρ z s Q' E' w₁ w₂ ok R r₁ r₂ q
  obtain ⟨a, ws, n, rfl, e1, l1⟩ := h₁.at R.toRp r₁
  obtain ⟨a', ws', n', rfl, e2, l2⟩ := h₂.at R.toRp r₂
  refine PySem.P.add_list e1 e2 ?_ (by have := l1.length; have := l2.length; rw [List.size_toArray, List.size_toArray, sizeLine_eq]; omega)
  obtain ⟨P', G', r'⟩ := R.toRp.newList (n := 0) (l1.append l2)
  have e : (ws.toArray ++ ws'.toArray : Array Value) = (ws ++ ws').toArray := by simp
  rw [e]
  exact q _ _ _ _ _ _ h (R.mk' P' G'.toExt fun m hm => hm.push _) G' r'
theorem VRL.rep {z : Led} {ρ : List Addr} {vs ws} (h : VRL z ρ vs ws) : ∀ n, VRL z ρ (List.replicate n vs).flatten (List.replicate n ws).flatten
  | 0 => .nil
  | n + 1 => by simp only [List.replicate_succ, List.flatten_cons]; exact h.append (h.rep n)
theorem foldl_rep (xs : Array Value) : ∀ (n : Nat) (acc : Array Value), List.foldl (fun x1 x2 => x1 ++ x2) acc (List.replicate n xs) = acc ++ (List.replicate n xs.toList).flatten.toArray
  | 0, acc => by simp
  | n + 1, acc => by
    rw [List.replicate_succ, List.foldl_cons, foldl_rep xs n, Array.append_assoc]
    congr 1
    apply Array.toList_inj.mp
    simp [List.replicate_succ]
theorem ev_mulL {v₁ : V} {vs : List V} {k : Int} (h₁ : LsOf σ v₁ vs) (hk0 : -1000000 ≤ k) (hk : k ≤ 1000000) (hz : vs.length * k.toNat ≤ 1000000) (h : Q (.ref σ.length) (σ ++ [.list (List.replicate k.toNat vs).flatten])) : EV2 c env D v₁ (.int k) (binaryOp .Mult) l σ Q := by
  intro A g ρ z s Q' E' w₁ w₂ ok R r₁ r₂ q
  obtain ⟨a, ws, n, rfl, e1, l1⟩ := h₁.at R.toRp r₁
  cases r₂
  rename_i u
  have hsz : ws.toArray.size * k.toNat ≤ 2 ^ 24 := by rw [List.size_toArray, ← l1.length]; omega
  refine wpAny_binaryOp_repeat_ref (T := "list") (U := "int") (by decide) ⟨_, e1, rfl⟩ (fun s' => typeIs_int s' k u) noFill_list_mul F.fills_int_mul F.slot_int_rmul repeat_list F.slot_int_index.lookup
    (call_meets F.slot_int_rmul (typeIs_int s k u) F.entry_int_rmul (F.args_int_rmul_2 _ _) (int___rmul___int_list k u a ws.toArray n)
      ⟨e1, rfl, ⟨_, e1, rfl⟩, call_meets F.slot_list_mul ⟨_, e1, rfl⟩ F.entry_list_mul (F.args_list_mul_2 _ _)
        (AutoListH.list___mul___list_int_3 a ws.toArray n k u (by simp [Builtin.List.listFitsIndex]; omega) (by omega) (by simp [Builtin.List.listTooLong, sizeLine]; simp at hsz; omega))
        ⟨e1, ?_⟩⟩)
  obtain ⟨P', G', r'⟩ := R.toRp.newList (n := 0) (l1.rep k.toNat)
  have e : List.foldl (fun x1 x2 => x1 ++ x2) #[] (List.replicate (if ws.toArray.isEmpty = true then 0 else k.toNat) ws.toArray) = (List.replicate k.toNat ws).flatten.toArray := by
    rw [foldl_rep]
    by_cases hw : ws.toArray.isEmpty = true
    · rw [if_pos hw]
      have : ws = [] := by simpa using hw
      subst this; simp
    · rw [if_neg hw]; simp
  rw [e]
  exact q _ _ _ _ _ _ h (R.mk' P' G'.toExt fun m hm => hm.push _) G' r'

-- IDENTITY
theorem ev_is_none {v : V} {b : Bool} (hb : match v with | .none => b = true | .int _ => b = false | .bool _ => b = false | .bytes _ => b = false | .str _ => b = false | .ref _ => b = false | .tup _ => b = false | .lst _ => b = false | .obj _ _ => b = false | .dct _ _ => b = false | .ntup _ _ => b = false | _ => False) (h : Q (.bool b) σ) :
    EV2 c env D v .none (compareOp .Is) l σ Q := by
  intro A g ρ z s Q' E' w₁ w₂ ok R r₁ r₂ q
  have r2 := r₂
  cases r₂
  have fin := q _ _ _ _ _ _ h R (Go.refl ..) (.bool b)
  cases r₁ <;> first | exact hb.elim | (subst hb; exact wpAny_is_plain rfl fin)
theorem ev_isnot_none {v : V} {b : Bool} (hb : match v with | .none => b = false | .int _ => b = true | .bool _ => b = true | .bytes _ => b = true | .str _ => b = true | .ref _ => b = true | .tup _ => b = true | .lst _ => b = true | .obj _ _ => b = true | .dct _ _ => b = true | .ntup _ _ => b = true | _ => False) (h : Q (.bool b) σ) :
    EV2 c env D v .none (compareOp .IsNot) l σ Q := by
  intro A g ρ z s Q' E' w₁ w₂ ok R r₁ r₂ q
  have r2 := r₂
  cases r₂
  have fin := q _ _ _ _ _ _ h R (Go.refl ..) (.bool b)
  cases r₁ <;> first | exact hb.elim | (subst hb; exact wpAny_isNot_plain rfl fin)
theorem ev_isnot_self {a : Addr} (h : Q (.bool false) σ) : EV2 c env D (.val (.ref a)) (.val (.ref a)) (compareOp .IsNot) l σ Q := by
  intro A g ρ z s Q' E' w₁ w₂ ok R r₁ r₂ q
  cases r₁; cases r₂
  exact wpAny_isNot_ref_self (q _ _ _ _ _ _ h R (Go.refl ..) (.bool _))

-- MEMBERS
def eqA : V → V → Bool
  | .int a, .int b => a == b
  | .bool a, .bool b => a == b
  | .bool a, .int b => (if a then 1 else 0) == b
  | .int a, .bool b => a == (if b then 1 else 0)
  | .none, .none => true
  | _, _ => false
def V.atom : V → Bool
  | .int _ => true
  | .bool _ => true
  | .none => true
  | _ => false
def eqW : Value → Value → Bool
  | .int a _, .int b _ => a == b
  | .bool a, .bool b => a == b
  | .bool a, .int b _ => (if a then 1 else 0) == b
  | .int a _, .bool b => a == (if b then 1 else 0)
  | .none, .none => true
  | _, _ => false
theorem eqW_eq {z : Led} {ρ : List Addr} {v u : V} {y x : Value} (hv : v.atom = true) (hu : u.atom = true) (r : VR z ρ v y) (r' : VR z ρ u x) : eqW y x = eqA v u := by
  cases r <;> (try cases hv) <;> cases r' <;> (try cases hu) <;> rfl
theorem eqW_at {z : Led} {ρ : List Addr} {v u : V} {y x : Value} (hv : v.atom = true) (hu : u.atom = true) (r : VR z ρ v y) (r' : VR z ρ u x) (A : Around) (s : Shared) : SeqAt.EqAt A s y x (eqW y x) ∧ eqW y x = eqA v u := by
  cases r <;> (try cases hv) <;> cases r' <;> (try cases hu) <;> refine ⟨?_, rfl⟩
  · exact SeqAt.EqAt.same _
  · exact SeqAt.EqAt.none_bool _
  · exact SeqAt.EqAt.none_int _ _
  · exact SeqAt.EqAt.bool_none _
  · exact SeqAt.EqAt.bool_bool _ _
  · exact SeqAt.EqAt.bool_int _ _ _
  · exact SeqAt.EqAt.int_none _ _
  · exact SeqAt.EqAt.int_bool _ _ _
  · exact SeqAt.EqAt.int_int _ _ _ _
theorem VRL.mem {z : Led} {ρ : List Addr} : ∀ {vs ws}, VRL z ρ vs ws → ∀ y ∈ ws, ∃ v ∈ vs, VR z ρ v y
  | _, _, .cons h l, y, hy => by
    rcases List.mem_cons.mp hy with rfl | hy
    · exact ⟨_, .head _, h⟩
    · obtain ⟨v, h1, h2⟩ := l.mem y hy; exact ⟨v, .tail _ h1, h2⟩
theorem VRL.anyEq {z : Led} {ρ : List Addr} {u : V} {x : Value} (hu : u.atom = true) (r' : VR z ρ u x) : ∀ {vs ws}, VRL z ρ vs ws → vs.all V.atom = true → ws.any (eqW · x) = vs.any (eqA · u)
  | _, _, .nil, _ => rfl
  | _, _, .cons h l, ha => by
    simp only [List.all_cons, Bool.and_eq_true] at ha
    rw [List.any_cons, List.any_cons, l.anyEq hu r' ha.2, eqW_eq ha.1 hu h r']
theorem in_atoms {z : Led} {ρ : List Addr} {u : V} {x : Value} {vs ws} (hu : u.atom = true) (r' : VR z ρ u x) (hl : VRL z ρ vs ws) (ha : vs.all V.atom = true) (A : Around) (s : Shared) : ∀ y, y ∈ ws.toArray → SeqAt.EqAt A s y x (eqW y x) := fun y hy => by
  obtain ⟨v, h1, h2⟩ := hl.mem y (by simpa using hy)
  exact (eqW_at (List.all_eq_true.mp ha v h1) hu h2 r' A s).1
theorem ev_in_tup {u : V} {vs : List V} (hu : u.atom = true) (ha : vs.all V.atom = true) (h : Q (.bool (vs.any (eqA · u))) σ) : EV2 c env D u (.tup vs) (compareOp .In) l σ Q := by
  intro A g ρ z s Q' E' w₁ w₂ ok R r₁ r₂ q
  cases r₂ with
  | tup hm hl =>
    have e := VRL.anyEq hu r₁ hl ha
    refine SeqAt.in_tupleAt (fun y => eqW y w₁) ⟨_, (R.frz _ hm).1, rfl, _, rfl⟩ (in_atoms hu r₁ hl ha _ _) (q _ _ _ _ _ _ h R (Go.refl ..) ?_)
    rw [← e]; simp only [List.any_toArray]; exact .bool _
theorem ev_notin_tup {u : V} {vs : List V} (hu : u.atom = true) (ha : vs.all V.atom = true) (h : Q (.bool (!vs.any (eqA · u))) σ) : EV2 c env D u (.tup vs) (compareOp .NotIn) l σ Q := by
  intro A g ρ z s Q' E' w₁ w₂ ok R r₁ r₂ q
  cases r₂ with
  | tup hm hl =>
    have e := VRL.anyEq hu r₁ hl ha
    refine SeqAt.notIn_tupleAt (fun y => eqW y w₁) ⟨_, (R.frz _ hm).1, rfl, _, rfl⟩ (in_atoms hu r₁ hl ha _ _) (q _ _ _ _ _ _ h R (Go.refl ..) ?_)
    rw [← e]; simp only [List.any_toArray]; exact .bool _
theorem ev_in_list {u v : V} {vs : List V} (hu : u.atom = true) (hv : LsOf σ v vs) (ha : vs.all V.atom = true) (h : Q (.bool (vs.any (eqA · u))) σ) : EV2 c env D u v (compareOp .In) l σ Q := by
  intro A g ρ z s Q' E' w₁ w₂ ok R r₁ r₂ q
  obtain ⟨a, ws, n, rfl, e1, hl⟩ := hv.at R.toRp r₂
  have e := VRL.anyEq hu r₁ hl ha
  refine SeqAt.in_listAt (fun y => eqW y w₁) (isList_of e1) (in_atoms hu r₁ hl ha _ _) (q _ _ _ _ _ _ h R (Go.refl ..) ?_)
  rw [← e]; simp only [List.any_toArray]; exact .bool _

-- TRUTH
theorem et_bytes {b : List UInt8} (hz : b.length ≤ 1000000) (h : QB (!b.isEmpty) σ) : ET c env D (.bytes b) l σ QB := by
  intro A g ρ z s Q' E' w ok R r q
  cases r with
  | bytes _ t =>
    refine truthy_bytes (by rw [List.size_toArray]; omega) ?_
    have : (((b.toArray.size : Nat) : Int) != 0) = !b.isEmpty := by cases b <;> simp; omega
    rw [this]
    exact q _ _ _ _ _ h (R.toks _) (Go.toks ..)
theorem et_list {v : V} {vs : List V} (hv : LsOf σ v vs) (hz : vs.length ≤ 1000000) (h : QB (!vs.isEmpty) σ) : ET c env D v l σ QB := by
  intro A g ρ z s Q' E' w ok R r q
  obtain ⟨a, ws, n, rfl, e1, hl⟩ := hv.at R.toRp r
  have hlen := hl.length
  refine wpAny_truthy_list (isList_of e1) (by rw [List.size_toArray]; omega) ?_
  have : (!ws.toArray.isEmpty) = !vs.isEmpty := by cases vs <;> cases ws <;> simp_all
  rw [this]
  exact q _ _ _ _ _ h (R.toks _) (Go.toks ..)
theorem et_tup {vs : List V} (hz : vs.length ≤ 1000000) (h : QB (!vs.isEmpty) σ) : ET c env D (.tup vs) l σ QB := by
  intro A g ρ z s Q' E' w ok R r q
  cases r with
  | tup hm hl =>
    rename_i ws a n
    have hlen := hl.length
    refine truthy_tuple (isTup_of (R.frz _ hm).1) (by rw [List.size_toArray]; omega) ?_
    have : (!ws.toArray.isEmpty) = !vs.isEmpty := by cases vs <;> cases ws <;> simp_all
    rw [this]
    exact q _ _ _ _ _ h (R.toks _) (Go.toks ..)

-- TARGETS
/-- targets are bound, one after the other -/
def EAs (c : Cx) (env : Env) (D : Nat) (ts : List Expr) (vs : List V) (l : Loc) (σ : Hp) (Q : Loc → Hp → Prop) : Prop :=
  ∀ (A : Around) (g : Heap) (ρ : List Addr) (z : Led) (s : Shared) (Q' : Unit → Shared → Prop) (E' : Value → Shared → Prop) (ws : List Value), Ok A D → Rep c env g ρ z σ l s → VRL z ρ vs ws →
    (∀ l' σ' ρ' z' s', Q l' σ' → Rep c env g ρ' z' σ' l' s' → Go g ρ z s ρ' z' s' → Q' () s') → wpAny c.M A (assignInOrder ((assignEach ts env).map (·.2)) ws) Q' E' s
theorem eas_nil {Q : Loc → Hp → Prop} (h : Q l σ) : EAs c env D [] [] l σ Q := fun _ _ _ _ _ _ _ _ _ R r q => by
  cases r; exact wpAny_assignInOrder_none (q _ _ _ _ _ h R (Go.refl ..))
theorem eas_cons {t : Expr} {ts : List Expr} {v : V} {vs : List V} {Q : Loc → Hp → Prop} (h : EA c env D t v l σ fun l₁ σ₁ => EAs c env D ts vs l₁ σ₁ Q) (he : assignEach (t :: ts) env = (false, assign t env) :: assignEach ts env := by kernel_rfl) : EAs c env D (t :: ts) (v :: vs) l σ Q := by
  intro A g ρ z s Q' E' ws ok R r q
  cases r with
  | cons r1 r2 =>
    rw [he]
    refine wpAny_assignInOrder_more (h A g ρ z s _ _ _ ok R r1 fun l1 σ1 ρ1 z1 s1 h1 R1 G1 => ?_)
    exact h1 A g ρ1 z1 s1 _ _ _ ok R1 (r2.mono G1.toExt) fun l' σ' ρ' z' s' hq R' G' => q _ _ _ _ _ hq R' (G1.trans G')
theorem Rep.grown {g : Heap} {ρ : List Addr} {z : Led} {s : Shared} {h' : Heap} (R : Rep c env g ρ z σ l s) (e : Heap.ExtBut s.heap.objs.size s.heap h') : Rep c env g ρ z σ l { s with heap := h' } ∧ Go g ρ z s ρ z { s with heap := h' } := by
  have k : ∀ b o, s.heap.get? b = some o → h'.get? b = some o := fun b o eb => e b o (Nat.ne_of_lt (Heap.lt_size eb)) eb
  exact ⟨R.grow (s' := { s with heap := h' }) k, Go.same _ _ _ _ _ k⟩
theorem ea_tuple {ts : List Expr} {k : Nat} {vs : List V} {Q : Loc → Hp → Prop} (h : EAs c env D ts vs l σ Q) (hn : (assignEach ts env).length = vs.length := by rfl) (hstar : (assignEach ts env).findIdx? (·.1) = none := by rfl) : EA c env D (.Tuple ts k pos) (.tup vs) l σ Q := by
  intro A g ρ z s Q' E' w ok R r q
  cases r with
  | tup hm hl =>
    refine assign_Tuple_tuple ok.h (isTup_of (R.frz _ hm).1) (by rw [List.size_toArray, ← hl.length]; exact hn) hstar fun h' e => ?_
    obtain ⟨R1, G1⟩ := R.grown e
    exact h A g ρ z _ _ _ _ ok R1 hl fun l' σ' ρ' z' s' hq R' G' => q _ _ _ _ _ hq R' (G1.trans G')
end
end
section
open PySem PySem.W PyProof.Rows PySem.Calls PySem.Builtin
namespace FX
theorem slot_isdigit : Slot "bytes" "isdigit" "bytes.isdigit" :=
  .of (owner := "bytes") (n := "isdigit") (by rw [typeLookup_type, builtinLookup_eq_fast]; kernel_rfl) (by decide +kernel) (by decide +kernel) (by decide +kernel)
    (by first | exact .inl (by decide +kernel) | exact .inr (by decide +kernel)) (by rw [isSubtype_type]; kernel_rfl)
theorem type_isdigit : typeOf (.builtin "bytes.isdigit") = pure (.type "method_descriptor") := by show builtinType _ = _; rw [builtinType_eq_fast]; kernel_rfl
theorem entry_isdigit : entryFor table "bytes.isdigit" = some Builtin.«bytes.isdigit» := entryFor_of_tree (by kernel_rfl)
theorem args_isdigit (a : Value) : argsOk "bytes.isdigit" ⟨[a], []⟩ := by
  unfold argsOk; rw [signature?_of (id := "bytes.isdigit") (n := "isdigit".toList.reverse) (o := ['s', 'e', 't', 'y', 'b']) (by kernel_rfl) PySem.W.FB.owner_bytes]; kernel_rfl
theorem gives_isdigit (b : Array UInt8) (t : Tok) : Gives («bytes.isdigit» ⟨[.bytes b t], []⟩) (.val (.bool (Bytes.allOf Bytes.isDigit b.toList))) := .of_eq rfl
theorem slot_find : Slot "bytes" "find" "bytes.find" :=
  .of (owner := "bytes") (n := "find") (by rw [typeLookup_type, builtinLookup_eq_fast]; kernel_rfl) (by decide +kernel) (by decide +kernel) (by decide +kernel)
    (by first | exact .inl (by decide +kernel) | exact .inr (by decide +kernel)) (by rw [isSubtype_type]; kernel_rfl)
theorem type_find : typeOf (.builtin "bytes.find") = pure (.type "method_descriptor") := by show builtinType _ = _; rw [builtinType_eq_fast]; kernel_rfl
theorem entry_find : entryFor table "bytes.find" = some Builtin.«bytes.find» := entryFor_of_tree (by kernel_rfl)
theorem args_find (a b : Value) : argsOk "bytes.find" ⟨[a, b], []⟩ := by
  unfold argsOk; rw [signature?_of (id := "bytes.find") (n := "find".toList.reverse) (o := ['s', 'e', 't', 'y', 'b']) (by kernel_rfl) PySem.W.FB.owner_bytes]; kernel_rfl
theorem args_decode2 (a b : Value) : argsOk "bytes.decode" ⟨[a, b], []⟩ := by
  unfold argsOk; rw [signature?_of (id := "bytes.decode") (n := "decode".toList.reverse) (o := ['s', 'e', 't', 'y', 'b']) (by kernel_rfl) PySem.W.FB.owner_bytes]; kernel_rfl
theorem meets_contains (b : Array UInt8) (t : Tok) (k : Int) (u : Tok) (h0 : 0 ≤ k) (h1 : k < 256) : Meets («bytes.__contains__» ⟨[.bytes b t, .int k u], []⟩) (fun _ R s => R (.ok (.ret (.bool (b.contains k.toNat.toUInt8)))) s) := by
  refine .of_wp fun prog w A R s hS => ?_
  show wpAny _ _ (Bytes.containsIn "bytes.__contains__" (.bytes b t) (.int k u) >>= fun r => ret (.bool r)) _ _ s
  refine wpAny_bind ?_
  unfold Bytes.containsIn
  refine wpAny_bind (wpAny_attempt (wpAny_of_eq (rfl : asIndex (.int k u) = pure k) ?_))
  refine wpAny_bind (wpAny_of_eq KBy.buffer_eq ?_)
  refine wpAny_ite (KBy.ite_no (by simp; omega) ?_)
  exact wpAny_pure (wpAny_pure ⟨_, rfl, hS⟩)
/-- the first place of a part -/
def findB (b sub : Array UInt8) : Int := match (if (b.size : Int) - 0 < sub.size then none else some (0, b.size)).bind fun (p : Nat × Nat) => Bytes.find? b sub p.1 p.2 with | some i => i | none => -1
theorem meets_find (b c : Array UInt8) (t u : Tok) : Meets («bytes.find» ⟨[.bytes b t, .bytes c u], []⟩) (fun _ R s => R (.ok (.ret (.int (findB b c) s.toks))) { s with toks := s.toks + 1 }) := by
  refine .of_wp fun prog w A R s hS => ?_
  show wpAny _ _ (Bytes.searchArgs .bytes "find" ⟨[.bytes b t, .bytes c u], []⟩ >>= fun r => _) _ _ s
  refine wpAny_bind ?_
  unfold Bytes.searchArgs
  refine wpAny_bind (wpAny_of_eq (a := (.bytes b t, [.bytes c u])) rfl ?_)
  refine wpAny_bind (wpAny_of_eq (a := none) rfl ?_)
  refine wpAny_bind (wpAny_of_eq (a := none) rfl ?_)
  dsimp only [List.headD]
  refine wpAny_bind (wpAny_of_eq KBy.buffer_eq ?_)
  dsimp only
  refine wpAny_bind (wpAny_pure ?_)
  refine wpAny_bind (wpAny_of_eq (a := b) rfl ?_)
  refine wpAny_pure ?_
  have e : Bytes.window b.size none none = (0, (b.size : Int)) := by
    simp [Bytes.window]
    rw [if_neg (by omega)]; omega
  rw [e]
  unfold findB at hS
  by_cases hw : (b.size : Int) - 0 < c.size
  · rw [if_pos hw] at hS
    rw [if_pos (by simpa using hw)]
    dsimp only [Option.bind_none] at hS ⊢
    refine wpAny_bind (wpAny_rule ?_)
    show wpAny _ _ (retInt (-1)) _ _ s
    exact wpAny_bind (wpAny_mkInt (wpAny_pure ⟨_, rfl, hS⟩))
  · rw [if_neg hw] at hS
    rw [if_neg (by simpa using hw)]
    dsimp only [Option.bind_some] at hS ⊢
    have e2 : ((b.size : Int)).toNat = b.size := by simp
    have e3 : (0 : Int).toNat = 0 := rfl
    simp only [e2, e3]
    cases hf : Bytes.find? b c 0 b.size with
    | some i =>
      rw [hf] at hS
      exact wpAny_bind (wpAny_mkInt (wpAny_pure ⟨_, rfl, hS⟩))
    | none =>
      rw [hf] at hS
      refine wpAny_bind (wpAny_rule ?_)
      show wpAny _ _ (retInt (-1)) _ _ s
      exact wpAny_bind (wpAny_mkInt (wpAny_pure ⟨_, rfl, hS⟩))
theorem road_ascii {id : String} {b : Array UInt8} : _codecs.decodeRoad id b (PySem.Str.ofString "ascii") none [] = (_codecs.runDecoder id _codecs.asciiDecoder none true b 0 [] >>= fun r => mkStr ⟨r.1⟩) := by kernel_rfl
theorem run_ascii1 {id : String} {x : UInt8} (hx : x.toNat < 128) : _codecs.runDecoder id _codecs.asciiDecoder none true #[x] 0 [] = pure (#[x.toNat], 1) := by
  have hs : ¬ (0 > sizeLine) := by rw [sizeLine_eq]; omega
  have h1 : ¬ (1 > sizeLine) := by rw [sizeLine_eq]; omega
  simp [_codecs.runDecoder, _codecs.asciiDecoder, _codecs.Found.char, Std.Legacy.Range.forIn_eq_forIn_range', Std.Legacy.Range.size, List.range', hx, hs]
theorem run_ascii2 {id : String} {x y : UInt8} (hx : x.toNat < 128) (hy : y.toNat < 128) : _codecs.runDecoder id _codecs.asciiDecoder none true #[x, y] 0 [] = pure (#[x.toNat, y.toNat], 2) := by
  have hs : ¬ (0 > sizeLine) := by rw [sizeLine_eq]; omega
  have h1 : ¬ (1 > sizeLine) := by rw [sizeLine_eq]; omega
  simp [_codecs.runDecoder, _codecs.asciiDecoder, _codecs.Found.char, Std.Legacy.Range.forIn_eq_forIn_range', Std.Legacy.Range.size, List.range', hx, hy, hs, h1]
theorem run_ascii3 {id : String} {x y z : UInt8} (hx : x.toNat < 128) (hy : y.toNat < 128) (hz : z.toNat < 128) : _codecs.runDecoder id _codecs.asciiDecoder none true #[x, y, z] 0 [] = pure (#[x.toNat, y.toNat, z.toNat], 3) := by
  have hs : ¬ (0 > sizeLine) := by rw [sizeLine_eq]; omega
  have h1 : ¬ (1 > sizeLine) := by rw [sizeLine_eq]; omega
  have h2 : ¬ (2 > sizeLine) := by rw [sizeLine_eq]; omega
  simp [_codecs.runDecoder, _codecs.asciiDecoder, _codecs.Found.char, Std.Legacy.Range.forIn_eq_forIn_range', Std.Legacy.Range.size, List.range', hx, hy, hz, hs, h1, h2]
theorem int_text1 : ∀ a : Fin 10, PySem.intText? ⟨#[48 + a.val]⟩ = some (a.val : Int) := by decide +kernel
theorem int_text2 : ∀ a b : Fin 10, PySem.intText? ⟨#[48 + a.val, 48 + b.val]⟩ = some ((10 * a.val + b.val : Nat) : Int) := by decide +kernel
theorem int_text3 : ∀ a b c : Fin 10, PySem.intText? ⟨#[48 + a.val, 48 + b.val, 48 + c.val]⟩ = some ((100 * a.val + 10 * b.val + c.val : Nat) : Int) := by decide +kernel
end FX

namespace FX
theorem entry_decode2 {x : UInt8} {xs : List UInt8} {t u : Tok} : «bytes.decode» ⟨[.bytes (x :: xs).toArray t, .str (PySem.Str.ofString "ascii") u], []⟩ = (mkStr (PySem.Str.ofString "utf-8") >>= fun _ => mkStr (PySem.Str.ofString "ascii") >>= fun e => mkStr (PySem.Str.ofString "bytes.decode") >>= fun d =>
    call (.builtin "_codecs.decode.text") [.bytes (x :: xs).toArray t, e, .none, d] >>= fun v => ret v) := by kernel_rfl
theorem meets_textA {b : Array UInt8} {t t1 t2 : Tok} {d x : PySem.Str} {n : Nat} (hd : ∀ id, _codecs.runDecoder id _codecs.asciiDecoder none true b 0 [] = pure (x.cps, n)) :
    Meets («_codecs.decode.text» ⟨[.bytes b t, .str (PySem.Str.ofString "ascii") t1, .none, .str d t2], []⟩) (fun _ R s => x.length ≤ sizeLine ∧ R (.ok (.ret (.str x s.toks))) { s with toks := s.toks + 1 }) := by
  refine .of_wp fun prog w A R s hS => ?_
  obtain ⟨hsz, h⟩ := hS
  show wpAny _ _ (Bytes.bytesLike _ (.bytes b t) >>= fun r => _) _ _ s
  refine wpAny_bind (wpAny_of_eq KBd.like_eq ?_)
  refine wpAny_bind (wpAny_of_eq KBd.held_eq ?_)
  show wpAny _ _ (_codecs.decodeRoad _ b (PySem.Str.ofString "ascii") none [] >>= fun v => _) _ _ s
  rw [road_ascii, hd]
  refine wpAny_bind (wpAny_bind (wpAny_pure ?_))
  exact wpAny_mkStr (wpAny_pure ⟨_, rfl, h⟩) hsz
theorem meets_decodeA {y : UInt8} {ys : List UInt8} {t u : Tok} {x : PySem.Str} {n : Nat} (hd : ∀ id, _codecs.runDecoder id _codecs.asciiDecoder none true (y :: ys).toArray 0 [] = pure (x.cps, n)) :
    Meets («bytes.decode» ⟨[.bytes (y :: ys).toArray t, .str (PySem.Str.ofString "ascii") u], []⟩) (fun _ R s => x.length ≤ sizeLine ∧ ∀ t' k, R (.ok (.ret (.str x t'))) { s with toks := k }) := by
  refine .of_wp fun prog w A R s hS => ?_
  obtain ⟨hsz, h⟩ := hS
  rw [entry_decode2]
  refine wpAny_bind (wpAny_mkStr ?_ (by decide))
  refine wpAny_bind (wpAny_mkStr ?_ (by decide))
  refine wpAny_bind (wpAny_mkStr ?_ (by decide))
  exact wpAny_bind (call_function_meets KBd.kind_text KBd.plain_text KBd.entry_text (KBd.args_text _ _ _ _) (meets_textA hd) ⟨hsz, wpAny_pure ⟨_, rfl, h _ _⟩⟩)
end FX
/-- the ascii text of some bytes -/
inductive Ascii : List UInt8 → PySem.Str → Prop
  | one {x} : x.toNat < 128 → Ascii [x] ⟨#[x.toNat]⟩
  | two {x y} : x.toNat < 128 → y.toNat < 128 → Ascii [x, y] ⟨#[x.toNat, y.toNat]⟩
  | three {x y z} : x.toNat < 128 → y.toNat < 128 → z.toNat < 128 → Ascii [x, y, z] ⟨#[x.toNat, y.toNat, z.toNat]⟩

section
variable {c : Cx} {env : Env} {D : Nat} {l : Loc} {σ : Hp} {Q : V → Hp → Prop} {QB : Bool → Hp → Prop} {pos : Pos}
theorem em_bytes {b : List UInt8} {name : PySem.Str} {id : String} {QM : V → List V → Hp → Prop} (slot : Slot "bytes" name id) (ty : typeOf (.builtin id) = pure (.type "method_descriptor")) (h : QM (.val (.builtin id)) [.bytes b] σ) : EM c env D (.bytes b) name l σ QM := by
  intro A g ρ z s Q' E' w pl ok R r q
  have r0 := r
  cases r with
  | bytes _ t => exact KBd.method_of (.bytes b.toArray t) (typeIs_bytes _ _ _) slot ty KBd.noRef (q _ _ _ _ _ _ _ _ h R (Go.refl ..) (.val _) (.cons r0 .nil))
theorem fn_isdigit {b : List UInt8} (h : Q (.bool (Bytes.allOf Bytes.isDigit b)) σ) : FN c D (.val (.builtin "bytes.isdigit")) [.bytes b] [] σ Q := by
  refine fn1 fun A g ρ z s Q' E' w ok P r q => ?_
  cases r with
  | bytes _ t =>
    have fin := q _ _ _ _ _ _ h P (Go.refl ..) (.bool _)
    exact call_meets FX.slot_isdigit (typeIs_bytes _ _ _) FX.entry_isdigit (FX.args_isdigit _) (FX.gives_isdigit b.toArray t).meets (show (Made.val (.bool (Bytes.allOf Bytes.isDigit b.toArray.toList))).post _ s from fin)
theorem fn_find {b x : List UInt8} (h : Q (.int (FX.findB b.toArray x.toArray)) σ) : FN c D (.val (.builtin "bytes.find")) [.bytes b, .bytes x] [] σ Q := by
  refine fn2 fun A g ρ z s Q' E' w₁ w₂ ok P r₁ r₂ q => ?_
  cases r₁; cases r₂
  exact call_meets FX.slot_find (typeIs_bytes _ _ _) FX.entry_find (FX.args_find _ _) (FX.meets_find _ _ _ _) (q _ _ _ _ _ _ h (P.toks _) (Go.toks ..) (.int _ _))
theorem fn_decode {b : List UInt8} {x : PySem.Str} (ha : Ascii b x) (h : Q (.str x) σ) : FN c D (.val (.builtin "bytes.decode")) [.bytes b, .str "ascii"] [] σ Q := by
  refine fn2 fun A g ρ z s Q' E' w₁ w₂ ok P r₁ r₂ q => ?_
  cases r₁; cases r₂
  have hsz : x.length ≤ sizeLine := by cases ha <;> (rw [sizeLine_eq]; exact Nat.le_of_ble_eq_true rfl)
  have fin := fun t' k => q _ _ _ _ _ _ h (P.toks k) (Go.toks ..) (.str x t')
  cases ha with
  | one hx => exact call_meets FB.slot_bytes_decode (typeIs_bytes _ _ _) FB.entry_bytes_decode (FX.args_decode2 _ _) (FX.meets_decodeA (n := 1) fun id => FX.run_ascii1 hx) ⟨hsz, fin⟩
  | two hx hy => exact call_meets FB.slot_bytes_decode (typeIs_bytes _ _ _) FB.entry_bytes_decode (FX.args_decode2 _ _) (FX.meets_decodeA (n := 2) fun id => FX.run_ascii2 hx hy) ⟨hsz, fin⟩
  | three hx hy hz => exact call_meets FB.slot_bytes_decode (typeIs_bytes _ _ _) FB.entry_bytes_decode (FX.args_decode2 _ _) (FX.meets_decodeA (n := 3) fun id => FX.run_ascii3 hx hy hz) ⟨hsz, fin⟩
theorem fn_int_text {x : PySem.Str} {n : Int} (hn : PySem.intText? x = some n) (hl : x.length ≤ 640) (h : Q (.int n) σ) : FN c D (.val (.type "int")) [.str x] [] σ Q := by
  refine fn1 fun A g ρ z s Q' E' w ok P r q => ?_
  cases r
  exact KIN.call_text hn hl (q _ _ _ _ _ _ h (P.toks _) (Go.toks ..) (.int _ _))
theorem ev_in_bytes {b : List UInt8} {k : Int} (h0 : 0 ≤ k) (h1 : k < 256) (h : Q (.bool (b.contains k.toNat.toUInt8)) σ) : EV2 c env D (.int k) (.bytes b) (compareOp .In) l σ Q := by
  intro A g ρ z s Q' E' w₁ w₂ ok R r₁ r₂ q
  cases r₁; cases r₂
  refine SeqRoads2.in_meets (typeIs_bytes _ _ _) FB.slot_bytes_contains FB.entry_bytes_contains (FB.args_bytes_contains_2 _ _) (FX.meets_contains _ _ _ _ h0 h1) ⟨_, rfl, q _ _ _ _ _ _ h R (Go.refl ..) ?_⟩
  have : b.toArray.contains k.toNat.toUInt8 = b.contains k.toNat.toUInt8 := by simp
  rw [this]; exact .bool _
theorem ev_notin_bytes {b : List UInt8} {k : Int} (h0 : 0 ≤ k) (h1 : k < 256) (h : Q (.bool (!b.contains k.toNat.toUInt8)) σ) : EV2 c env D (.int k) (.bytes b) (compareOp .NotIn) l σ Q := by
  intro A g ρ z s Q' E' w₁ w₂ ok R r₁ r₂ q
  cases r₁; cases r₂
  refine SeqRoads2.notIn_meets (typeIs_bytes _ _ _) FB.slot_bytes_contains FB.entry_bytes_contains (FB.args_bytes_contains_2 _ _) (FX.meets_contains _ _ _ _ h0 h1) ⟨_, rfl, q _ _ _ _ _ _ h R (Go.refl ..) ?_⟩
  have : b.toArray.contains k.toNat.toUInt8 = b.contains k.toNat.toUInt8 := by simp
  rw [this]; exact .bool _
theorem vrl_ints {z : Led} {ρ : List Addr} : ∀ {ns : List Int} {ws : List Value}, VRL z ρ (ns.map V.int) ws → IntsAre ws ns
  | [], _, .nil => .nil
  | _ :: _, _, .cons r l => by cases r; exact .cons _ _ (vrl_ints l)
theorem fn_bytes {v : V} {ns : List Int} (hv : LsOf σ v (ns.map V.int)) (hr : ∀ n ∈ ns, 0 ≤ n ∧ n < 256) (hz : ns.length ≤ 1000000) (h : Q (.bytes (ns.map fun n => n.toNat.toUInt8)) σ) : FN c D (.val (.type "bytes")) [v] [] σ Q := by
  refine fn1 fun A g ρ z s Q' E' w ok P r q => ?_
  obtain ⟨a, ws, n, rfl, e1, hl⟩ := hv.at P r
  have hi := vrl_ints hl
  refine call_bytes_ints (isList_of e1) hi hr (by have := hi.length; rw [sizeLine_eq]; omega) ok.h fun h' t k kk => ?_
  exact q _ _ _ _ _ _ h (P.grow (s' := { s with heap := h', toks := k }) kk) (Go.same _ _ _ _ _ kk) (.bytes _ _)
theorem intsAre_items : ∀ {ws : List Value} {ns : List Int}, IntsAre ws ns → ∃ xs : List (Int × Tok), ws = xs.map (fun p => Value.int p.1 p.2) ∧ xs.map (·.1) = ns
  | _, _, .nil => ⟨[], rfl, rfl⟩
  | _, _, .cons n t h => by
    obtain ⟨xs, rfl, e⟩ := intsAre_items h
    exact ⟨(n, t) :: xs, rfl, by simp [e]⟩
theorem fn_sum {v : V} {ns : List Int} (hv : LsOf σ v (ns.map V.int)) (h : Q (.int ns.sum) σ) : FN c D (.val (.builtin "sum")) [v] [] σ Q := by
  refine fn1 fun A g ρ z s Q' E' w ok P r q => ?_
  obtain ⟨a, ws, n, rfl, e1, hl⟩ := hv.at P r
  obtain ⟨xs, rfl, e⟩ := intsAre_items (vrl_ints hl)
  have hL : s.heap.IsList a (intItems xs.toArray) := by
    have := isList_of e1
    simpa [intItems] using this
  refine sum_intListG ok.h hL fun h' tk t' kk => ?_
  have e2 : preSum (numAt xs.toArray) xs.toArray.size = ns.sum := by
    rw [preSum_eq, List.take_of_length_le (by simp)]
    simp [e]
  rw [e2]
  exact q _ _ _ _ _ _ h (P.grow (s' := { s with heap := h', toks := tk }) kk) (Go.same _ _ _ _ _ kk) (.int _ _)
end
end
section
open PySem PySem.W PyProof.Rows PySem.Calls

/-- a code table has grown -/
theorem Rp.tabCh {c : Cx} {g X ρ z σ} {s s' : Shared} {cc P : Addr} {ps : Array Value} (R : Rp c g X ρ z σ s) (ht : (cc, P) ∈ c.tt) (hu : ∀ t ∈ c.tt, t.2 = P → t = (cc, P)) (hX : P ∉ X) (hs : Heap.ExtBut P s.heap s'.heap) (hc : s'.heap.IsCode cc P ps) (hc2 : s'.heap.TableAt cc P ps)
    (h1 : s'.os = s.os := by rfl) (h2 : s'.drawn = s.drawn := by rfl) (h3 : s'.gens = s.gens := by rfl) : Rp c g X ρ z σ s' := by
  obtain ⟨led, a', b, d⟩ := R.own
  have hP : P ∈ X ++ c.tk := List.mem_append_right _ (List.mem_map_of_mem (f := (·.2)) ht)
  have eP : ∃ o, s'.heap.get? P = some o := let ⟨o, vs, file, tf, flags, tg, inF, text, tt, op, a, r1, r2, r3, r4, r5, r6, b, r⟩ := hc; ⟨op, b⟩
  refine ⟨R.base, fun x o e => hs x o (fun q => ?_) (R.keep x o e), ⟨led, a', b, fun p hp => ⟨hs p.1 _ (fun q => (d p hp).2.2.1 (by rw [q]; exact hP)) (d p hp).1, (d p hp).2⟩⟩,
    fun q hq => ⟨hs q.1 _ (fun e => (R.frz q hq).2 (by rw [e]; exact hP)) (R.frz q hq).1, (R.frz q hq).2⟩, fun x hx => ⟨(R.off x hx).1, ?_⟩, fun t ht' => ?_, h1 ▸ R.os, h2 ▸ R.dr, h3 ▸ R.gens, R.kz⟩
  · rw [q, (R.off _ hP).1] at e; cases e
  · by_cases q : x = P
    · rw [q]; exact eP
    · obtain ⟨o, e⟩ := (R.off x hx).2; exact ⟨o, hs x o q e⟩
  · by_cases q : t.2 = P
    · rw [hu t ht' q]; exact ⟨ps, hc, hc2⟩
    · obtain ⟨ps', i1⟩ := R.tabs t ht'
      have e1 : t.1 ≠ P := fun q => by
        obtain ⟨ob, eb⟩ := R.base.codes t ht'
        rw [q, (R.off _ hP).1] at eb; cases eb
      exact ⟨ps', i1.1.extBut hs e1 q, i1.2.extBut hs e1 q⟩
/-- what is said of the generators: some slots hold what they held, and none waits in a try -/
def PIN (ps : List (Nat × GenState)) (a : Array GenState) : Prop := (∀ p ∈ ps, a[p.1]? = some p.2) ∧ AllBare a
theorem PIN.nil {a : Array GenState} : PIN [] a ↔ AllBare a := ⟨fun h => h.2, fun h => ⟨fun p hp => (nomatch hp), h⟩⟩
theorem PIN.push {ps : List (Nat × GenState)} {a : Array GenState} {y : GenState} (h : PIN ps a) (hy : y.bare = true) : PIN ps (a.push y) :=
  ⟨fun p hp => by
    have h1 := h.1 p hp
    have hlt : p.1 < a.size := (Array.getElem?_eq_some_iff.mp h1).1
    rw [Array.getElem?_push_lt hlt]
    rw [Array.getElem?_eq_getElem hlt] at h1; exact h1, h.2.push hy⟩
theorem PIN.other {ps : List (Nat × GenState)} {a b : Array GenState} {g : Nat} (h : PIN ps a) (hg : ∀ p ∈ ps, p.1 ≠ g) (hm : GenOnlyQ g a b) : PIN ps b :=
  ⟨fun p hp => by
    rcases hm with rfl | ⟨⟨_, ho⟩, _⟩
    · exact h.1 p hp
    · rw [ho p.1 (hg p hp)]; exact h.1 p hp, h.2.moved hm⟩
theorem PIN.moved {ps : List (Nat × GenState)} {a b : Array GenState} {y : GenState} (h : PIN ps a) (hy : y.bare = true) (hm : GenOnlyQ a.size (a.push y) b) : PIN ps b :=
  (h.push hy).other (fun p hp => Nat.ne_of_lt (Array.getElem?_eq_some_iff.mp (h.1 p hp)).1) hm
/-- generators have come and gone -/
theorem Rp.gensCh {c : Cx} {g X ρ z σ} {s : Shared} {gs : Array GenState} (R : Rp c g X ρ z σ s) (h : c.gi gs) : Rp c g X ρ z σ { s with gens := gs } := ⟨R.base, R.keep, R.own, R.frz, R.off, R.tabs, R.os, R.dr, h, R.kz⟩

section
variable {c : Cx} {env : Env} {D : Nat} {l : Loc} {σ : Hp} {Q : V → Hp → Prop}

/-- all(elt for x in data), over bytes, where elt asks one octet and changes nothing -/
theorem genexprCodeT {prog : Program} {w : World} {A : Around} {E : Value → Shared → Prop} {s : Shared} {env : Env} {c P : Addr} {ps : Array Value} {pos : Pos} {qualname : Str} {scope : Scope} {Q : Value → Shared → Prop} (hc : env.code = .ref c) (hok : s.heap.IsCode c P ps) (htab : s.heap.TableAt c P ps)
    (hQ : ∀ code h' tk ps', Heap.ExtBut P s.heap h' → h'.IsCode c P ps' → h'.TableAt c P ps' → Q code { s with heap := h', toks := tk }) :
    wpAny (model prog w) A (genexprCode env pos qualname scope) Q E s := by
  cases q : codeAmong pos ps.toList with
  | some c' => exact wpAny_genexprCode_hit hc hok q (hQ c' s.heap s.toks ps (fun _ _ _ e => e) hok htab)
  | none => exact wpAny_genexprCodeX hc hok htab q fun c' h' tk a _ _ b _ d _ => hQ _ _ _ _ a b d
theorem ev_all {elt iter func : Expr} {x : Str} {px gpos pos : Pos} {scope : Scope} {cl : List (Str × Addr)} {cc P : Addr} (p : UInt8 → Bool)
    (hgi : ∃ ps, ∀ a, c.gi a ↔ PIN ps a) (hcode : env.code = .ref cc) (htt : (cc, P) ∈ c.tt) (hu : ∀ t ∈ c.tt, t.2 = P → t = (cc, P))
    (hco : scope.isCoroutine = false) (hclos : closureFor scope env = pure cl) (hcell : ∀ y ∈ scope.names, y.2 ≠ .cell) (h0 : scope.names.lookup (".0" : Str) = some NameKind.local) (hx : scope.names.lookup x = some .local) (hkind : scope.kind = .function)
    (hfun : EV c env D (eval func env) l σ fun v σ₁ => v = .val (.builtin "all") ∧ σ₁ = σ)
    (h : EV c env D (eval iter env) l σ fun v σ₁ => ∃ data : List UInt8, v = .bytes data ∧
      (∀ (g : Heap) (ρ : List Addr) (z : Led) (s s₂ : Shared) (A' : Around) (E' : Value → Shared → Prop) (m₂ : Str → Option Value) (C : Addr) (code : Value) (o : UInt8) (u : Tok), Rep c env g ρ z σ₁ l s → (∀ b ob, b ∉ c.tk → s.heap.get? b = some ob → s₂.heap.get? b = some ob) → A'.handled = none → s₂.heap.Ns C m₂ → m₂ x = some (.int o.toNat u) →
        wpAny c.M A' (eval elt (genEnv scope cl C code builtinsNs env)) (fun y s₃ => y = .bool (p o) ∧ Keeps s₂ s₃) E' s₂) ∧
      Q (.bool (data.all p)) σ₁)
    (hs : ∀ y, genFold iter env y = pure y := by intro _; rfl)
    (he : eval (.Call func [.GeneratorExp elt [⟨.Name x px, iter, [], 0⟩] scope gpos] [] pos) env = (do callWith pos (← eval func env) [] (backTo pos (starEach [.GeneratorExp elt [⟨.Name x px, iter, [], 0⟩] scope gpos] env)) (backToKw pos (keywordEach [] env))) := by rfl)
    (he2 : starEach [.GeneratorExp elt [⟨.Name x px, iter, [], 0⟩] scope gpos] env = [(false, eval (.GeneratorExp elt [⟨.Name x px, iter, [], 0⟩] scope gpos) env)] := by rfl) :
    EV c env D (eval (.Call func [.GeneratorExp elt [⟨.Name x px, iter, [], 0⟩] scope gpos] [] pos) env) l σ Q := by
  intro A g ρ z s Q' E' ok R q
  rw [he]
  refine wpAny_bind (hfun A g ρ z s _ _ ok R fun vf wf σ0 ρ0 z0 s0 h0' R0 G0 r0 => ?_)
  obtain ⟨rfl, rfl⟩ := h0'
  have hplain : ((backTo pos (starEach [.GeneratorExp elt [⟨.Name x px, iter, [], 0⟩] scope gpos] env)).any (·.1) || (backToKw pos (keywordEach [] env)).any (·.1.isNone)) = false := by rw [he2]; rfl
  refine callWith_of (P := fun h => c.K.In h) hplain (fun h X => keepOk_looks (v := .val (.builtin "all")) trivial r0 h X) (evalArgs_gen (by rw [he2]; rfl) rfl ?_)
  rw [he2]
  have rm : A.depth < recursionLimit := by have := ok.d; omega
  refine args_cons (e := .GeneratorExp elt [⟨.Name x px, iter, [], 0⟩] scope gpos) (rest := []) (env := env) (pos := pos) ?_ rfl
  refine wpAny_GeneratorExp_walksQD ok.h hco hclos hcell h0 hx hkind rm ?_ hs
  refine h A g ρ0 z0 s0 _ _ ok R0 fun v w σ1 ρ1 z1 s1 h1 R1 G1 r1 => ?_
  obtain ⟨data, rfl, hel, hQ⟩ := h1
  cases r1 with
  | bytes _ t =>
  refine KBw.pyIter_bytes ?_
  have R2 := R1.junk { cls := .type "bytes_iterator", data := .fields #[.bytes data.toArray t, .int 0 0] }
  have nI : s1.heap.get? s1.heap.objs.size = none := fresh_at (Nat.le_refl _)
  have eI : (s1.heap.push { cls := .type "bytes_iterator", data := .fields #[.bytes data.toArray t, .int 0 0] }).get? s1.heap.objs.size = some { cls := .type "bytes_iterator", data := .fields #[.bytes data.toArray t, .int 0 0] } := Heap.get?_push_size _ rfl
  have k12 : ∀ b o, s1.heap.get? b = some o → (s1.heap.push { cls := .type "bytes_iterator", data := .fields #[.bytes data.toArray t, .int 0 0] }).get? b = some o := fun b o e => Heap.get?_push_of_some _ e
  generalize hs2 : ({ s1 with heap := s1.heap.push { cls := .type "bytes_iterator", data := .fields #[.bytes data.toArray t, .int 0 0] } } : Shared) = s2 at R2
  have e2h : s2.heap = s1.heap.push { cls := .type "bytes_iterator", data := .fields #[.bytes data.toArray t, .int 0 0] } := by rw [← hs2]
  rw [← e2h] at eI k12
  generalize s1.heap.objs.size = I at nI eI
  have hlim2 : s2.heap.NoLimit := R2.base.nolimit.keeps R2.keep
  refine ⟨hlim2, ?_⟩
  obtain ⟨ps, hic, htab⟩ := R2.tabs _ htt
  have pX : P ∉ [env.locals] := fun hm => R2.lt (by rw [← List.mem_singleton.mp hm]; exact List.mem_map_of_mem (f := (·.2)) htt)
  refine genexprCodeT hcode hic htab fun code h3 tk3 ps' hx3 hic3 hta3 => ?_
  have P3 : Rp c g [env.locals] ρ1 z1 σ1 { s2 with heap := h3, toks := tk3 } := R2.toRp.tabCh (s' := { s2 with heap := h3, toks := tk3 }) htt hu pX hx3 hic3 hta3
  have eP3 : ∃ o, h3.get? P = some o := let ⟨o, vs, file, tf, flags, tg, inF, text, tt, op, a, r1, r2, r3, r4, r5, r6, b, r⟩ := hic3; ⟨op, b⟩
  obtain ⟨bm, ob, hb1, hb2, hb3, hb4, hb5, hb6⟩ := P3.base.bmod
  rw [R2.glob, R2.bltn]
  refine wpAny_builtinsFor (P3.base.gl.keeps P3.keep) hb1 hb2 (P3.keep _ _ hb3) hb4 hb5 hb6 ?_
  have nIP : I ≠ P := fun e => by
    obtain ⟨o, e'⟩ := (R1.off P (List.mem_append_right _ (List.mem_map_of_mem (f := (·.2)) htt))).2
    rw [← e, nI] at e'; cases e'
  have eI3 : h3.get? I = some { cls := .type "bytes_iterator", data := .fields #[.bytes data.toArray t, .int 0 0] } := hx3 _ _ nIP eI
  have W := fun (A' : Around) (hA : A'.handled = none) => KBw.walks (prog := c.prog) (w := c.w) hA I data.toArray t
  have hls : ∃ o, s1.heap.get? cStatics = some o := by
    have := R1.base.nolimit.keeps R1.keep
    obtain ⟨m, hn, _⟩ := this
    obtain ⟨o, _, _, e, _⟩ := hn
    exact ⟨o, e⟩
  refine ⟨I, [I], [I], data.toArray.size, _, _, fun _ => true, fun i y => ∃ o, data[i]? = some o ∧ y = .bool (p o), rfl, W, ⟨_, eI3, rfl, rfl⟩, fun b hb => by rw [List.mem_singleton.mp hb]; exact Heap.lt_size eI3, P3.base.nolimit.keeps P3.keep, fun hm => ?_, fun href hk => ⟨?_, ?_⟩, ?_⟩
  · obtain ⟨o, e⟩ := hls
    rw [List.mem_singleton.mp hm, nI] at e; cases e
  · intro A' E' i v s₂ m₂ hA hD hU hP hns hm hkk
    exact wpAny_tests_nil ⟨rfl, s₂.heap, s₂.toks, rfl, fun _ _ e => e⟩
  · intro A' E' i v s₂ m₂ hA hD hU hP _ hns hm hkk
    obtain ⟨o, u, ho, rfl⟩ := hP
    refine wpAny_mono (hel g ρ1 z1 s1 s₂ A' E' m₂ _ code o u R1 (fun b ob hb e => ?_) hA hns hm) (fun y s₃ hy => ⟨⟨o, by simpa using ho, hy.1⟩, hy.2⟩) fun _ _ e => e
    have bP : b ≠ P := fun e => hb (by rw [e]; exact List.mem_map_of_mem (f := (·.2)) htt)
    have e3 : h3.get? b = some ob := hx3 _ _ bP (k12 _ _ e)
    exact hkk b (List.mem_range.mpr (Heap.lt_size e3)) (fun hm => by rw [List.mem_singleton.mp hm, nI] at e; cases e) _ (hk _ _ e3)
  · intro a h5 tk5 gs hgs hlt hsz hk5 WS hGA
    refine args_nil (wpAny_evalAll_nil ⟨?_, ?_⟩)
    · exact (P3.base.X.keeps P3.keep).keeps hk5
    · cases r0
      have WS := WS.in4_1
      have e2g : s2.gens = s1.gens := by rw [← hs2]
      have e2o : s2.os = s1.os := by rw [← hs2]
      have e2d : s2.drawn = s1.drawn := by rw [← hs2]
      have hpass : passing (fun _ => true) data.toArray.size 0 = List.range data.length := by simp [passing]
      refine call_all_walkS (WS.self 0 _ _ _ hGA ⟨a, _, _, _, _, _, _, fun j => match data[j]? with | some o => p o | none => true, rfl, WS, hGA, fun j v s' Q'' E'' hv hq => ?_, fun s' hm => ?_⟩)
      · obtain ⟨i, hi, o, ho, rfl⟩ := hv
        rw [hpass] at hi
        have hij : i = j := by
          have hlt : j < data.length := by simpa using (List.getElem?_eq_some_iff.mp hi).1
          simpa [hlt] using hi.symm
        subst hij
        simp only [ho] at hq
        exact wpAny_truthy_bool hq
      · have kall : ∀ b o, b ≠ P → s1.heap.get? b = some o → s'.heap.get? b = some o := fun b o hb e => by
          have e3 := hx3 _ _ hb (k12 _ _ e)
          refine hm.heap b o (fun hw => ?_) (hk5 _ _ e3)
          rcases List.mem_cons.mp hw with h | h
          · exact Nat.ne_of_lt (Heap.lt_size e3) h
          · rw [List.mem_singleton.mp h, nI] at e; cases e
        have hcode' : s'.heap.IsCode cc P ps' ∧ s'.heap.TableAt cc P ps' := by
          have keep3 : ∀ b o, b ≠ I → h3.get? b = some o → s'.heap.get? b = some o := fun b o hb e => hm.heap b o (fun hw => by
            rcases List.mem_cons.mp hw with h | h
            · exact Nat.ne_of_lt (Heap.lt_size e) h
            · exact hb (List.mem_singleton.mp h)) (hk5 _ _ e)
          have ncI : cc ≠ I := fun e => by
            obtain ⟨oc, ec⟩ := R1.base.codes _ htt
            have := R1.keep _ _ ec
            rw [e, nI] at this; cases this
          exact ⟨hic3.extBut (a := I) (fun b o hb e => keep3 b o hb e) ncI nIP.symm, hta3.extBut (a := I) (fun b o hb e => keep3 b o hb e) ncI nIP.symm⟩
        have P4 : Rp c g [env.locals] ρ1 z1 σ1 { s' with gens := s1.gens } := R1.toRp.tabCh (s' := { s' with gens := s1.gens }) htt hu pX (fun b o hb e => kall b o hb e) hcode'.1 hcode'.2 (hm.os.trans e2o) (hm.drawn.trans e2d) rfl
        obtain ⟨ps₀, hgi⟩ := hgi
        have hb : PIN ps₀ s'.gens := by
          refine PIN.moved (a := s2.gens) ?_ hgs hm.gens
          rw [e2g]; exact (hgi _).mp R1.gens
        have P5 : Rp c g [env.locals] ρ1 z1 σ1 s' := P4.gensCh (gs := s'.gens) ((hgi _).mpr hb)
        have nLP : env.locals ≠ P := fun e => pX (by simp [e])
        have e0 : ((List.range (passing (fun _ => true) data.toArray.size 0).length).all fun j => match data[j]? with | some o => p o | none => true) = data.all p := by
          rw [hpass, List.length_range, ← all_rangeD data p]; congr 1; funext j; cases data[j]? <;> rfl
        rw [e0]
        refine q _ _ _ _ _ _ hQ (R1.mk' P5 (Ext.refl ..) fun m hm' => hm'.at' fun o e => kall _ o nLP e) ((G0.trans G1).trans ⟨Ext.refl .., fun b o e => ?_, fun _ h => .inl h⟩) (.bool _)
        by_cases hbP : b = P
        · subst hbP
          obtain ⟨o, vs, file, tf, flags, tg, inF, text, tt, op, a1, r1, r2, r3, r4, r5, r6, b1, r⟩ := hcode'.1
          exact ⟨op, b1⟩
        · exact ⟨o, kall b o hbP e⟩
end
end
section
open PySem PySem.W PyProof.Rows PySem.Calls

theorem SR.append {z : Led} {R : List Addr} : ∀ {σ r l σ' r' l'}, SR z R σ r l → SR z R σ' r' l' → SR z R (σ ++ σ') (r ++ r') (l ++ l')
  | _, _, _, _, _, _, .nil, h => h
  | _, _, _, _, _, _, .cons h l, h' => by rw [List.append_assoc]; exact .cons h (l.append h')
/-- several new objects of the call's own, and addresses of the frame's -/
theorem Rp.newL {c g X ρ z σ} {s s' : Shared} {os : Hp} {as Xn : List Addr} {p : Led} (R : Rp c g X ρ z σ s) (k : ∀ b o, s.heap.get? b = some o → s'.heap.get? b = some o)
    (hp : SR z (ρ ++ as) os as p) (hn : (p.map (·.1)).Nodup) (hh : ∀ q ∈ p, s'.heap.get? q.1 = some q.2 ∧ s.heap.get? q.1 = none) (hx : ∀ x ∈ Xn, (∃ o, s'.heap.get? x = some o) ∧ s.heap.get? x = none ∧ x ∉ p.map (·.1))
    (h1 : s'.os = s.os := by rfl) (h2 : s'.drawn = s.drawn := by rfl) (h3 : s'.gens = s.gens := by rfl) : Rp c g (Xn ++ X) (ρ ++ as) z (σ ++ os) s' ∧ Ext ρ z (ρ ++ as) z := by
  have J := R.grow k h1 h2 h3
  have e : Ext ρ z (ρ ++ as) z := ⟨fun i x h => by rw [List.getElem?_append_left (List.getElem?_eq_some_iff.mp h).1]; exact h, fun _ h => h⟩
  obtain ⟨led, a', b, d⟩ := R.own
  refine ⟨⟨R.base, J.keep, ⟨led ++ p, (a'.mono e).append hp, ?_, fun q hq => ?_⟩, fun q hq => ⟨(J.frz q hq).1, fun h => ?_⟩, fun x hx' => ?_, J.tabs, J.os, J.dr, J.gens, J.kz⟩, e⟩
  · rw [List.map_append, List.nodup_append]
    refine ⟨b, hn, fun x hx y hy => ?_⟩
    obtain ⟨q, hq, rfl⟩ := List.mem_map.mp hx
    obtain ⟨q', hq', rfl⟩ := List.mem_map.mp hy
    exact fresh_ne (d q hq).1 (hh q' hq').2
  · rcases List.mem_append.mp hq with h | h
    · refine ⟨k _ _ (d q h).1, (d q h).2.1, fun hm => ?_, (d q h).2.2.2⟩
      rcases List.mem_append.mp hm with hm | hm
      · rcases List.mem_append.mp hm with hm | hm
        · exact fresh_ne (d q h).1 (hx _ hm).2.1 rfl
        · exact (d q h).2.2.1 (List.mem_append_left _ hm)
      · exact (d q h).2.2.1 (List.mem_append_right _ hm)
    · refine ⟨(hh q h).1, fresh_base R.keep (hh q h).2, fun hm => ?_, fun r hr => fresh_ne (R.frz r hr).1 (hh q h).2⟩
      rcases List.mem_append.mp hm with hm | hm
      · rcases List.mem_append.mp hm with hm | hm
        · exact (hx _ hm).2.2 (List.mem_map_of_mem h)
        · obtain ⟨_, e⟩ := (R.off _ (List.mem_append_left _ hm)).2
          rw [(hh q h).2] at e; cases e
      · obtain ⟨_, e⟩ := (R.off _ (List.mem_append_right _ hm)).2
        rw [(hh q h).2] at e; cases e
  · rcases List.mem_append.mp h with hm | hm
    · rcases List.mem_append.mp hm with hm | hm
      · exact fresh_ne (R.frz q hq).1 (hx _ hm).2.1 rfl
      · exact (R.frz q hq).2 (List.mem_append_left _ hm)
    · exact (R.frz q hq).2 (List.mem_append_right _ hm)
  · rcases List.mem_append.mp hx' with hm | hm
    · rcases List.mem_append.mp hm with hm | hm
      · exact ⟨fresh_base R.keep (hx _ hm).2.1, (hx _ hm).1⟩
      · exact J.off x (List.mem_append_left _ hm)
    · exact J.off x (List.mem_append_right _ hm)

theorem lookup_nodup {α β : Type} [BEq α] [LawfulBEq α] {x : α} {v : β} : ∀ {l : List (α × β)}, (l.map (·.1)).Nodup → (x, v) ∈ l → l.lookup x = some v
  | [], _, h => by cases h
  | (y, u) :: l, nd, h => by
    rw [List.lookup_cons]
    simp only [List.map_cons, List.nodup_cons] at nd
    rcases List.mem_cons.mp h with h1 | h1
    · cases h1; simp
    · have : (x == y) = false := by
        rw [beq_eq_false_iff_ne]; intro q; subst q; exact nd.1 (List.mem_map_of_mem (f := (·.1)) h1)
      rw [this]; exact lookup_nodup nd.2 h1
theorem bindC_miss {k : Str → Option NameKind} {x : Str} : ∀ {bs : List (Str × Value)} {m : Str → Option Value}, x ∉ bs.map (·.1) → bindC k bs m x = m x
  | [], _, _ => rfl
  | (n, v) :: r, m, h => by
    simp only [List.map_cons, List.mem_cons, not_or] at h
    simp only [bindC]
    rw [bindC_miss h.2]
    split
    · rfl
    · simp only [h.1, if_false]
theorem bindC_hit {k : Str → Option NameKind} {x : Str} {v : Value} (hk : k x ≠ some .local) : ∀ {bs : List (Str × Value)} {m : Str → Option Value}, (bs.map (·.1)).Nodup → (x, v) ∈ bs → bindC k bs m x = some v
  | [], _, _, h => by cases h
  | (n, u) :: r, m, nd, h => by
    simp only [List.map_cons, List.nodup_cons] at nd
    simp only [bindC]
    rcases List.mem_cons.mp h with h | h
    · cases h
      rw [bindC_miss nd.1, if_neg hk]; simp
    · exact bindC_hit hk nd.2 h
theorem bindL_miss {k : Str → Option NameKind} {x : Str} : ∀ {bs : List (Str × Value)} {m : Str → Option Value}, x ∉ bs.map (·.1) → bindL k bs m x = m x
  | [], _, _ => rfl
  | (n, v) :: r, m, h => by
    simp only [List.map_cons, List.mem_cons, not_or] at h
    simp only [bindL]
    rw [bindL_miss h.2]
    split
    · simp only [h.1, if_false]
    · rfl
theorem bindL_hit {k : Str → Option NameKind} {x : Str} {v : Value} (hk : k x = some .local) : ∀ {bs : List (Str × Value)} {m : Str → Option Value}, (bs.map (·.1)).Nodup → (x, v) ∈ bs → bindL k bs m x = some v
  | [], _, _, h => by cases h
  | (n, u) :: r, m, nd, h => by
    simp only [List.map_cons, List.nodup_cons] at nd
    simp only [bindL]
    rcases List.mem_cons.mp h with h | h
    · cases h
      rw [bindL_miss nd.1, if_pos hk]; simp
    · exact bindL_hit hk nd.2 h
theorem vrl_pick {z : Led} {ρ : List Addr} {x : Str} {v : V} : ∀ {bs : List (Str × V)} {binds : List (Str × Value)}, binds.map (·.1) = bs.map (·.1) → VRL z ρ (bs.map (·.2)) (binds.map (·.2)) → (x, v) ∈ bs → ∃ w, (x, w) ∈ binds ∧ VR z ρ v w
  | [], _, _, _, hm => by cases hm
  | p :: bs, [], e, _, _ => by cases e
  | p :: bs, q :: binds, e, r, hm => by
    simp only [List.map_cons, List.cons.injEq] at e
    cases r with
    | cons r1 r2 =>
      rcases List.mem_cons.mp hm with h | h
      · subst h; exact ⟨q.2, by rw [show q = (x, q.2) from Prod.ext e.1 rfl]; exact .head _, r1⟩
      · obtain ⟨w, h1, h2⟩ := vrl_pick e.2 r2 h
        exact ⟨w, .tail _ h1, h2⟩
theorem lookup_none {x : Str} {β : Type} : ∀ {l : List (Str × β)}, l.lookup x = none → x ∉ l.map (·.1)
  | [], _ => by simp
  | (y, u) :: l, h => by
    rw [List.lookup_cons] at h
    by_cases hq : (x == y) = true
    · rw [hq] at h; cases h
    · rw [Bool.not_eq_true] at hq
      rw [hq] at h
      simp only [List.map_cons, List.mem_cons, not_or]
      exact ⟨by simpa using hq, lookup_none h⟩
theorem lookup_mem {x : Str} {β : Type} {v : β} : ∀ {l : List (Str × β)}, l.lookup x = some v → (x, v) ∈ l
  | (y, u) :: l, h => by
    rw [List.lookup_cons] at h
    by_cases hq : (x == y) = true
    · rw [hq] at h
      have : x = y := by simpa using hq
      cases h; subst this; exact .head _
    · rw [Bool.not_eq_true] at hq
      rw [hq] at h
      exact .tail _ (lookup_mem h)

section
variable {c : Cx} {D : Nat} {σ : Hp}
/-- a def some of whose names live in cells is called -/
theorem fc_cells {f : Addr} {fd : FuncData} {body : List Stmt} {oc : Value} {od : Option Addr} {osl : Array (Option Value)} {args : List V} {kw : List (Str × V)} {bs : List (Str × V)} {un cn : List Str} {l : Loc} {os : Hp} {Q : V → Hp → Prop}
    (ho : c.K.lookup f = some ⟨oc, od, .func fd, osl⟩) (hbody : fd.body = .stmts body) (hcd : codeIn c.K fd.code fd.qualname = true) (hbind : BindA c fd args kw bs)
    (hcn : ∀ n, cellsFrom n fd.scope.names [] = (cn.zipIdx.map fun p => (p.1, n + p.2)).reverse) (hcnd : cn.Nodup)
    (hk1 : ∀ x ∈ bs, fd.scope.names.lookup x.1 = some .local ∨ (fd.scope.names.lookup x.1 = some .cell ∧ x.1 ∈ cn)) (hk2 : ∀ x ∈ cn, fd.scope.names.lookup x = some .cell)
    (hbnd : (bs.map (·.1)).Nodup)
    (hl : l = (bs.filter fun p => fd.scope.names.lookup p.1 == some .local) ++ un.map (fun x => (x, V.unb)) ++ cn.zipIdx.map fun p => (p.1, V.cell (σ.length + p.2))) (hos : os = cn.map fun x => AO.cell ((bs.lookup x).getD .unb)) (hnd : (l.map (·.1)).Nodup)
    (h : ∀ L, EX c (callEnvC fd L f) D (execs body (callEnvC fd L f)) l (σ ++ os) (postFn Q))
    (hclo : fd.closure = []) (hgl : fd.globals = mainGlobals) (hbl : fd.builtins = builtinsNs)
    (hco : fd.scope.isCoroutine = false := by rfl) (hgen : fd.scope.isGenerator = false := by rfl) (hk : fd.scope.kind = .function := by rfl) : FC c (D + 1) (.val (.ref f)) args kw σ Q := by
  intro A g ρ z s RR' wf ws kws ok R rf rl rk q
  cases rf
  have X := R.base.X.keeps R.keep
  obtain ⟨binds, hb, e1, e2⟩ := hbind z ρ ws kws s X rl rk
  refine codeAny_call_function (by have := ok.d; omega) (X _ _ ho) rfl hco hgen hbody (codeRec_of X hcd) (hb _ _ _ _ ?_)
  rw [hclo]
  have inCn : ∀ {x : Str} {n : Nat}, x ∈ cn → ∃ k : Nat, cn[k]? = some x ∧ (cellsFrom n fd.scope.names []).lookup x = some (n + k) := fun {x n} hx => by
    obtain ⟨k, hk', rfl⟩ := List.getElem_of_mem hx
    refine ⟨k, by simp [hk'], ?_⟩
    rw [hcn]
    refine lookup_nodup ?_ ?_
    · rw [List.map_reverse]
      refine List.pairwise_reverse.mpr ?_
      rw [List.map_map]
      have e : ((·.1) ∘ fun p : Str × Nat => (p.1, n + p.2)) = (fun p => p.1) := rfl
      rw [e, List.zipIdx_map_fst]
      exact List.Pairwise.imp (fun h => Ne.symm h) hcnd
    · rw [List.mem_reverse, List.mem_map]
      exact ⟨(cn[k], k), by rw [List.mem_zipIdx_iff_getElem?]; simp [hk'], rfl⟩
  refine wpAny_newFunctionEnv_cells hk (fun x hx => ?_) fun env he s' IC => ?_
  · have : x.1 ∈ bs.map (·.1) := e1 ▸ List.mem_map_of_mem hx
    obtain ⟨y, hy, e⟩ := List.mem_map.mp this
    rw [← e]
    rcases hk1 y hy with h | ⟨h, h'⟩
    · exact .inl h
    · obtain ⟨k, _, hl⟩ := inCn (n := s.heap.objs.size + 1) h'
      exact .inr ⟨h, by rw [hl]; rfl⟩
  subst he
  have hL : s.heap.get? s.heap.objs.size = none := fresh_at (Nat.le_refl _)
  have IC' := IC.toInCall
  have kk : ∀ b o, s.heap.get? b = some o → s'.heap.get? b = some o := IC'.keep
  have eL : ∃ o, s'.heap.get? s.heap.objs.size = some o := let ⟨o, _, _, e, _⟩ := IC'.ns; ⟨o, e⟩
  have hbnd' : (binds.map (·.1)).Nodup := by rw [e1]; exact hbnd
  -- the cells
  have cells : ∀ (R' : List Addr) (hE : Ext ρ z R' z) (xs : List (Str × Nat)), (∀ p ∈ xs, cn[p.2]? = some p.1) → ∃ led, SR z R' (xs.map fun p => AO.cell ((bs.lookup p.1).getD .unb)) (xs.map fun p => s.heap.objs.size + 1 + p.2) led ∧ led.map (·.1) = xs.map (fun p => s.heap.objs.size + 1 + p.2) ∧ ∀ q ∈ led, s'.heap.get? q.1 = some q.2 := by
    intro R' hE xs
    induction xs with
    | nil => intro _; exact ⟨[], .nil, rfl, by simp⟩
    | cons p xs ih =>
      intro hxs
      obtain ⟨led, h1, h2, h3⟩ := ih fun p hp => hxs p (.tail _ hp)
      have hp := hxs p (.head _)
      have hm : p.1 ∈ cn := List.mem_of_getElem? hp
      have hlk : (cellsFrom (s.heap.objs.size + 1) fd.scope.names []).lookup p.1 = some (s.heap.objs.size + 1 + p.2) := by
        obtain ⟨k, hk', hl'⟩ := inCn (n := s.heap.objs.size + 1) hm
        have : k = p.2 := by
          have a := (List.getElem?_eq_some_iff.mp hk')
          have b := (List.getElem?_eq_some_iff.mp hp)
          exact (List.getElem_inj hcnd).mp (a.2.trans b.2.symm)
        rw [← this]; exact hl'
      obtain ⟨o, ho', hd'⟩ := IC.cell p.1 _ hlk
      have key : PR z R' (AO.cell ((bs.lookup p.1).getD .unb)) (s.heap.objs.size + 1 + p.2) [(s.heap.objs.size + 1 + p.2, o)] := by
        cases hb' : bs.lookup p.1 with
        | none =>
          have : p.1 ∉ binds.map (·.1) := by rw [e1]; exact lookup_none hb'
          rw [bindC_miss this] at hd'
          exact .cell0 hd'
        | some v =>
          obtain ⟨w, hw, rv⟩ := vrl_pick e1 e2 (lookup_mem hb')
          rw [bindC_hit (by rw [show (newEnv fd.scope s.heap.objs.size fd.globals (cellsFrom (s.heap.objs.size + 1) fd.scope.names []) (fd.qualname ++ ".<locals>.") (some f) fd.code none fd.builtins).kindOf p.1 = some .cell from hk2 _ hm]; simp) hbnd' hw] at hd'
          exact .cell (rv.mono hE) hd'
      refine ⟨(s.heap.objs.size + 1 + p.2, o) :: led, ?_, by simp [h2], fun q hq => ?_⟩
      · have := SR.cons key h1
        simpa using this
      · rcases List.mem_cons.mp hq with rfl | hq
        · exact ho'
        · exact h3 q hq
  obtain ⟨led, h1, h2, h3⟩ := cells (ρ ++ cn.zipIdx.map fun p => s.heap.objs.size + 1 + p.2) ⟨fun i x h => by rw [List.getElem?_append_left (List.getElem?_eq_some_iff.mp h).1]; exact h, fun _ h => h⟩ cn.zipIdx (fun p hp => by
    have := List.mem_zipIdx_iff_getElem?.mp hp; simpa using this)
  have eos : (cn.zipIdx.map fun p => AO.cell ((bs.lookup p.1).getD .unb)) = os := by
    rw [hos]
    have : (fun p : Str × Nat => AO.cell ((bs.lookup p.1).getD .unb)) = (fun x => AO.cell ((bs.lookup x).getD .unb)) ∘ (fun p => p.1) := rfl
    rw [this, ← List.map_map, List.zipIdx_map_fst]
  rw [eos] at h1
  have hadd : ∀ a ∈ led.map (·.1), s.heap.objs.size + 1 ≤ a := fun a ha => by
    rw [h2] at ha
    obtain ⟨p, _, rfl⟩ := List.mem_map.mp ha
    exact Nat.le_add_right _ _
  obtain ⟨hs', tk', es'⟩ := IC'.same
  obtain ⟨P0, E0⟩ := R.newL (s' := s') (Xn := [s.heap.objs.size]) kk h1 (by
      rw [h2]
      have : (cn.zipIdx.map fun p => s.heap.objs.size + 1 + p.2) = (cn.zipIdx.map (·.2)).map (s.heap.objs.size + 1 + ·) := by rw [List.map_map]; rfl
      rw [this]
      refine List.Pairwise.map (R := (· ≠ ·)) (S := (· ≠ ·)) (fun k => s.heap.objs.size + 1 + k) (fun a b hab h => hab (Nat.add_left_cancel h)) ?_
      rw [List.zipIdx_map_snd]
      exact List.nodup_range') (fun q hq => ⟨h3 q hq, fresh_at (by have := hadd _ (List.mem_map_of_mem hq); omega)⟩) (fun x hx => by
      cases List.mem_singleton.mp hx
      exact ⟨eL, hL, fun hm => by have := hadd _ hm; omega⟩) (by rw [es']) (by rw [es']) (by rw [es'])
  have lt : s.heap.objs.size ∉ c.tk := fun hm => let ⟨_, e⟩ := (R.off _ (by simpa using hm)).2; Nat.lt_irrefl _ (Heap.lt_size e)
  have hlen : σ.length = ρ.length := let ⟨led0, a0, _⟩ := R.own; a0.length
  have RR : Rep c (callEnvC fd s.heap.objs.size f) g (ρ ++ cn.zipIdx.map fun p => s.heap.objs.size + 1 + p.2) z (σ ++ os) l s' := by
    refine ⟨P0, ⟨_, IC'.ns, fun p hp => ?_⟩, hnd, hk, hgl, hbl, lt⟩
    rw [hl] at hp
    rcases List.mem_append.mp hp with hp | hp
    · rcases List.mem_append.mp hp with hp | hp
      · rw [List.mem_filter] at hp
        have hloc : fd.scope.names.lookup p.1 = some .local := by simpa using hp.2
        obtain ⟨w, hw, rv⟩ := vrl_pick (x := p.1) (v := p.2) e1 e2 hp.1
        exact .inr (.inr ⟨hloc, w, bindL_hit hloc hbnd' hw, rv.mono E0⟩)
      · obtain ⟨x, _, rfl⟩ := List.mem_map.mp hp; exact .inl rfl
    · obtain ⟨y, hy, rfl⟩ := List.mem_map.mp hp
      have hy' : cn[y.2]? = some y.1 := by have := List.mem_zipIdx_iff_getElem?.mp hy; simpa using this
      have hm : y.1 ∈ cn := List.mem_of_getElem? hy'
      refine .inr (.inl ⟨σ.length + y.2, s.heap.objs.size + 1 + y.2, rfl, .inl (hk2 _ hm), ?_, ?_⟩)
      · obtain ⟨k, hk', hl'⟩ := inCn (n := s.heap.objs.size + 1) hm
        have : k = y.2 := by
          have a := (List.getElem?_eq_some_iff.mp hk')
          have b := (List.getElem?_eq_some_iff.mp hy')
          exact (List.getElem_inj hcnd).mp (a.2.trans b.2.symm)
        rw [← this]; exact hl'
      · rw [hlen, List.getElem?_append_right (by omega), Nat.add_sub_cancel_left, List.getElem?_map]
        have hlt := (List.getElem?_eq_some_iff.mp hy').1
        simp [hlt]
  have G0 : Go g ρ z s (ρ ++ cn.zipIdx.map fun p => s.heap.objs.size + 1 + p.2) z s' := ⟨E0, fun b o e => ⟨o, kk b o e⟩, fun _ h => .inl h⟩
  refine ⟨P0.base.nolimit.keeps P0.keep, codeAny_func ?_⟩
  have ok' : Ok (A.deeper (callEnvC fd s.heap.objs.size f)) D := ⟨ok.h, by have := ok.d; show A.depth + 1 + 3 * D + 3 < _; omega, by have := ok.u; show A.units + 3 + 20 * D + 20 < _; omega⟩
  refine h s.heap.objs.size _ g _ z _ _ _ ok' RR fun fl fw l' σ' ρ' z' s'' hq R' G' r' => ?_
  cases r' with
  | next => exact q _ _ _ _ _ _ hq R'.toRp.lessX (G0.trans G') .none
  | brk => exact q _ _ _ _ _ _ hq R'.toRp.lessX (G0.trans G') .none
  | cont => exact q _ _ _ _ _ _ hq R'.toRp.lessX (G0.trans G') .none
  | ret r => exact q _ _ _ _ _ _ hq R'.toRp.lessX (G0.trans G') r
end
end
section
open PySem PySem.W PyProof.Rows PySem.Calls

section
variable {c : Cx} {env : Env} {D : Nat} {l : Loc} {σ : Hp} {Q : V → Hp → Prop}

/-- «x in SIGNS», SIGNS a name of the module's -/
theorem hel_glob {x y : Str} {p1 p2 p3 : Pos} {scope : Scope} {cl : List (Str × Addr)} {signs : Array UInt8} {t : Tok} (hkind : scope.kind = .function) (hx : scope.names.lookup x = some .local) (hy : scope.names.lookup y = some .globalImplicit)
    (e : nsIn c.K mainGlobals y = some (some (.bytes signs t))) (hdx : (x == ("__debug__" : Str)) = false) (hdy : (y == ("__debug__" : Str)) = false) :
    ∀ (g : Heap) (ρ : List Addr) (z : Led) (s s₂ : Shared) (A' : Around) (E' : Value → Shared → Prop) (m₂ : Str → Option Value) (C : Addr) (code : Value) (o : UInt8) (u : Tok), Rep c env g ρ z σ l s → (∀ b ob, b ∉ c.tk → s.heap.get? b = some ob → s₂.heap.get? b = some ob) → A'.handled = none → s₂.heap.Ns C m₂ → m₂ x = some (.int o.toNat u) →
        wpAny c.M A' (eval (.Compare (.Name x p1) [.In] [.Name y p2] p3) (genEnv scope cl C code builtinsNs env)) (fun y s₃ => y = .bool (signs.contains o) ∧ Keeps s₂ s₃) E' s₂ := by
  intro g ρ z s s₂ A' E' m₂ C code o u R hk hh hns hm
  refine wpAny_Compare1 (wpAny_Name (wpAny_loadName_local hkind hx hns hm ?_) hdx) (by with_unfolding_all rfl)
  refine Name_function_global hkind hy (loadGlobal_global (mg := c.mg) ?_ (mg_of R.base.X R.base.gl e) ?_) hdy
  · show s₂.heap.Ns env.globals c.mg
    rw [R.glob]
    have h1 : s.heap.Ns mainGlobals c.mg := R.base.gl.keeps R.keep
    refine h1.at' fun ob eb => hk _ _ (fun hmem => ?_) eb
    obtain ⟨ob', _, _, e0, _⟩ := R.base.gl
    rw [(R.off _ (List.mem_append_right _ hmem)).1] at e0; cases e0
  · refine SeqRoads2.in_meets (typeIs_bytes _ _ _) FB.slot_bytes_contains FB.entry_bytes_contains (FB.args_bytes_contains_2 _ _) (FX.meets_contains _ _ _ _ (by omega) (by have := o.toNat_lt; omega)) ⟨_, rfl, ?_, s₂.heap, s₂.toks, rfl, fun _ _ e => e⟩
    simp
/-- «x in signs», signs a name of the frame's, in a cell -/
theorem hel_cell {x y : Str} {p1 p2 p3 : Pos} {scope : Scope} {cl : List (Str × Addr)} {signs : List UInt8} {i : Nat} (hkind : scope.kind = .function) (hx : scope.names.lookup x = some .local) (hy : scope.names.lookup y = some .free)
    (hm0 : (y, .cell i) ∈ l) (hi : σ[i]? = some (.cell (.bytes signs))) (hcl : cl.lookup y = env.cells.lookup y) (hdx : (x == ("__debug__" : Str)) = false) (hdy : (y == ("__debug__" : Str)) = false) (hdc : (y == ("__classdict__" : Str)) = false) :
    ∀ (g : Heap) (ρ : List Addr) (z : Led) (s s₂ : Shared) (A' : Around) (E' : Value → Shared → Prop) (m₂ : Str → Option Value) (C : Addr) (code : Value) (o : UInt8) (u : Tok), Rep c env g ρ z σ l s → (∀ b ob, b ∉ c.tk → s.heap.get? b = some ob → s₂.heap.get? b = some ob) → A'.handled = none → s₂.heap.Ns C m₂ → m₂ x = some (.int o.toNat u) →
        wpAny c.M A' (eval (.Compare (.Name x p1) [.In] [.Name y p2] p3) (genEnv scope cl C code builtinsNs env)) (fun y s₃ => y = .bool (signs.contains o) ∧ Keeps s₂ s₃) E' s₂ := by
  intro g ρ z s s₂ A' E' m₂ C code o u R hk hh hns hm
  refine wpAny_Compare1 (wpAny_Name (wpAny_loadName_local hkind hx hns hm ?_) hdx) (by with_unfolding_all rfl)
  obtain ⟨m, hn, hl⟩ := R.ns
  rcases hl _ hm0 with h1 | ⟨i', a, h1, h2, h3, h4⟩ | ⟨h1, w', h2, h3⟩
  · cases h1
  · cases h1
    obtain ⟨a', p, ha, hp', hh'⟩ := R.toRp.at hi
    rw [h4] at ha; cases ha
    cases hp' with
    | cell hv ho =>
      cases hv
      have hc2 := hk _ _ (fun hmem => (hh' _ (.head _)).2.2 (List.mem_append_right _ hmem)) (hh' _ (.head _)).1
      refine wpAny_Name (wpAny_loadName_free (env := genEnv scope cl C code builtinsNs env) (name := y) hkind hy (hcl.trans h3) ⟨_, hc2, ho⟩ ?_ hdc) hdy
      refine SeqRoads2.in_meets (typeIs_bytes _ _ _) FB.slot_bytes_contains FB.entry_bytes_contains (FB.args_bytes_contains_2 _ _) (FX.meets_contains _ _ _ _ (by omega) (by have := o.toNat_lt; omega)) ⟨_, rfl, ?_, s₂.heap, s₂.toks, rfl, fun _ _ e => e⟩
      simp
  · cases h3

-- WHAT THE MODULE HOLDS, AS VALUES
def intKeys : List DictEntry → Option (List Int)
  | [] => some []
  | ⟨hs, .int k _, _⟩ :: r => if hs = hashInt k then (intKeys r).map (k :: ·) else none
  | _ :: _ => none
def kvOf (K : Frag) : Nat → Value → V
  | 0, w => absV w
  | n + 1, .ref a => match K.lookup a with
    | some ⟨.type "tuple", none, .seq ws _, ⟨[]⟩⟩ => .tup (ws.toList.map (kvOf K n))
    | some ⟨.type "list", none, .seq ws _, ⟨[]⟩⟩ => .lst (ws.toList.map (kvOf K n))
    | some ⟨.type "dict", none, .dict es _, ⟨[]⟩⟩ => match intKeys es.toList with
      | some ks => if ks.Nodup ∧ (a == sysModules) = false then .dct ks (es.toList.map fun e => kvOf K n e.val) else .val (.ref a)
      | none => .val (.ref a)
    | _ => .val (.ref a)
  | _ + 1, w => absV w
theorem intKeys_pairs {p : Program} {w : World} : ∀ {es : List DictEntry} {ks : List Int}, intKeys es = some ks → Pairs (intKind p w) es (ks.zip (es.map (·.val))) ∧ (∀ e ∈ es, ∃ k, (intKind p w).is k e.key = true ∧ e.hash = (intKind p w).hash k) ∧ ks.length = es.length
  | [], ks, h => by cases h; exact ⟨.nil, by simp, rfl⟩
  | ⟨hs, .int k t, v⟩ :: r, ks, h => by
    simp only [intKeys] at h
    split at h
    · rename_i hh
      cases hr : intKeys r with
      | none => rw [hr] at h; cases h
      | some ks' =>
        rw [hr] at h; cases h
        obtain ⟨h1, h2, h3⟩ := intKeys_pairs (p := p) (w := w) hr
        refine ⟨.cons (intKind_is p w k t) rfl h1, fun e he => ?_, by simp [h3]⟩
        rcases List.mem_cons.mp he with rfl | he
        · exact ⟨k, intKind_is p w k t, hh⟩
        · exact h2 e he
    · cases h
  | ⟨hs, .none, v⟩ :: r, ks, h => by cases h
  | ⟨hs, .bool _, v⟩ :: r, ks, h => by cases h
  | ⟨hs, .str _ _, v⟩ :: r, ks, h => by cases h
  | ⟨hs, .bytes _ _, v⟩ :: r, ks, h => by cases h
  | ⟨hs, .float _ _, v⟩ :: r, ks, h => by cases h
  | ⟨hs, .ref _, v⟩ :: r, ks, h => by cases h
  | ⟨hs, .type _, v⟩ :: r, ks, h => by cases h
  | ⟨hs, .builtin _, v⟩ :: r, ks, h => by cases h
  | ⟨hs, .ellipsis, v⟩ :: r, ks, h => by cases h
  | ⟨hs, .notImplemented, v⟩ :: r, ks, h => by cases h
theorem zip_fst : ∀ {ks : List Int} {ws : List Value}, ks.length = ws.length → (ks.zip ws).map (·.1) = ks
  | [], [], _ => rfl
  | [], _ :: _, h => by simp at h
  | _ :: _, [], h => by simp at h
  | k :: ks, w :: ws, h => by simp [zip_fst (ks := ks) (ws := ws) (by simpa using h)]
theorem assoc_mem {a : Addr} {o : Obj} : ∀ {K : Frag}, K.lookup a = some o → (a, o) ∈ K
  | (b, u) :: K, h => by
    rw [List.lookup_cons] at h
    by_cases hq : (a == b) = true
    · rw [hq] at h
      have : a = b := by simpa using hq
      cases h; subst this; exact .head _
    · rw [Bool.not_eq_true] at hq
      rw [hq] at h
      exact .tail _ (assoc_mem h)
theorem kvOf_is {p₀ : Program} {w₀ : World} {K : Frag} {z : Led} (ρ : List Addr) (hK : ∀ p ∈ K, p ∈ z) : ∀ (n : Nat) (w : Value), VR z ρ (kvOf K n w) w := by
  intro n
  induction n with
  | zero => intro w; exact absV_is ..
  | succ n ih =>
    intro w
    have many : ∀ ws : List Value, VRL z ρ (ws.map (kvOf K n)) ws := by
      intro ws
      induction ws with
      | nil => exact .nil
      | cons w ws ihw => exact .cons (ih w) ihw
    cases w with
    | ref a =>
      unfold kvOf
      split
      · rename_i ws m he
        exact .tup (ws := ws.toList) (n := m) (hK _ (assoc_mem he)) (many ws.toList)
      · rename_i ws m he
        exact .lst (ws := ws.toList) (n := m) (hK _ (assoc_mem he)) (many ws.toList)
      · rename_i es m he
        split
        · rename_i ks hks
          split
          · rename_i hc
            refine .dct (ws := es.toList.map (·.val)) (hK _ (assoc_mem he)) hc.2 ⟨by rw [(intKeys_pairs (p := p₀) (w := w₀) hks).2.2]; simp, fun p w => ?_⟩ ?_
            · obtain ⟨h1, h2, h3⟩ := intKeys_pairs (p := p) (w := w) hks
              exact ⟨es, m, ⟨rfl, rfl, rfl⟩, rfl, fun e he => h2 e (by simpa using he), h1, by rw [zip_fst (by simp [h3])]; exact hc.1⟩
            · have := many (es.toList.map (·.val))
              rw [List.map_map] at this
              exact this
          · exact .val _
        · exact .val _
      · exact .val _
    | _ => exact absV_is ..
/-- a name of the module's, with all that it holds -/
theorem ev_globK {x : Str} {pos : Pos} {w : Value} {v : V} (n : Nat) (e : nsIn c.K mainGlobals x = some (some w)) (hv : kvOf c.kz n w = v) (h : Q v σ) (hx : env.kindOf x = some .globalImplicit := by kernel_rfl) (hd : (x == ("__debug__" : Str)) = false := by decide +kernel) :
    EV c env D (eval (.Name x pos) env) l σ Q := by
  subst hv
  intro A g ρ z s Q' E' ok R q
  exact Name_function_global R.kind hx (loadGlobal_global (by rw [R.glob]; exact R.base.gl.keeps R.keep) (mg_of R.base.X R.base.gl e) (q _ _ _ _ _ _ h R (Go.refl ..) (kvOf_is (p₀ := c.prog) (w₀ := c.w) ρ R.kz n w))) hd
end
end
section
open PySem PySem.W PyProof.Rows PySem.Calls PySem.Builtin
namespace FX
theorem kind_bl : builtinKind "_bisect.bisect_left" = none := by decide +kernel
theorem plain_bl : plainId "_bisect.bisect_left" = true := by decide +kernel
theorem entry_bl : entryFor table "_bisect.bisect_left" = some Builtin.«_bisect.bisect_left» := entryFor_of_tree (by kernel_rfl)
theorem entry_bl_loop : entryFor table "_bisect.bisect_right.loop" = some Builtin.«_bisect.bisect_right.loop» := entryFor_of_tree (by kernel_rfl)
theorem plain_bl_loop : plainId "_bisect.bisect_right.loop" = true := by decide +kernel
theorem args_bl3 (a b c : Value) : argsOk "_bisect.bisect_left" ⟨[a, b, c], []⟩ := by unfold argsOk; kernel_rfl
theorem call_list_item {prog : Program} {w : World} {A : Around} {E : Value → Shared → Prop} {s : Shared} {l : Addr} {items : Array Value} {k : Int} {t : Tok} {x : Value} {Q : Value → Shared → Prop} (hl : s.heap.IsList l items)
    (h0 : 0 ≤ k) (hfit : k < 2 ^ 63) (hx : items[k.toNat]? = some x) (h : Q x s) : wpAny (model prog w) A (call (.builtin "list.__getitem__") [.ref l, .int k t]) Q E s := by
  obtain ⟨o, ho, hc, ne, hd⟩ := id hl
  refine wpAny_call_entry slot_list_getitem hl.typeIs entry_list_getitem ?_ (args_list_getitem _ _)
  show wpAny _ _ (Builtin.List.listSubscript? (.int k t) >>= _) _ _ s
  refine wpAny_bind (wpAny_listSubscript_int (fitsIndex_of h0 hfit) ?_)
  clear hfit
  obtain ⟨j, rfl⟩ := Int.eq_ofNat_of_zero_le h0
  have hx' : items[j]? = some x := hx
  show wpAny _ _ ((seqItemAt l j >>= fun r => pure (r.map (j, ·))) >>= _) _ _ s
  refine wpAny_bind (wpAny_bind (wpAny_seqItemAt ho hd (wpAny_pure ?_)))
  rw [hx']
  first
    | exact wpAny_bind (wpAny_pure (wpAny_pure ⟨x, rfl, h⟩))
    | exact wpAny_pure ⟨x, rfl, h⟩
/-- where x belongs -/
def bisL (ns : List Int) (x : Int) (lo hi : Nat) : Nat := if h : lo < hi then (if ns.getD ((lo + hi) / 2) 0 < x then bisL ns x ((lo + hi) / 2 + 1) hi else bisL ns x lo ((lo + hi) / 2)) else lo
termination_by hi - lo
theorem bl_loop {prog : Program} {w : World} {A : Around} {R : Result → Shared → Prop} {a : Addr} {ws : List Value} {ns : List Int} {x : Int} {t : Tok} (hi : IntsAre ws ns) (hsz : ns.length ≤ 1000000) :
    ∀ (k lo up : Nat) (s : Shared), up - lo = k → up ≤ ns.length → s.heap.IsList a ws.toArray → (∀ u k, R (.ok (.ret (.int (bisL ns x lo up) u))) { s with toks := k }) →
      codeAny (model prog w) A (.builtin "_bisect.bisect_right.loop" ⟨[.ref a, .int x t, rawInt lo, rawInt up, .none, .bool false, .bool true, rawInt 0], []⟩) R s := by
  intro k
  induction k using Nat.strongRecOn with
  | _ k ih =>
    intro lo up s hk hup hl hR
    refine codeAny_builtin entry_bl_loop ?_
    rw [Around.under_plainId plain_bl_loop _]
    unfold Builtin.«_bisect.bisect_right.loop»
    by_cases hlt : lo < up
    · have hc : ((lo : Int) < (up : Int)) := by omega
      show wpAny _ _ (if (lo : Int) < (up : Int) then _ else _) _ _ s
      rw [if_pos hc]
      refine wpAny_bind (wpAny_mkInt ?_)
      refine wpAny_bind (wpAny_callSpecial?_slot (name := Str.ofString "__getitem__") (Heap.IsList.typeIs (s := { s with toks := s.toks + 1 }) hl) slot_list_getitem ?_)
      have hl' : ({ s with toks := s.toks + 1 } : Shared).heap.IsList a ws.toArray := hl
      obtain ⟨o, ho, hoc, no, hod⟩ := id hl
      have hmid : (((lo : Int) + (up : Int)) / 2) = (((lo + up) / 2 : Nat) : Int) := by omega
      rw [hmid]
      generalize hm : (lo + up) / 2 = mid
      have hmlt : mid < ns.length := by omega
      obtain ⟨tk, htk⟩ : ∃ tk, ws[mid]? = some (.int (ns.getD mid 0) tk) := by
        exact hi.get mid (ns.getD mid 0) (by simp [hmlt])
      have htk' : ws.toArray[((mid : Nat) : Int).toNat]? = some (.int (ns.getD mid 0) tk) := by simpa using htk
      refine call_list_item (s := { s with toks := s.toks + 1 }) hl (by omega) (by omega) htk' ?_
      dsimp only
      refine wpAny_ite (KBc.ite_yes rfl ?_)
      refine wpAny_bind (wpAny_pure (wpAny_holding ?_))
      refine wpAny_ite (KBc.ite_yes rfl ?_)
      refine wpAny_bind (wpAny_typeOf (T := "int") (typeIs_int _ _ _) (wpAny_bind (wpAny_typeOf (T := "int") (typeIs_int _ _ _) ?_)))
      refine wpAny_ite (KBc.ite_yes (by decide) ?_)
      refine wpAny_bind (wpAny_cRoomFor_byValue rfl ?_)
      refine wpAny_bind (wpAny_callSpecialIfBound?_slot (name := Str.ofString "__lt__") (typeIs_int _ _ _) slot_int_lt ?_)
      refine wpAny_call_entry slot_int_lt (typeIs_int _ _ _) entry_int_lt (show wpAny _ _ (ret (.bool (decide (ns.getD mid 0 < x)))) _ _ _ from wpAny_pure ⟨_, rfl, ?_⟩) (args_int_lt _ _)
      refine wpAny_bind (wpAny_of_eq (a := decide (ns.getD mid 0 < x)) rfl ?_)
      refine wpAny_bind (wpAny_pure ?_)
      have step : bisL ns x lo up = if ns.getD mid 0 < x then bisL ns x (mid + 1) up else bisL ns x lo mid := by
        conv => lhs; unfold bisL
        rw [dif_pos hlt, hm]
      by_cases hb : ns.getD mid 0 < x
      · rw [if_pos hb] at step
        refine wpAny_ite (KBy.ite_no (by rw [decide_eq_true hb]; decide) ?_)
        refine wpAny_pure ⟨plainId_quiet plain_bl_loop _, ?_⟩
        have := ih (up - (mid + 1)) (by omega) (mid + 1) up { s with toks := s.toks + 1 } rfl hup hl (fun u k => by rw [← step]; exact hR u k)
        simpa using this
      · rw [if_neg hb] at step
        refine wpAny_ite (KBc.ite_yes (by rw [decide_eq_false hb]; decide) ?_)
        refine wpAny_pure ⟨plainId_quiet plain_bl_loop _, ?_⟩
        exact ih (mid - lo) (by omega) lo mid { s with toks := s.toks + 1 } rfl (by omega) hl (fun u k => by rw [← step]; exact hR u k)
    · have step : bisL ns x lo up = lo := by unfold bisL; rw [dif_neg hlt]
      rw [step] at hR
      show wpAny _ _ (if (lo : Int) < (up : Int) then _ else _) _ _ s
      rw [if_neg (by omega)]
      show wpAny _ _ (retInt (lo : Int)) _ _ s
      exact wpAny_bind (wpAny_mkInt (wpAny_pure (hR _ _)))
set_option maxRecDepth 20000 in
theorem call_bl {prog : Program} {w : World} {A : Around} {E : Value → Shared → Prop} {s : Shared} {a : Addr} {ws : List Value} {ns : List Int} {x : Int} {t u : Tok} {lo : Nat} {Q : Value → Shared → Prop} (hi : IntsAre ws ns) (hsz : ns.length ≤ 1000000) (hl : s.heap.IsList a ws.toArray) (hlo : lo ≤ 1000000)
    (h : ∀ u k, Q (.int (bisL ns x lo ns.length) u) { s with toks := k }) : wpAny (model prog w) A (call (.builtin "_bisect.bisect_left") [.ref a, .int x t, .int lo u]) Q E s := by
  refine call_function_tree kind_bl plain_bl entry_bl (args_bl3 _ _ _) ?_
  unfold Builtin.«_bisect.bisect_left»
  k_delta "bisectStart"
  refine wpAny_bind ?_
  refine wpAny_of_eq (a := (Value.ref a, Value.int x t, some (Value.int (lo : Int) u), (none : Option Value), (none : Option Value))) ?_ ?_
  · kernel_rfl
  dsimp only
  refine wpAny_bind ?_
  refine wpAny_of_eq (a := (lo : Int)) ?_ ?_
  · rfl
  have hfit : ∀ b : Bool, (decide (-(2 ^ 63 : Int) ≤ (lo : Int)) && decide ((lo : Int) < 2 ^ 63)) = b → (!b) = false := fun b hb => by
    rw [← hb, decide_eq_true (show (-(2 ^ 63 : Int) ≤ (lo : Int)) by omega), decide_eq_true (show ((lo : Int) < 2 ^ 63) by omega)]; rfl
  rw [if_neg]
  rotate_left
  · exact ne_true_of_eq_false (hfit _ rfl)
  refine wpAny_bind ?_
  refine wpAny_pure ?_
  refine wpAny_bind ?_
  refine wpAny_pure ?_
  rw [if_neg (by decide)]
  refine wpAny_bind ?_
  refine wpAny_pure ?_
  refine wpAny_holding ?_
  rw [if_neg (show ¬ ((lo : Int) < 0) by omega)]
  rw [if_neg (by decide)]
  have hmro : mroOf (.type "list") = pure [.type "list", .type "object"] := by rw [mroOf_type]; kernel_rfl
  have hname : ∀ (A' : Around) (E' : Value → Shared → Prop) (Q' : String → Shared → Prop), Q' "list" s → wpAny (model prog w) A' (typeNameOfCut 200 (.ref a)) Q' E' s := fun A' E' Q' hq => by
    unfold typeNameOfCut shownTypeOf
    refine wpAny_bind (wpAny_bind (wpAny_typeOf hl.typeIs ?_))
    simp only [show (Value.type "list" == Value.type "builtin_function_or_method") = false by decide, Bool.false_eq_true, if_false]
    refine wpAny_pure ?_
    exact wpAny_of_eq (a := "list") (by kernel_rfl) hq
  refine wpAny_bind ?_
  k_delta "bisectSequence"
  refine wpAny_bind ?_
  refine wpAny_typeOf hl.typeIs ?_
  refine wpAny_bind ?_
  refine hname _ _ _ ?_
  dsimp only
  refine wpAny_bind ?_
  refine wpAny_of_eq hmro ?_
  rw [if_neg (by decide)]
  rw [if_pos rfl]
  refine wpAny_bind ?_
  refine wpAny_of_eq slot_list_len.lookup ?_
  rw [if_neg (by decide)]
  rw [if_neg (by decide)]
  refine wpAny_pure ?_
  refine wpAny_bind ?_
  refine wpAny_runValue (codeAny_builtin entry_len ?_)
  rw [Around.under_plainId plain_len _]
  have hlen : ws.toArray.size = ns.length := by simp [hi.length]
  refine wpAny_mono (wpAny_len_body_list (Q := fun r s' => r = .int ws.toArray.size (s.toks + 1) ∧ s' = { s with toks := s.toks + 1 + 1 }) hl (by rw [hlen]; omega) ⟨rfl, rfl⟩) (fun fin s' h' => ?_) fun _ _ e => e
  obtain ⟨r, rfl, rfl, rfl⟩ := h'
  dsimp only
  refine wpAny_bind ?_
  refine wpAny_pure ?_
  refine wpAny_bind ?_
  k_delta "bisectSequence"
  refine wpAny_bind ?_
  refine wpAny_typeOf (s := { s with toks := s.toks + 1 + 1 }) hl.typeIs ?_
  refine wpAny_bind ?_
  have hname' : ∀ (A' : Around) (E' : Value → Shared → Prop) (Q' : String → Shared → Prop), Q' "list" { s with toks := s.toks + 1 + 1 } → wpAny (model prog w) A' (typeNameOfCut 200 (.ref a)) Q' E' { s with toks := s.toks + 1 + 1 } := fun A' E' Q' hq => by
    unfold typeNameOfCut shownTypeOf
    refine wpAny_bind (wpAny_bind (wpAny_typeOf (s := { s with toks := s.toks + 1 + 1 }) hl.typeIs ?_))
    simp only [show (Value.type "list" == Value.type "builtin_function_or_method") = false by decide, Bool.false_eq_true, if_false]
    refine wpAny_pure ?_
    exact wpAny_of_eq (a := "list") (by kernel_rfl) hq
  refine hname' _ _ _ ?_
  dsimp only
  refine wpAny_bind ?_
  refine wpAny_of_eq hmro ?_
  rw [if_neg (by decide)]
  rw [if_neg (by decide)]
  refine wpAny_bind ?_
  refine wpAny_of_eq slot_list_getitem.lookup ?_
  rw [if_neg (by decide)]
  rw [if_neg (by decide)]
  refine wpAny_pure ?_
  refine wpAny_pure ⟨plainId_quiet plain_bl_loop _, ?_⟩
  rw [hlen]
  exact bl_loop hi hsz (ns.length - lo) lo ns.length { s with toks := s.toks + 1 + 1 } rfl (Nat.le_refl _) hl fun u k => h u k
end FX

section
variable {c : Cx} {env : Env} {D : Nat} {l : Loc} {σ : Hp} {Q : V → Hp → Prop}
theorem fn_bisect {v : V} {ns : List Int} {x : Int} {lo : Nat} (hv : LsOf σ v (ns.map V.int)) (hz : ns.length ≤ 1000000) (hlo : lo ≤ 1000000) (h : Q (.int (FX.bisL ns x lo ns.length)) σ) : FN c D (.val (.builtin "_bisect.bisect_left")) [v, .int x, .int lo] [] σ Q := by
  refine fn3 fun A g ρ z s Q' E' w₁ w₂ w₃ ok P r₁ r₂ r₃ q => ?_
  obtain ⟨a, ws, n, rfl, e1, hl⟩ := hv.at P r₁
  cases r₂; cases r₃
  exact FX.call_bl (vrl_ints hl) hz (isList_of e1) hlo fun u k => q _ _ _ _ _ _ h (P.toks _) (Go.toks ..) (.int _ _)
theorem fn_isi_obj {C C' : Addr} {fs : List (Nat × V)} (e : isIn c.K (.ref C) C' = true) (h : Q (.bool true) σ) : FN c D (.val (.builtin "isinstance")) [.obj C fs, .val (.ref C')] [] σ Q := by
  refine fn2 fun A g ρ z s Q' E' w₁ w₂ ok P r₁ r₂ q => ?_
  cases r₂
  cases r₁ with
  | obj hx hdx hE =>
    have I := InstAt.mk (h := s.heap) (C := C) (od := some (dictOf _ _)) (P.frz _ hx).1 rfl rfl (P.frz _ hdx).1
    exact isi_call (P.base.X.keeps P.keep) (fun M => I.type) e (by intro q; cases q) (q _ _ _ _ _ _ h P (Go.refl ..) (.bool _))
theorem fn_isi_bytes {b : List UInt8} (h : Q (.bool true) σ) : FN c D (.val (.builtin "isinstance")) [.bytes b, .val (.type "bytes")] [] σ Q := by
  refine fn2 fun A g ρ z s Q' E' w₁ w₂ ok P r₁ r₂ q => ?_
  cases r₂; cases r₁
  exact call_isinstance (isinstance_true (Tx := "bytes") F.isi_meta_bytes F.sub_bytes_bytes) ⟨typeIs_bytes _ _ _, q _ _ _ _ _ _ h P (Go.refl ..) (.bool _)⟩
end

section
variable {c : Cx} {env : Env} {D : Nat} {l : Loc} {σ : Hp} {Q : Fl → Loc → Hp → Prop}
-- STATEMENTS, AS THEY ARE BEST USED
theorem ex_assign' {x : Str} {e : Expr} {p pos : Pos} (h : EV c env D (eval e env) l σ fun v σ₁ => ∃ l', Up x v l l' ∧ Q .next l' σ₁) (hk : env.kindOf x = some .local := by (subst_vars; kernel_rfl))
    (hs : swapsWith e (some (.Name x p)) pos.line env = pure false := by (subst_vars; kernel_rfl)) : EX c env D (exec (.Assign [.Name x p] e pos) env) l σ Q := by
  intro A g ρ z s Q' E' ok R q
  refine wpAny_Assign_Name (h A g ρ z s _ _ ok R fun v w σ1 ρ1 z1 s1 h1 R1 G1 r1 => ?_) hs
  obtain ⟨l', hu, hq⟩ := h1
  exact store_local R1 r1 hk hu fun s2 R2 G2 => q _ _ _ _ _ _ _ hq R2 (G1.trans G2) .next
theorem ex_assignT {elts : List Expr} {k : Nat} {e : Expr} {p pos : Pos} (h : EV c env D (eval e env) l σ fun v σ₁ => EA c env D (.Tuple elts k p) v l σ₁ fun l' σ₂ => Q .next l' σ₂)
    (hs : swapsWithSole [.Tuple elts k p] e pos.line env = pure false := by (subst_vars; kernel_rfl)) (hw : swappedStores [.Tuple elts k p] e env = pure none := by (subst_vars; kernel_rfl)) : EX c env D (exec (.Assign [.Tuple elts k p] e pos) env) l σ Q := by
  intro A g ρ z s Q' E' ok R q
  refine PyProof.Rows.Assign_Tuple (h A g ρ z s _ _ ok R fun v w σ1 ρ1 z1 s1 h1 R1 G1 r1 => ?_) hs hw
  exact h1 A g ρ1 z1 s1 _ _ _ ok R1 r1 fun l' σ2 ρ2 z2 s2 h2 R2 G2 => q _ _ _ _ _ _ _ h2 R2 (G1.trans G2) .next
theorem ex_augName' {x : Str} {e : Expr} {op : Operator} {p pos : Pos} {v₀ : V} (hm : (x, v₀) ∈ l) (hp : v₀.plain = true) (h : EV c env D (eval e env) l σ fun v σ₁ => EV2 c env D v₀ v (inplaceOp op) l σ₁ fun r σ₂ => ∃ l', Up x r l l' ∧ Q .next l' σ₂)
    (hk : env.kindOf x = some .local := by (subst_vars; kernel_rfl)) : EX c env D (exec (.AugAssign (.Name x p) op e pos) env) l σ Q := by
  intro A g ρ z s Q' E' ok R q
  obtain ⟨m, hn, hl⟩ := R.ns
  rcases hl _ hm with h1 | ⟨i, a, h1, _⟩ | ⟨h1, w, h2, h3⟩
  · simp only at h1; subst h1; cases hp
  · simp only at h1; subst h1; cases hp
  · refine wpAny_AugAssign_Name (wpAny_loadName_local R.kind h1 hn h2 ?_)
    refine h A g ρ z s _ _ ok R fun v wv σ1 ρ1 z1 s1 h1' R1 G1 r1 => ?_
    refine h1' A g ρ1 z1 s1 _ _ _ _ ok R1 (h3.mono G1.toExt) r1 fun r wr σ2 ρ2 z2 s2 h2' R2 G2 r2 => ?_
    obtain ⟨l', hu, hq⟩ := h2'
    exact store_local R2 r2 hk hu fun s3 R3 G3 => q _ _ _ _ _ _ _ hq R3 ((G1.trans G2).trans G3) .next
theorem ex_augSub {o i e : Expr} {op : Operator} {p pos : Pos} (h : EV c env D (eval o env) l σ fun ov σ₁ => EV c env D (eval i env) l σ₁ fun iv σ₂ => EV2 c env D ov iv getItem l σ₂ fun old σ₃ => EV c env D (eval e env) l σ₃ fun v σ₄ =>
    EV2 c env D old v (inplaceOp op) l σ₄ fun r σ₅ => EU3 c env D ov iv r setItem l σ₅ fun σ₆ => Q .next l σ₆)
    (hi : ∀ ov iv new, augStore i ov iv new = (do holding [new, ov, iv] (setItem ov iv new); release [new, ov, iv] []; pure .next) := by intros; rfl) : EX c env D (exec (.AugAssign (.Subscript o i p) op e pos) env) l σ Q := by
  intro A g ρ z s Q' E' ok R q
  refine wpAny_AugAssign_SubscriptAny (h A g ρ z s _ _ ok R fun ov ow σ1 ρ1 z1 s1 h1 R1 G1 r1 => ?_) hi
  refine h1 A g ρ1 z1 s1 _ _ ok R1 fun iv iw σ2 ρ2 z2 s2 h2 R2 G2 r2 => ?_
  have o2 := r1.mono G2.toExt
  refine h2 A g ρ2 z2 s2 _ _ _ _ ok R2 o2 r2 fun old wo σ3 ρ3 z3 s3 h3 R3 G3 r3 => ?_
  refine h3 A g ρ3 z3 s3 _ _ ok R3 fun v w σ4 ρ4 z4 s4 h4 R4 G4 r4 => ?_
  refine h4 A g ρ4 z4 s4 _ _ _ _ ok R4 (r3.mono G4.toExt) r4 fun r wr σ5 ρ5 z5 s5 h5 R5 G5 r5 => ?_
  have G35 := (G3.trans G4).trans G5
  exact h5 A g ρ5 z5 s5 _ _ _ _ _ ok R5 (o2.mono G35.toExt) (r2.mono G35.toExt) r5 fun σ6 ρ6 z6 s6 h6 R6 G6 => q _ _ _ _ _ _ _ h6 R6 (((G1.trans G2).trans G35).trans G6) .next
theorem ei_own {i : Nat} {vs : List V} {k : Int} {v : V} {Q : V → Hp → Prop} (hi : σ[i]? = some (.list vs)) (h0 : 0 ≤ k) (hz : k < 2 ^ 63) (hv : vs[k.toNat]? = some v) (h : Q v σ) : EV2 c env D (.ref i) (.int k) getItem l σ Q := by
  intro A g ρ z s Q' E' w₁ w₂ ok R r₁ r₂ q
  cases r₁ with
  | ref hr =>
    cases r₂
    obtain ⟨ws, n, h1, h2, h3, h4⟩ := R.toRp.list hi hr
    obtain ⟨w, hw, rw'⟩ := h2.get hv
    exact wpAny_getItem_list (isList_of h1) h0 hz (by simpa using hw) (q _ _ _ _ _ _ h R (Go.refl ..) rw')
end
section
variable {c : Cx} {env : Env} {D : Nat} {l : Loc} {σ : Hp}
theorem ev_attr' {oe : Expr} {attr : Str} {pos : Pos} {Q : V → Hp → Prop} (h : EV c env D (eval oe env) l σ fun ov σ₁ => EV1 c env D ov (fun a => getAttr a attr true) l σ₁ Q)
    (he : eval (.Attribute oe attr pos) env = (do
      let o ← eval oe env
      standAt pos.atName
      let r ← holding [o] (getAttr o attr true)
      letTemporaryGo oe o r
      pure r) := by with_unfolding_all rfl) : EV c env D (eval (.Attribute oe attr pos) env) l σ Q := ev_attr h fun A s Q' E' hh => PyProof.Rows.Attribute_any_ hh he
theorem thenx {rest : List Stmt} {Q : Fl → Loc → Hp → Prop} (h : EX c env D (execs rest env) l σ Q) : ThenX c env D rest Q .next l σ := h
theorem thenr {rest : List Stmt} {Q : Fl → Loc → Hp → Prop} {v : V} (h : Q (.ret v) l σ) : ThenX c env D rest Q (.ret v) l σ := h
theorem thenb {rest : List Stmt} {Q : Fl → Loc → Hp → Prop} (h : Q .brk l σ) : ThenX c env D rest Q .brk l σ := h
theorem thenc {rest : List Stmt} {Q : Fl → Loc → Hp → Prop} (h : Q .cont l σ) : ThenX c env D rest Q .cont l σ := h
theorem postN {Q : V → Hp → Prop} (h : Q .none σ) : postFn Q .next l σ := h
theorem postR {Q : V → Hp → Prop} {v : V} (h : Q v σ) : postFn Q (.ret v) l σ := h
theorem bindA1 {fd : FuncData} {x : Str} {v : V} (h : ∀ a, bindArgs fd ⟨[a], []⟩ = pure [(x, a)]) : BindA c fd [v] [] [(x, v)] := by
  intro z ρ ws kws s X rl rk
  cases rk
  cases rl with
  | cons r1 rl => cases rl; exact ⟨_, BindsTo.of_eq (h _), rfl, .cons r1 .nil⟩
theorem bindA2 {fd : FuncData} {x y : Str} {v u : V} (h : ∀ a b, bindArgs fd ⟨[a, b], []⟩ = pure [(x, a), (y, b)]) : BindA c fd [v, u] [] [(x, v), (y, u)] := by
  intro z ρ ws kws s X rl rk
  cases rk
  cases rl with
  | cons r1 rl => cases rl with
    | cons r2 rl => cases rl; exact ⟨_, BindsTo.of_eq (h _ _), rfl, .cons r1 (.cons r2 .nil)⟩
theorem bindA3 {fd : FuncData} {x y x' : Str} {v u v' : V} (h : ∀ a b d, bindArgs fd ⟨[a, b, d], []⟩ = pure [(x, a), (y, b), (x', d)]) : BindA c fd [v, u, v'] [] [(x, v), (y, u), (x', v')] := by
  intro z ρ ws kws s X rl rk
  cases rk
  cases rl with
  | cons r1 rl => cases rl with
    | cons r2 rl => cases rl with
      | cons r3 rl => cases rl; exact ⟨_, BindsTo.of_eq (h _ _ _), rfl, .cons r1 (.cons r2 (.cons r3 .nil))⟩
theorem fc_def' {f : Addr} {fd : FuncData} {body : List Stmt} {oc : Value} {od : Option Addr} {osl : Array (Option Value)} {args : List V} {kw : List (Str × V)} {bs : List (Str × V)} {Q : V → Hp → Prop}
    (un : List Str) (l : Loc) (ho : c.K.lookup f = some ⟨oc, od, .func fd, osl⟩) (hbody : fd.body = .stmts body) (hcd : codeIn c.K fd.code fd.qualname = true) (hbind : BindA c fd args kw bs)
    (bn : List Str) (hbn : bs.map (·.1) = bn) (hnd : (bn ++ un).Nodup) (hloc : ∀ x ∈ bn, fd.scope.names.lookup x = some .local) (hl : l = bs ++ un.map fun x => (x, V.unb))
    (hcell : ∀ x ∈ fd.scope.names, x.2 ≠ .cell) (hgl : fd.globals = mainGlobals) (hbl : fd.builtins = builtinsNs) (hco : fd.scope.isCoroutine = false) (hgen : fd.scope.isGenerator = false) (hk : fd.scope.kind = .function)
    (h : ∀ L env, env = callEnv fd L f → EX c env D (execs body env) l σ (postFn Q)) : FC c (D + 1) (.val (.ref f)) args kw σ Q := by
  subst hl hbn
  have h := fun L => h L _ rfl
  intro A g ρ z s RR' wf ws kws ok R rf rl rk q
  refine fc_def (bs := bs) (un := un) ho hbody hcd hbind ?_ (fun x hx => hloc _ (List.mem_map_of_mem hx)) h hcell hgl hbl hco hgen hk A g ρ z s RR' wf ws kws ok R rf rl rk q
  · have e : ((bs ++ un.map fun x => (x, V.unb)).map (·.1)) = bs.map (·.1) ++ un := by simp [List.map_map, Function.comp_def]
    rw [e]; exact hnd
theorem at_same {σ : Hp} {i : Nat} {o o' : AO} (h : σ[i]? = some o) : (σ.set i o')[i]? = some o' := by
  have hlt := (List.getElem?_eq_some_iff.mp h).1
  simp [hlt]
theorem at_other {σ : Hp} {i j : Nat} {o o' : AO} (hne : j ≠ i) (h : σ[i]? = some o) : (σ.set j o')[i]? = some o := by rw [List.getElem?_set_ne hne]; exact h
theorem at_app {σ τ : Hp} {i : Nat} {o : AO} (h : σ[i]? = some o) : (σ ++ τ)[i]? = some o := by
  rw [List.getElem?_append_left (List.getElem?_eq_some_iff.mp h).1]; exact h
theorem at_new {σ : Hp} {o : AO} : (σ ++ [o])[σ.length]? = some o := by simp
theorem at_ne {σ : Hp} {i j : Nat} {o o' : AO} (h : σ[i]? = some o) (h' : σ[j]? = some o') (hd : o ≠ o') : i ≠ j := fun e => by subst e; rw [h] at h'; exact hd (Option.some.inj h')
end
end
section
open PySem PySem.W PyProof.Rows PySem.Calls
section
variable {c : Cx} {env : Env} {D : Nat} {l : Loc} {σ : Hp} {Q : V → Hp → Prop} {a b : Int}
theorem ev_iadd (h : Q (.int (a + b)) σ) : EV2 c env D (.int a) (.int b) (inplaceOp .Add) l σ Q := ev2_int (fun _ _ _ _ _ _ h => PyProof.Rows.iadd_int h) h
theorem ev_isub (h : Q (.int (a - b)) σ) : EV2 c env D (.int a) (.int b) (inplaceOp .Sub) l σ Q := ev2_int (fun _ _ _ _ _ _ h => PyProof.Rows.isub_int h) h
theorem ev_ibor (h : Q (.int (Builtin.bitOr a b)) σ) : EV2 c env D (.int a) (.int b) (inplaceOp .BitOr) l σ Q := ev2_int (fun _ _ _ _ _ _ h => PyProof.Rows.ior_int h) h
theorem ev_ibxor (h : Q (.int (Builtin.bitXor a b)) σ) : EV2 c env D (.int a) (.int b) (inplaceOp .BitXor) l σ Q := ev2_int (fun _ _ _ _ _ _ h => PyProof.Rows.ixor_int h) h
theorem ev_ishr (hb : 0 ≤ b) (h : Q (.int (a.fdiv (2 ^ b.toNat))) σ) : EV2 c env D (.int a) (.int b) (inplaceOp .RShift) l σ Q := ev2_int (fun _ _ _ _ _ _ h => PyProof.Rows.irshift_int hb h) h
-- results told in naturals
theorem ev_fdivN {n k : Nat} (hk : 0 < k) (hk2 : k < 1073741824) (h : Q (.int (n / k : Nat)) σ) : EV2 c env D (.int n) (.int k) (binaryOp .FloorDiv) l σ Q :=
  ev_fdiv (by omega) (PyProof.noPylong_small (by omega)) (by rw [Int.fdiv_eq_ediv_of_nonneg _ (by omega)]; exact_mod_cast h)
theorem ev_fmodN {n k : Nat} (hk : 0 < k) (h : Q (.int (n % k : Nat)) σ) : EV2 c env D (.int n) (.int k) (binaryOp .Mod) l σ Q :=
  ev_fmod (by omega) (by rw [Int.fmod_eq_emod_of_nonneg _ (by omega)]; exact_mod_cast h)
theorem ev_shrN {n k : Nat} (h : Q (.int (n / 2 ^ k : Nat)) σ) : EV2 c env D (.int n) (.int k) (binaryOp .RShift) l σ Q :=
  ev_shr (by omega) (by rw [Int.fdiv_eq_ediv_of_nonneg _ (by exact Int.pow_nonneg (by omega))]; simpa using h)
theorem ev_iaddN {n k : Nat} (h : Q (.int (n + k : Nat)) σ) : EV2 c env D (.int n) (.int k) (inplaceOp .Add) l σ Q := ev_iadd (by exact_mod_cast h)
theorem ev_addN {n k : Nat} (h : Q (.int (n + k : Nat)) σ) : EV2 c env D (.int n) (.int k) (binaryOp .Add) l σ Q := ev_add (by exact_mod_cast h)
theorem keep_b {n : String} : KeepOk c (.val (.builtin n)) := trivial
theorem keep_t {n : String} : KeepOk c (.val (.type n)) := trivial
theorem keep_f {a : Addr} (h : keepIn c.K (.ref a) = true) : KeepOk c (.val (.ref a)) := h
theorem boolT {P P' : Prop} (h : P) : (true = true → P) ∧ (true = false → P') := ⟨fun _ => h, fun e => (nomatch e)⟩
theorem boolF {P P' : Prop} (h : P') : (false = true → P) ∧ (false = false → P') := ⟨fun e => (nomatch e), fun _ => h⟩
theorem upx {x : Str} {v : V} {l l' : Loc} {P : Loc → Prop} (u : Up x v l l') (h : P l') : ∃ l', Up x v l l' ∧ P l' := ⟨l', u, h⟩
theorem ev_bltn_b {x : Str} {pos : Pos} {n : String} (e : nsIn c.K mainGlobals x = some none) (hv : bootBuiltins x = some (.builtin n)) (h : Q (.val (.builtin n)) σ) (hx : env.kindOf x = some .globalImplicit := by (subst_vars; kernel_rfl)) (hn : x ≠ "__name__" := by decide +kernel) (hd : (x == ("__debug__" : Str)) = false := by decide +kernel) :
    EV c env D (eval (.Name x pos) env) l σ Q := ev_bltn e hv h hx hn hd
theorem ev_bltn_t {x : Str} {pos : Pos} {n : String} (e : nsIn c.K mainGlobals x = some none) (hv : bootBuiltins x = some (.type n)) (h : Q (.val (.type n)) σ) (hx : env.kindOf x = some .globalImplicit := by (subst_vars; kernel_rfl)) (hn : x ≠ "__name__" := by decide +kernel) (hd : (x == ("__debug__" : Str)) = false := by decide +kernel) :
    EV c env D (eval (.Name x pos) env) l σ Q := ev_bltn e hv h hx hn hd
theorem ev_glob_r {x : Str} {pos : Pos} {a : Addr} (e : nsIn c.K mainGlobals x = some (some (.ref a))) (h : Q (.val (.ref a)) σ) (hx : env.kindOf x = some .globalImplicit := by (subst_vars; kernel_rfl)) (hd : (x == ("__debug__" : Str)) = false := by decide +kernel) :
    EV c env D (eval (.Name x pos) env) l σ Q := ev_glob e h hx hd
theorem ev_glob_b {x : Str} {pos : Pos} {n : String} (e : nsIn c.K mainGlobals x = some (some (.builtin n))) (h : Q (.val (.builtin n)) σ) (hx : env.kindOf x = some .globalImplicit := by (subst_vars; kernel_rfl)) (hd : (x == ("__debug__" : Str)) = false := by decide +kernel) :
    EV c env D (eval (.Name x pos) env) l σ Q := ev_glob e h hx hd
theorem ev_glob_i {x : Str} {pos : Pos} {n : Int} {t : Tok} (e : nsIn c.K mainGlobals x = some (some (.int n t))) (h : Q (.int n) σ) (hx : env.kindOf x = some .globalImplicit := by (subst_vars; kernel_rfl)) (hd : (x == ("__debug__" : Str)) = false := by decide +kernel) :
    EV c env D (eval (.Name x pos) env) l σ Q := ev_glob e h hx hd
theorem ev_glob_y {x : Str} {pos : Pos} {b : Array UInt8} {t : Tok} (e : nsIn c.K mainGlobals x = some (some (.bytes b t))) (h : Q (.bytes b.toList) σ) (hx : env.kindOf x = some .globalImplicit := by (subst_vars; kernel_rfl)) (hd : (x == ("__debug__" : Str)) = false := by decide +kernel) :
    EV c env D (eval (.Name x pos) env) l σ Q := ev_glob e h hx hd
-- lists of ints
theorem fn_appendI {i : Nat} {ns : List Int} {v : Int} (hi : σ[i]? = some (.list (ns.map V.int))) (hz : ns.length ≤ 1000000) (h : Q .none (σ.set i (.list ((ns ++ [v]).map V.int)))) : FN c D (.val (.builtin "list.append")) [.ref i, .int v] [] σ Q :=
  fn_append hi (by simpa using hz) (by simpa using h)
theorem ei_ownI {i : Nat} {ns : List Int} {k : Nat} (hi : σ[i]? = some (.list (ns.map V.int))) (hk : k < ns.length) (hz : ns.length ≤ 1000000) (h : Q (.int (ns.getD k 0)) σ) : EV2 c env D (.ref i) (.int k) getItem l σ Q :=
  ei_own (v := .int (ns.getD k 0)) hi (by omega) (by omega) (by simp [hk]) h
theorem ei_listI {oe ie : Expr} {i : Nat} {ns : List Int} {k : Nat} (hi : σ[i]? = some (.list (ns.map V.int))) (hk : k < ns.length) (hz : ns.length ≤ 1000000) (h : Q (.int (ns.getD k 0)) σ)
    (hs : ∀ a b t, subscripted ie false (.ref a) (.int b t) = operate [.ref a, .int b t] (getItem (.ref a) (.int b t)) := by intro _ _ _; with_unfolding_all rfl) : EV2 c env D (.ref i) (.int k) (subscriptTail oe ie) l σ Q :=
  ei_list (v := .int (ns.getD k 0)) hi (by omega) (by omega) (by simp [hk]) h hs
theorem ei_lstI {oe ie : Expr} {ns : List Int} {k : Nat} (hk : k < ns.length) (hz : ns.length ≤ 1000000) (h : Q (.int (ns.getD k 0)) σ)
    (hs : ∀ a b t, subscripted ie false (.ref a) (.int b t) = operate [.ref a, .int b t] (getItem (.ref a) (.int b t)) := by intro _ _ _; with_unfolding_all rfl) : EV2 c env D (.lst (ns.map V.int)) (.int k) (subscriptTail oe ie) l σ Q :=
  ei_lst (v := .int (ns.getD k 0)) (by omega) (by omega) (by simp [hk]) h hs
theorem eu_listI {Q : Hp → Prop} {i : Nat} {ns : List Int} {k : Nat} {v : Int} (hi : σ[i]? = some (.list (ns.map V.int))) (hk : k < ns.length) (hz : ns.length ≤ 1000000) (h : Q (σ.set i (.list ((ns.set k v).map V.int)))) : EU3 c env D (.ref i) (.int k) (.int v) setItem l σ Q :=
  eu_list hi (by omega) (by simpa using hk) (by omega) (by simpa [List.map_set] using h)
theorem fn_len_listI {i : Nat} {ns : List Int} (hi : σ[i]? = some (.list (ns.map V.int))) (hz : ns.length ≤ 1000000) (h : Q (.int ns.length) σ) : FN c D (.val (.builtin "len")) [.ref i] [] σ Q := fn_len_list hi (by simpa using hz) (by simpa using h)
-- SHAPES THAT ARE MET OFTEN
theorem ev_attrN {x attr : Str} {p pos : Pos} (h : EV c env D (eval (.Name x p) env) l σ fun ov σ₁ => EV1 c env D ov (fun a => getAttr a attr true) l σ₁ Q) : EV c env D (eval (.Attribute (.Name x p) attr pos) env) l σ Q := ev_attr' h (by with_unfolding_all rfl)
theorem ev_attrA {e : Expr} {a2 attr : Str} {p pos : Pos} (h : EV c env D (eval (.Attribute e a2 p) env) l σ fun ov σ₁ => EV1 c env D ov (fun a => getAttr a attr true) l σ₁ Q) : EV c env D (eval (.Attribute (.Attribute e a2 p) attr pos) env) l σ Q := ev_attr' h (by with_unfolding_all rfl)
theorem ev_callN {x : Str} {p pos : Pos} {args : List Expr} {kws : List Keyword} (hkw : (backToKw pos (keywordEach kws env)).all (·.1.isSome) = true)
    (h : EV c env D (eval (.Name x p) env) l σ fun vf σ₁ => KeepOk c vf ∧ EL c env D pos args l σ₁ fun vs σ₂ => EK c env D pos kws l σ₂ fun ks σ₃ => FN c D vf vs ks σ₃ Q) : EV c env D (eval (.Call (.Name x p) args kws pos) env) l σ Q := ev_call hkw h
theorem set_same {σ : Hp} {i : Nat} {o : AO} (h : σ[i]? = some o) : σ.set i o = σ := by
  obtain ⟨hl, e⟩ := List.getElem?_eq_some_iff.mp h
  subst e; exact List.set_getElem_self hl
theorem it_rangeN {n : Nat} (hn : n ≤ 1000000) : Iterable c (.rng 0 n 1) (rngVs 0 1 n) (fun _ => True) :=
  it_range (small_one (by omega) (by omega) (by omega) (by omega)) (by rw [rangeSize_one]; split <;> omega)
theorem rng_get {n k : Nat} {v : V} (h : (rngVs 0 1 n)[k]? = some v) : k < n ∧ v = .int k := by
  unfold rngVs at h
  rw [List.getElem?_map] at h
  by_cases hk : k < n
  · simp [hk] at h; exact ⟨hk, h.symm⟩
  · simp [hk] at h
theorem rng_len {a st : Int} {n : Nat} : (rngVs a st n).length = n := by simp [rngVs]
end
end
section
open PySem PySem.W PyProof.Rows PySem.Calls

-- DICTS OF INTS THAT THE CALL MADE
theorem isDict_any {p p' : Program} {w w' : World} {o : Obj} {kvs : List (Int × Value)} (h : o.IsDictOf (intKind p w) kvs) : o.IsDictOf (intKind p' w') kvs := by
  obtain ⟨es, ep, a, b, k, d, e⟩ := h
  refine ⟨es, ep, a, b, ?_, ?_, e⟩
  · exact k
  · clear a b k e
    generalize es.toList = es' at d
    induction d with
    | nil => exact .nil
    | cons h1 h2 h3 ih => exact .cons h1 h2 ih
section
variable {c : Cx} {env : Env} {D : Nat} {l : Loc} {σ : Hp} {Q : V → Hp → Prop}
theorem PR.dict_inv {z : Led} {ρ : List Addr} {ks : List Int} {vs : List V} {a : Addr} {p : Led} (h : PR z ρ (.dict ks vs) a p) : ∃ o ws, p = [(a, o)] ∧ (a == sysModules) = false ∧ IDict o ks ws ∧ VRL z ρ vs ws := by
  cases h with
  | dict a b d => exact ⟨_, _, rfl, a, b, d⟩
theorem Rp.dictAt {g X ρ z} {s : Shared} (R : Rp c g X ρ z σ s) {i : Nat} {ks : List Int} {vs : List V} (hi : σ[i]? = some (.dict ks vs)) {a : Addr} (ha : ρ[i]? = some a) :
    ∃ o ws, s.heap.get? a = some o ∧ (a == sysModules) = false ∧ IDict o ks ws ∧ VRL z ρ vs ws := by
  obtain ⟨a', p, h1, h2, h3⟩ := R.at hi
  rw [ha] at h1; cases h1
  obtain ⟨o, ws, rfl, a1, a2, a3⟩ := h2.dict_inv
  exact ⟨o, ws, (h3 _ (.head _)).1, a1, a2, a3⟩
theorem ei_dict {oe ie : Expr} {i : Nat} {ks : List Int} {vs : List V} {k : Int} {v : V} (hi : σ[i]? = some (.dict ks vs)) (hv : (ks.zip vs).find? (fun p => p.1 == k) = some (k, v)) (h : Q v σ)
    (hs : ∀ a b t, subscripted ie false (.ref a) (.int b t) = operate [.ref a, .int b t] (getItem (.ref a) (.int b t)) := by intro _ _ _; with_unfolding_all rfl) : EV2 c env D (.ref i) (.int k) (subscriptTail oe ie) l σ Q := by
  intro A g ρ z s Q' E' w₁ w₂ ok R r₁ r₂ q
  cases r₁ with
  | ref hr =>
    cases r₂
    rename_i t
    obtain ⟨o, ws, ho, hsm, hd, hl⟩ := R.toRp.dictAt hi hr
    obtain ⟨w, hw, r⟩ := zip_valueAt hd.1 hl hv
    have hD := idict_at (p := c.prog) (w := c.w) ho hd
    exact tail_any hD.typeIs slot_dict_getitem.lookup (wpAny_getItem_of (intKind_is _ _ k t) hD.mapOf hw (q _ _ _ _ _ _ h (R.toks _) (Go.toks ..) r)) (hs _ _ _)
theorem ev_in_dict {i : Nat} {ks : List Int} {vs : List V} {k : Int} (hi : σ[i]? = some (.dict ks vs)) (h : Q (.bool (ks.contains k)) σ) : EV2 c env D (.int k) (.ref i) (compareOp .In) l σ Q := by
  intro A g ρ z s Q' E' w₁ w₂ ok R r₁ r₂ q
  cases r₂ with
  | ref hr =>
    cases r₁
    rename_i t
    obtain ⟨o, ws, ho, hsm, hd, hl⟩ := R.toRp.dictAt hi hr
    have hD := idict_at (p := c.prog) (w := c.w) ho hd
    refine wpAny_in_of (intKind_is _ _ k t) hsm hD.mapOf (q _ _ _ _ _ _ h (R.toks _) (Go.toks ..) ?_)
    cases e : ks.contains k with
    | false => rw [zip_valueAt_none e]; exact .bool _
    | true => obtain ⟨w, hw⟩ := zip_valueAt_some hd.1 e; rw [hw]; exact .bool _
def newDictObj : Obj := { cls := .type "dict", data := .dict #[] }
theorem newDict_is : IDict newDictObj [] [] := ⟨rfl, fun p w => ⟨#[], 0, ⟨rfl, rfl, rfl⟩, rfl, (by intro e he; simp at he), .nil, by simp⟩⟩
theorem Rp.newDict {g X ρ z} {s : Shared} (P : Rp c g X ρ z σ s) :
    Rp c g X (ρ ++ [s.heap.objs.size]) z (σ ++ [.dict [] []]) { s with heap := s.heap.push newDictObj } ∧ Go g ρ z s (ρ ++ [s.heap.objs.size]) z { s with heap := s.heap.push newDictObj } ∧
    VR z (ρ ++ [s.heap.objs.size]) (.ref σ.length) (.ref s.heap.objs.size) ∧ (s.heap.objs.size == sysModules) = false := by
  have hlow : (s.heap.objs.size == sysModules) = false := by
    exact beq_eq_false_iff_ne.mpr (Nat.ne_of_gt (PyProof.Rows.modules_low (P.base.nolimit.keeps P.keep)))
  have hfree : newDictObj.isFreed = false := rfl
  have g1 : (s.heap.push newDictObj).get? s.heap.objs.size = some newDictObj := Heap.get?_push_size _ hfree
  obtain ⟨led0, a0, _⟩ := P.own
  have hlen : σ.length = ρ.length := a0.length
  refine ⟨P.new (s' := { s with heap := s.heap.push newDictObj }) (fun b o e => Heap.get?_push_of_some _ e) (p := [(s.heap.objs.size, newDictObj)]) (.dict hlow newDict_is .nil) (by simp) (fun q hq => ?_), ⟨Ext.push .., fun b o e => ⟨o, Heap.get?_push_of_some _ e⟩, fun _ h => .inl h⟩, .ref (by rw [hlen]; simp), hlow⟩
  cases List.mem_singleton.mp hq
  exact ⟨g1, fresh_at (Nat.le_refl _)⟩
/-- the pairs of a display -/
def EPs (c : Cx) (env : Env) (D : Nat) (keys : List (Option Expr)) (values : List Expr) (pos : Pos) (l : Loc) (σ : Hp) (Q : List Int → List V → Hp → Prop) : Prop :=
  ∀ (A : Around) (g : Heap) (ρ : List Addr) (z : Led) (s : Shared) (Q' : List (Value × Value) → Shared → Prop) (E' : Value → Shared → Prop), Ok A D → Rep c env g ρ z σ l s →
    (∀ ks vs ws kvs σ' ρ' z' s', Q ks vs σ' → Rep c env g ρ' z' σ' l s' → Go g ρ z s ρ' z' s' → VRL z' ρ' vs ws → ks.length = ws.length → Carries (intKind c.prog c.w) kvs (ks.zip ws) → Q' kvs s') → wpAny c.M A (evalPairs (pairTrees keys values env pos)) Q' E' s
theorem eps_nil {pos : Pos} {Q : List Int → List V → Hp → Prop} (h : Q [] [] σ) : EPs c env D [] [] pos l σ Q := fun A g ρ z s Q' E' ok R q => pairTrees_nil_walk (q _ _ [] _ _ _ _ _ h R (Go.refl ..) .nil rfl trivial)
theorem eps_cons {pos : Pos} {k v : Expr} {ks : List (Option Expr)} {vs : List Expr} {Q : List Int → List V → Hp → Prop}
    (h : EV c env D (eval k env) l σ fun kv σ₁ => ∃ i, kv = .int i ∧ EV c env D (eval v env) l σ₁ fun vv σ₂ => EPs c env D ks vs pos l σ₂ fun is us σ₃ => Q (i :: is) (vv :: us) σ₃) : EPs c env D (some k :: ks) (v :: vs) pos l σ Q := by
  intro A g ρ z s Q' E' ok R q
  refine pairTrees_cons_walk (h A g ρ z s _ _ ok R fun kv wk σ1 ρ1 z1 s1 h1 R1 G1 r1 => ?_)
  obtain ⟨i, rfl, h1⟩ := h1
  cases r1
  rename_i t
  refine h1 A g ρ1 z1 s1 _ _ ok R1 fun vv wv σ2 ρ2 z2 s2 h2 R2 G2 r2 => ?_
  refine h2 A g ρ2 z2 s2 _ _ ok R2 fun is us ws kvs σ3 ρ3 z3 s3 h3 R3 G3 r3 hl hc => ?_
  exact q (i :: is) (vv :: us) (wv :: ws) _ _ _ _ _ h3 R3 ((G1.trans G2).trans G3) (.cons (r2.mono G3.toExt) r3) (by simp [hl]) ⟨intKind_is _ _ i t, rfl, hc⟩
theorem ev_dict0 {pos : Pos} (h : Q (.ref σ.length) (σ ++ [.dict [] []])) : EV c env D (eval (.Dict [] [] pos) env) l σ Q := by
  intro A g ρ z s Q' E' ok R q
  refine wpAny_Dict_empty ?_
  obtain ⟨P', G', r', _⟩ := R.toRp.newDict
  exact q _ _ _ _ _ _ h (R.mk' P' G'.toExt fun m hm => hm.push _) G' r'
theorem ev_dict {keys : List (Option Expr)} {values : List Expr} {pos : Pos} (hall : keys.all (·.isSome) = true) (hl : keys.length = values.length) (h0 : keys ≠ []) (hlen : keys.length ≤ 15)
    (h : EPs c env D keys values pos l (σ ++ [.dict [] []]) fun ks vs σ₁ => σ₁[σ.length]? = some (.dict [] []) ∧ ks.Nodup ∧ Q (.ref σ.length) (σ₁.set σ.length (.dict ks vs))) : EV c env D (eval (.Dict keys values pos) env) l σ Q := by
  intro A g ρ z s Q' E' ok R q
  obtain ⟨P', G', r', hlow⟩ := R.toRp.newDict
  have R' := R.mk' P' G'.toExt fun m hm => hm.push _
  refine wpAny_Dict_walk (knd := intKind c.prog c.w) hall hl h0 hlen ?_
  refine h A g _ z _ _ _ ok R' fun ks vs ws kvs σ1 ρ1 z1 s1 h1 R1 G1 r1 hlw hc => ?_
  obtain ⟨hd, hnd, hq⟩ := h1
  cases r' with
  | ref hr =>
    have hr1 := G1.r _ _ hr
    obtain ⟨o, ws0, ho, hsm, hdi, _⟩ := R1.toRp.dictAt hd hr1
    have hz : ws0 = [] := by have := hdi.1; simp at this; simpa using this.symm
    subst hz
    refine ⟨ks.zip ws, hc, idict_at ho hdi, fun h' hD hs => ?_⟩
    have hfst : (ks.zip ws).map (·.1) = ks := by rw [List.map_fst_zip]; omega
    rw [merged_nil_of_nodup _ (by rw [hfst]; exact hnd)] at hD
    obtain ⟨o', ho', hI⟩ := Heap.dictOf_iff.mp hD
    have hI' : IDict o' ks ws := ⟨hlw, fun p w => isDict_any hI⟩
    have hL : env.locals ≠ s.heap.objs.size := fun e => by
      obtain ⟨m, hm, _⟩ := R.ns
      obtain ⟨ob, _, _, e', _⟩ := hm
      exact absurd (Heap.lt_size e') (by rw [e]; exact Nat.lt_irrefl _)
    have P2 : Rp c g [env.locals] ρ1 z1 (σ1.set σ.length (.dict ks vs)) { s1 with heap := h', toks := s1.toks + kvs.length } := R1.toRp.upd (s' := { s1 with heap := h', toks := s1.toks + kvs.length }) hd hr1 (b := s.heap.objs.size) (o' := .dict ks vs) (fun p hp hh => by
      obtain ⟨o2, ws2, rfl, b1, b2, b3⟩ := hp.dict_inv
      exact ⟨by simp, [(s.heap.objs.size, o')], .dict b1 hI' r1, rfl, fun q hq => by cases List.mem_singleton.mp hq; exact ho'⟩) hs
    refine q _ _ _ _ _ _ hq (R1.mk' P2 (Ext.refl ..) fun m hm => hm.sameBut hs hL) ((G'.trans G1).trans ⟨Ext.refl .., fun b o e => ?_, fun _ h => .inl h⟩) (.ref hr1)
    by_cases hb : b = s.heap.objs.size
    · subst hb; exact ⟨o', ho'⟩
    · exact ⟨o, (hs.2 b hb).trans e⟩
end
end
section
open PySem PySem.W PyProof.Rows PySem.Calls
/-- an object of the frame's own becomes an owned list -/
theorem Rp.ownX {c g X ρ z σ} {s : Shared} {a : Addr} {acc : List V} {ws : List Value} {n : Nat} (R : Rp c g (a :: X) ρ z σ s) (hv : VRL z ρ acc ws) (ha : a ∉ X ++ c.tk) (e : s.heap.get? a = some (listOf ws.toArray n)) :
    Rp c g X (ρ ++ [a]) z (σ ++ [.list acc]) s ∧ Go g ρ z s (ρ ++ [a]) z s ∧ VR z (ρ ++ [a]) (.ref σ.length) (.ref a) := by
  obtain ⟨led, a', b, d⟩ := R.own
  have hlen : σ.length = ρ.length := a'.length
  have sub : ∀ x, x ∈ X ++ c.tk → x ∈ (a :: X) ++ c.tk := fun x h => by simp only [List.mem_append, List.mem_cons] at h ⊢; rcases h with h | h <;> simp [h]
  have hp : PR z (ρ ++ [a]) (.list acc) a [(a, listOf ws.toArray n)] := .list (hv.mono (Ext.push ..))
  refine ⟨⟨R.base, R.keep, ⟨led ++ [(a, listOf ws.toArray n)], (a'.mono (Ext.push ..)).snoc hp, ?_, fun p hp => ?_⟩, fun q hq => ⟨(R.frz q hq).1, fun h => (R.frz q hq).2 (sub _ h)⟩, fun x hx => R.off x (sub x hx), R.tabs, R.os, R.dr, R.gens, R.kz⟩,
    ⟨Ext.push .., fun b o e => ⟨o, e⟩, fun _ h => .inl h⟩, .ref (by rw [hlen]; simp)⟩
  · rw [List.map_append, List.nodup_append]
    refine ⟨b, by simp, fun x hx y hy => ?_⟩
    obtain ⟨q, hq, rfl⟩ := List.mem_map.mp hx
    have hya : y = a := by simpa using hy
    subst hya
    intro h
    exact (d q hq).2.2.1 (by rw [h]; simp)
  · rcases List.mem_append.mp hp with h | h
    · exact ⟨(d p h).1, (d p h).2.1, fun h' => (d p h).2.2.1 (sub _ h'), (d p h).2.2.2⟩
    · cases List.mem_singleton.mp h
      refine ⟨e, (R.off a (by simp)).1, ha, fun q hq h' => ?_⟩
      exact (R.frz q hq).2 (by rw [h']; simp)
section
variable {c : Cx} {env : Env} {D : Nat} {l : Loc} {σ : Hp}
theorem ev_compO {elt target iter : Expr} {ifs : List Expr} {scope : Scope} {pos : Pos} {cl : List (Str × Addr)} {lc : Loc} {Q : V → Hp → Prop}
    (hclos : closureFor scope env = pure cl) (hcell : ∀ y ∈ scope.names, y.2 ≠ .cell) (hkind : scope.kind = .function) (hnames : ∀ y ∈ scope.names, y.2 = .local → scope.names.lookup y.1 = some .local) (hlc : CompLoc env scope cl l lc) (hnd : (lc.map (·.1)).Nodup)
    (h : EIt c env D iter l σ fun vs Sg σ₁ => vs.length ≤ 1000000 ∧ ∃ J : Nat → List V → Hp → Prop, J 0 [] σ₁ ∧ (∀ i acc σ₁, J i acc σ₁ → Sg σ₁) ∧
      (∀ C i v acc σ₁, vs[i]? = some v → J i acc σ₁ → EA c (compEnvC scope cl C env) D target v lc σ₁ fun l₂ σ₂ => EB c (compEnvC scope cl C env) D (testsOf ifs (compEnvC scope cl C env)) l₂ σ₂ fun b σ₃ =>
        (b = true → EV c (compEnvC scope cl C env) D (eval elt (compEnvC scope cl C env)) l₂ σ₃ fun u σ₄ => J (i + 1) (acc ++ [u]) σ₄) ∧ (b = false → J (i + 1) acc σ₃)) ∧
      ∀ acc σ₁, J vs.length acc σ₁ → Q (.ref σ₁.length) (σ₁ ++ [.list acc]))
    (hs : ∀ x, foldedSetIterable iter env x = pure x := by (subst_vars; intro _; kernel_rfl)) : EV c env D (eval (.ListComp elt [⟨target, iter, ifs, 0⟩] scope pos) env) l σ Q := by
  intro A g ρ z s Q' E' ok R q
  rw [eval_ListComp]
  refine wpAny_comprehension_free (use := none) rfl hs hclos hkind hnames (h A g ρ z s _ _ ok R fun vs Sg σ1 I Xs St ρ1 z1 s2 h1 hSg K R2 RI2 nX G2 nX0 st0 => ?_)
  obtain ⟨hsz, J, j0, jS, step, fin⟩ := h1
  have tX : ∀ x ∈ Xs, x ∉ c.tk := fun x hx hm => nX x hx (List.mem_append_right _ hm)
  have lX : ∀ x ∈ Xs, x ≠ env.locals := fun x hx e => nX x hx (List.mem_append_left _ (by simp [e]))
  have exX : ∀ x ∈ Xs, ∃ o, s2.heap.get? x = some o := K.sole _ _ _ _ st0
  have exL : ∃ o, s2.heap.get? env.locals = some o := (R2.off env.locals (by simp)).2
  obtain ⟨hp2, gens2, dr2, tk2, os2⟩ := s2
  dsimp only at st0 exX exL ⊢
  -- the list that is built
  refine wpAny_newObj_type (wpAny_newFunctionEnv hcell (by intro y hy; simp at hy) (fun h₁ hns₁ hsb₁ => ?_) hkind)
  dsimp only at hns₁ hsb₁ ⊢
  generalize hH2 : hp2.push { cls := .type "list", dict := none, data := .seq ([] : List Value).toArray } = H2 at hns₁ hsb₁ ⊢
  have hD2 : H2.get? hp2.objs.size = some (listOf #[] 0) := by rw [← hH2]; exact Heap.get?_push_size _ rfl
  have nD2 : hp2.get? hp2.objs.size = none := fresh_at (Nat.le_refl _)
  have k23 : ∀ b o, hp2.get? b = some o → H2.get? b = some o := fun b o e => by rw [← hH2]; exact Heap.get?_push_of_some _ e
  have nC2 : H2.get? H2.objs.size = none := fresh_at (Nat.le_refl _)
  have k3 : ∀ b o, H2.get? b = some o → h₁.get? b = some o := fun b o e => (hsb₁.2 b (Nat.ne_of_lt (Heap.lt_size e))).trans (Heap.get?_push_of_some _ e)
  have eC : ∃ o, h₁.get? H2.objs.size = some o := let ⟨o, _, _, e, _⟩ := hns₁; ⟨o, e⟩
  generalize hp2.objs.size = Da at hD2 nD2 ⊢
  generalize H2.objs.size = C at nC2 hns₁ hsb₁ eC ⊢
  have P3 : Rp c g (Da :: (Xs ++ [env.locals])) ρ1 z1 σ1 ⟨H2, gens2, dr2, tk2, os2⟩ := RI2.addX' (s' := ⟨H2, gens2, dr2, tk2, os2⟩) k23 nD2 ⟨_, hD2⟩
  have P4 : Rp c g (C :: Da :: (Xs ++ [env.locals])) ρ1 z1 σ1 ⟨h₁, gens2, dr2, tk2, os2⟩ := P3.addX' (s' := ⟨h₁, gens2, dr2, tk2, os2⟩) k3 nC2 eC
  have notTk : ∀ {x : Addr} {XX : List Addr} {ss : Shared} {ρρ zz σσ}, Rp c g XX ρρ zz σσ ss → ss.heap.get? x = none → x ∉ c.tk := fun PP e hm => by
    obtain ⟨_, e'⟩ := (PP.off _ (List.mem_append_right _ hm)).2
    rw [e] at e'; cases e'
  have tD : Da ∉ c.tk := notTk RI2 nD2
  have tC : C ∉ c.tk := notTk P3 nC2
  have nDX : Da ∉ Xs := fun h => by obtain ⟨o, e'⟩ := exX _ h; rw [e'] at nD2; cases nD2
  have nDL : Da ≠ env.locals := fun e => by obtain ⟨o, e'⟩ := exL; rw [e, e'] at nD2; cases nD2
  have nCD : C ≠ Da := fun e => by rw [e, hD2] at nC2; cases nC2
  have nCX : C ∉ Xs := fun h => by obtain ⟨o, e'⟩ := exX _ h; rw [k23 _ _ e'] at nC2; cases nC2
  have nCL : C ≠ env.locals := fun e => by obtain ⟨o, e'⟩ := exL; rw [e, k23 _ _ e'] at nC2; cases nC2
  have nLX : env.locals ∉ Xs := fun h => lX _ h rfl
  obtain ⟨oL, eL⟩ := exL
  have k13 : ∀ b o, hp2.get? b = some o → h₁.get? b = some o := fun b o e => k3 _ _ (k23 _ _ e)
  have G4 : Go g ρ z s ρ1 z1 ⟨h₁, gens2, dr2, tk2, os2⟩ := G2.trans (Go.same _ _ _ _ _ k13)
  have st1 : St 0 ρ1 z1 h₁ := K.keep _ _ _ _ _ _ _ st0 (Ext.refl ..) (fun x _ o e => k13 _ _ e) (fun p hp => (RI2.frz p hp).1) (fun p hp => (P4.frz p hp).1)
  obtain ⟨mL, hmL, hlL⟩ := R2.ns
  have nrc : ∀ {ρ' z' m'}, Ext ρ1 z1 ρ' z' → ∀ p ∈ lc, NR (compEnvC scope cl C env) ρ' z' m' p := fun {ρ' z' m'} ex p hp => by
    rcases hlc p hp with h | ⟨i, h1, h2, h3, h4⟩
    · exact .inl h
    · rcases hlL p h2 with h5 | ⟨i', a, h5, _, h6, h7⟩ | ⟨h5, w', h6, h7⟩
      · rw [h1] at h5; cases h5
      · rw [h1] at h5; cases h5
        exact .inr (.inl ⟨i, a, h1, h4, h3.trans h6, ex.r _ _ h7⟩)
      · rw [h1] at h7; cases h7
  -- the turns
  have loop : ∀ tk, codeAny c.M A (.compLoop (.ListComp elt [⟨target, iter, ifs, 0⟩] scope pos) 0 (.ref I) (.ref Da) (compEnvC scope cl C env)) (compPost c.M A E' none Q' (.ref Da) C) ⟨h₁, gens2, dr2, tk, os2⟩ := fun tk => by
    refine compLoop_gen (fun k s' => ∃ i acc σ' ρ' z' ws n, k = vs.length + 1 - i ∧ i ≤ vs.length ∧ acc.length ≤ i ∧ Rp c g (C :: Da :: (Xs ++ [env.locals])) ρ' z' σ' s' ∧ s'.heap.get? Da = some (listOf ws n) ∧ VRL z' ρ' acc ws.toList ∧ (∃ m, s'.heap.Ns C m) ∧ s'.heap.get? env.locals = some oL ∧ Go g ρ z s ρ' z' s' ∧ Ext ρ1 z1 ρ' z' ∧ St i ρ' z' s'.heap ∧ J i acc σ') ?_ (vs.length + 1)
      ⟨0, [], σ1, ρ1, z1, #[], 0, by simp, Nat.zero_le _, Nat.le_refl _, P4.grow (s' := ⟨h₁, gens2, dr2, tk, os2⟩) (fun _ _ e => e), k3 _ _ hD2, .nil, ⟨_, hns₁⟩, k13 _ _ eL, G4.trans (Go.same _ _ _ _ _ fun _ _ e => e), Ext.refl .., st1, j0⟩
    rintro k s' ⟨i, acc, σ', ρ', z', ws, n, rfl, hi, hacc, P', hD, hVR, ⟨mC, hmC⟩, hL, G', X', st', hJ⟩
    have hXX : ∀ x ∈ Xs, x ∈ C :: Da :: (Xs ++ [env.locals]) ∧ x ∉ c.tk := fun x hx => ⟨by simp [hx], tX x hx⟩
    by_cases hlt : i < vs.length
    · refine K.item i vs[i] g _ ρ' z' σ' s' _ _ (by simp [hlt]) P' hXX (jS _ _ _ hJ) st' fun wv ρ2 z2 s2' P₂ G₂ k₂ rv st₂ lg => ?_
      refine lg _ _ _ fun s3' P₃ G₃ k₃ st₃ => ?_
      have kk : ∀ b o, b ∉ Xs → s'.heap.get? b = some o → s3'.heap.get? b = some o := fun b o hb e => k₃ b o hb (k₂ b o hb e)
      have eo : ∀ x, x ∈ C :: Da :: (Xs ++ [env.locals]) → x ∈ [C] ++ (Da :: (Xs ++ [env.locals])) := fun x hx => hx
      obtain ⟨g1, Pg, back⟩ := (P₃.perm (Y := [C] ++ (Da :: (Xs ++ [env.locals]))) fun x hx => hx).inner (by
        intro x hx
        simp only [List.mem_cons, List.mem_append, List.not_mem_nil, or_false] at hx ⊢
        rcases hx with rfl | hx | rfl
        · exact ⟨nCD.symm, tD⟩
        · exact ⟨fun e => nCX (e ▸ hx), tX x hx⟩
        · exact ⟨nCL.symm, R2.lt⟩)
      have ex3 := G₂.trans G₃
      have RR : Rep c (compEnvC scope cl C env) g1 ρ2 z2 σ' lc s3' :=
        ⟨Pg, ⟨mC, hmC.at' fun o e => kk _ o nCX e, nrc (X'.trans ex3.toExt)⟩, hnd, hkind, R2.glob, R2.bltn, tC⟩
      refine step C i vs[i] acc σ' (by simp [hlt]) hJ A g1 ρ2 z2 _ _ _ wv ok RR (rv.mono G₃.toExt) fun l3 σ3 ρ3 z3 s3 h3 R3 G3 => ?_
      refine h3 A g1 ρ3 z3 s3 _ _ ok R3 fun b σb ρb zb sb hb Rb Gb => ?_
      cases b with
      | false =>
        rw [if_neg (by simp)]
        obtain ⟨PB, GB, kO⟩ := back _ _ _ _ Rb.toRp (G3.trans Gb)
        have GT := (G'.trans ex3).trans GB
        obtain ⟨m4, hm4, _⟩ := Rb.ns
        exact ⟨vs.length + 1 - (i + 1), by omega, i + 1, acc, σb, ρb, zb, ws, n, rfl, hlt, by omega, PB, kO Da (by simp) _ (kk _ _ nDX hD), hVR.mono (ex3.trans GB).toExt, ⟨m4, hm4⟩, kO env.locals (by simp) _ (kk _ _ nLX hL), GT, X'.trans (ex3.trans GB).toExt,
          K.keep _ _ _ _ _ _ _ st₃ GB.toExt (fun x hx o e => kO x (by simp [hx]) o e) (fun p hp => (P₃.frz p hp).1) (fun p hp => (PB.frz p (GB.zz p hp)).1), hb.2 rfl⟩
      | true =>
        rw [if_pos rfl]
        refine hb.1 rfl A g1 ρb zb sb _ _ ok Rb fun u wu σ4 ρ4 z4 s4 h4 R4 G4' r4 => ?_
        obtain ⟨PB, GB, kO⟩ := back _ _ _ _ R4.toRp ((G3.trans Gb).trans G4')
        have hD4 : s4.heap.get? Da = some (listOf ws n) := kO Da (by simp) _ (kk _ _ nDX hD)
        have hVR4 := hVR.mono (ex3.trans GB).toExt
        have hws : ws.size ≤ sizeLine := by
          have := hVR.length
          simp only [Array.length_toList] at this
          rw [sizeLine_eq]; omega
        refine wpAny_list_append_plain ⟨n, hD4⟩ (fun h₅ hD5 hs5 => ?_) hws
        obtain ⟨n5, hD5⟩ := hD5
        have P5 : Rp c g (C :: Da :: (Xs ++ [env.locals])) ρ4 z4 σ4 { s4 with heap := h₅ } := PB.atX' (a := Da) (by simp) tD (fun b o hb e => (hs5.2 b hb).trans e) ⟨_, hD5⟩
        have G5 : Go g ρ4 z4 s4 ρ4 z4 { s4 with heap := h₅ } := ⟨Ext.refl .., fun b o e => by
          by_cases hb : b = Da
          · subst hb; exact ⟨_, hD5⟩
          · exact ⟨o, (hs5.2 b hb).trans e⟩, fun _ h => .inl h⟩
        have GT := (G'.trans ex3).trans (GB.trans G5)
        obtain ⟨m4, hm4, _⟩ := R4.ns
        refine ⟨vs.length + 1 - (i + 1), by omega, i + 1, acc ++ [u], σ4, ρ4, z4, ws.push wu, n5, rfl, hlt, by simp; omega, P5, hD5, ?_, ⟨m4, hm4.sameBut hs5 nCD⟩, ?_, GT, X'.trans (ex3.trans (GB.trans G5)).toExt, ?_, h4⟩
        · have := hVR4.append (.cons r4 .nil)
          simpa using this
        · exact (hs5.2 _ nDL.symm).trans (kO env.locals (by simp) _ (kk _ _ nLX hL))
        · refine K.keep _ _ _ _ _ _ _ st₃ GB.toExt (fun x hx o e => ?_) (fun p hp => (P₃.frz p hp).1) (fun p hp => (P5.frz p (GB.zz p hp)).1)
          exact (hs5.2 _ fun e => nDX (e ▸ hx)).trans (kO x (by simp [hx]) o e)
    · have hin : i = vs.length := by omega
      subst hin
      refine K.done g _ ρ' z' σ' s' _ _ P' hXX (jS _ _ _ hJ) st' fun s₁ kk e1 e2 e3 => ?_
      refine ⟨mC, hmC.at' fun o e => kk _ o nCX e, fun h₃ hs₃ => ?_⟩
      -- what is left is the frame and the list
      have kC : ∀ b o, b ≠ C → s₁.heap.get? b = some o → h₃.get? b = some o := fun b o hb e => (hs₃.2 b hb).trans e
      have P6 : Rp c g (Xs ++ [C, Da, env.locals]) ρ' z' σ' s' := P'.perm (by
        intro x hx
        simp only [List.mem_cons, List.mem_append, List.not_mem_nil, or_false] at hx ⊢
        rcases hx with h | h | h | h <;> simp [h])
      have P7 : Rp c g [C, Da, env.locals] ρ' z' σ' s₁ := P6.offXs (by
        intro x hx
        simp only [List.mem_append, List.mem_cons, List.not_mem_nil, or_false]
        rintro ((h | h | h) | h)
        · exact nCX (h ▸ hx)
        · exact nDX (h ▸ hx)
        · exact lX x hx h
        · exact tX x hx h) kk e1 e2 e3
      have P8 : Rp c g [Da, env.locals] ρ' z' σ' { s₁ with heap := h₃ } := P7.offI (s' := { s₁ with heap := h₃ }) (by
        simp only [List.mem_append, List.mem_cons, List.not_mem_nil, or_false]
        rintro ((h | h) | h)
        · exact nCD h
        · exact nCL h
        · exact tC h) kC
      obtain ⟨P9, G9, r9⟩ := P8.ownX (a := Da) (ws := ws.toList) (n := n) hVR (by
        simp only [List.mem_append, List.mem_cons, List.not_mem_nil, or_false]
        rintro (h | h)
        · exact nDL h
        · exact tD h) (by simpa using kC _ _ nCD.symm (kk _ _ nDX hD))
      have hL3 : h₃.get? env.locals = some oL := kC _ _ nCL.symm (kk _ _ nLX hL)
      have G8 : Go g ρ z s ρ' z' { s₁ with heap := h₃ } := ⟨G'.toExt, fun b o e => by
        obtain ⟨o1, e1⟩ := G2.dom b o e
        obtain ⟨o', e'⟩ := G'.dom b o e
        exact ⟨o', kC _ _ (fresh_ne (k23 _ _ e1) nC2) (kk _ _ (fun hb => by rw [nX0 b hb] at e; cases e) e')⟩, G'.fr⟩
      refine q _ _ _ _ _ _ (fin _ _ hJ) (R2.mk' P9 (X'.trans G9.toExt) fun m hm => ?_) (G8.trans G9) r9
      obtain ⟨o, es, ep, e, r⟩ := hm
      have : o = oL := Option.some.inj (e.symm.trans eL)
      subst this
      exact ⟨o, es, ep, hL3, r⟩
  exact codeAny_compStart_list (loop _) (K.self _ _ _ _ _ _ st1 (loop _))
end
end
section
open PySem PySem.W PyProof.Rows PySem.Calls
-- WHAT THE CALLER NO LONGER REACHES IS LET GO
mutual
def V.bl (n : Nat) : V → Prop
  | .ref i => i < n
  | .tup vs => V.blL n vs
  | .lst vs => V.blL n vs
  | .obj _ fs => V.blF n fs
  | .dct _ vs => V.blL n vs
  | .ntup _ vs => V.blL n vs
  | _ => True
def V.blL (n : Nat) : List V → Prop
  | [] => True
  | v :: vs => v.bl n ∧ V.blL n vs
def V.blF (n : Nat) : List (Nat × V) → Prop
  | [] => True
  | p :: vs => p.2.bl n ∧ V.blF n vs
end
def AO.bl (n : Nat) : AO → Prop
  | .dead => True
  | .list vs => V.blL n vs
  | .inst _ fs => V.blF n fs
  | .cell v => v.bl n
  | .dict _ vs => V.blL n vs
def Hp.bl (n : Nat) : Hp → Prop
  | [] => True
  | o :: σ => o.bl n ∧ Hp.bl n σ
mutual
theorem VR.cut {z : Led} {ρ ρ' : List Addr} : ∀ {v w}, VR z (ρ ++ ρ') v w → v.bl ρ.length → VR z ρ v w
  | _, _, .none, _ => .none
  | _, _, .bool b, _ => .bool b
  | _, _, .int i t, _ => .int i t
  | _, _, .bytes b t, _ => .bytes b t
  | _, _, .str x t, _ => .str x t
  | _, _, .val v, _ => .val v
  | _, _, .ref h, hb => .ref (by unfold V.bl at hb; rwa [List.getElem?_append_left hb] at h)
  | _, _, .rng h, _ => .rng h
  | _, _, .tup h l, hb => .tup h (VRL.cut' l (by unfold V.bl at hb; exact hb))
  | _, _, .lst h l, hb => .lst h (VRL.cut' l (by unfold V.bl at hb; exact hb))
  | _, _, .obj h h' l, hb => .obj h h' (ER.cut' l (by unfold V.bl at hb; exact hb))
  | _, _, .dct h m d l, hb => .dct h m d (VRL.cut' l (by unfold V.bl at hb; exact hb))
  | _, _, .ntup h h2 l, hb => .ntup h h2 (VRL.cut' l (by unfold V.bl at hb; exact hb))
theorem VRL.cut' {z : Led} {ρ ρ' : List Addr} : ∀ {v w}, VRL z (ρ ++ ρ') v w → V.blL ρ.length v → VRL z ρ v w
  | _, _, .nil, _ => .nil
  | _, _, .cons h l, hb => .cons (VR.cut h (by unfold V.blL at hb; exact hb.1)) (VRL.cut' l (by unfold V.blL at hb; exact hb.2))
theorem ER.cut' {z : Led} {ρ ρ' : List Addr} : ∀ {v w}, ER z (ρ ++ ρ') v w → V.blF ρ.length v → ER z ρ v w
  | _, _, .nil, _ => .nil
  | _, _, .cons h l, hb => .cons (VR.cut h (by unfold V.blF at hb; exact hb.1)) (ER.cut' l (by unfold V.blF at hb; exact hb.2))
end
theorem PR.cut {z : Led} {ρ ρ' : List Addr} {o a p} : PR z (ρ ++ ρ') o a p → o.bl ρ.length → PR z ρ o a p
  | .dead a, _ => .dead a
  | .list l, h => .list (l.cut' h)
  | .inst l, h => .inst (l.cut' h)
  | .cell r d, h => .cell (r.cut h) d
  | .cell0 d, _ => .cell0 d
  | .dict m d l, h => .dict m d (l.cut' h)
theorem SR.cut {z : Led} {ρ ρ' : List Addr} : ∀ {σ τ r l}, SR z (ρ ++ ρ') (σ ++ τ) r l → Hp.bl ρ.length σ → ∃ r1 r2 l1 l2, r = r1 ++ r2 ∧ l = l1 ++ l2 ∧ r1.length = σ.length ∧ SR z ρ σ r1 l1
  | [], τ, r, l, h, _ => ⟨[], r, [], l, rfl, rfl, rfl, .nil⟩
  | o :: σ, τ, _, _, .cons (a := a) (p := p) h hs, hb => by
    unfold Hp.bl at hb
    obtain ⟨r1, r2, l1, l2, rfl, rfl, e, s⟩ := SR.cut (σ := σ) (τ := τ) hs hb.2
    exact ⟨a :: r1, r2, p ++ l1, l2, rfl, by simp, by simp [e], .cons (h.cut hb.1) s⟩
theorem FC.gc {c : Cx} {D : Nat} {f : V} {args : List V} {kw : List (Str × V)} {σ : Hp} {Q : V → Hp → Prop}
    (h : FC c D f args kw σ fun v σ' => ∃ σ'' τ, σ' = σ'' ++ τ ∧ σ.length ≤ σ''.length ∧ v.bl σ''.length ∧ Hp.bl σ''.length σ'' ∧ Q v σ'') : FC c D f args kw σ Q := by
  intro A g ρ z s R wf ws kws ok P r1 r2 r3 q
  refine h A g ρ z s R wf ws kws ok P r1 r2 r3 fun v w σ' ρ' z' s' hq P' G' r' => ?_
  obtain ⟨σ'', τ, rfl, hle, hv, hb, hq⟩ := hq
  obtain ⟨led, sr, nd, d⟩ := P'.own
  have hlen : (σ'' ++ τ).length = ρ'.length := sr.length
  have hρ : ρ' = ρ'.take σ''.length ++ ρ'.drop σ''.length := (List.take_append_drop _ _).symm
  have ht : (ρ'.take σ''.length).length = σ''.length := by rw [List.length_take]; simp at hlen; omega
  have sr' : SR z' (ρ'.take σ''.length ++ ρ'.drop σ''.length) (σ'' ++ τ) ρ' led := by rw [← hρ]; exact sr
  obtain ⟨r1', r2', l1, l2, e1, rfl, e3, s1⟩ := sr'.cut (by rw [ht]; exact hb)
  have e4 : r1' = ρ'.take σ''.length := by
    rw [e1, ← e3]; simp
  rw [e4] at s1
  obtain ⟨led0, sr0, _⟩ := P.own
  have hl0 : σ.length = ρ.length := sr0.length
  refine q _ _ σ'' (ρ'.take σ''.length) z' s' hq ⟨P'.base, P'.keep, ⟨l1, s1, ?_, fun p hp => d p (List.mem_append_left _ hp)⟩, P'.frz, P'.off, P'.tabs, P'.os, P'.dr, P'.gens, P'.kz⟩
    ⟨⟨fun i a hi => ?_, G'.zz⟩, G'.dom, G'.fr⟩ ?_
  · rw [List.map_append, List.nodup_append] at nd; exact nd.1
  · have h1 := G'.r i a hi
    have h2 : i < ρ.length := (List.getElem?_eq_some_iff.mp hi).1
    rw [List.getElem?_take_of_lt (by omega)]; exact h1
  · have : VR z' (ρ'.take σ''.length ++ ρ'.drop σ''.length) v w := by rw [← hρ]; exact r'
    exact this.cut (by rw [ht]; exact hv)
theorem blL_ints {n : Nat} : ∀ {ns : List Int}, V.blL n (ns.map V.int)
  | [] => by simp [V.blL]
  | _ :: ns => by simp only [List.map_cons, V.blL]; exact ⟨by simp [V.bl], blL_ints⟩
mutual
theorem VR.isbl {z : Led} {ρ : List Addr} : ∀ {v w}, VR z ρ v w → v.bl ρ.length
  | _, _, .none => by simp [V.bl]
  | _, _, .bool b => by simp [V.bl]
  | _, _, .int i t => by simp [V.bl]
  | _, _, .bytes b t => by simp [V.bl]
  | _, _, .str x t => by simp [V.bl]
  | _, _, .val v => by simp [V.bl]
  | _, _, .ref h => by unfold V.bl; exact (List.getElem?_eq_some_iff.mp h).1
  | _, _, .rng h => by simp [V.bl]
  | _, _, .tup h l => by unfold V.bl; exact VRL.isbl l
  | _, _, .lst h l => by unfold V.bl; exact VRL.isbl l
  | _, _, .obj h h' l => by unfold V.bl; exact ER.isbl l
  | _, _, .dct h m d l => by unfold V.bl; exact VRL.isbl l
  | _, _, .ntup h _ l => by unfold V.bl; exact VRL.isbl l
theorem VRL.isbl {z : Led} {ρ : List Addr} : ∀ {v w}, VRL z ρ v w → V.blL ρ.length v
  | _, _, .nil => by simp [V.blL]
  | _, _, .cons h l => by unfold V.blL; exact ⟨VR.isbl h, VRL.isbl l⟩
theorem ER.isbl {z : Led} {ρ : List Addr} : ∀ {v w}, ER z ρ v w → V.blF ρ.length v
  | _, _, .nil => by simp [V.blF]
  | _, _, .cons h l => by unfold V.blF; exact ⟨VR.isbl h, ER.isbl l⟩
end
theorem PR.isbl {z : Led} {ρ : List Addr} {o a p} : PR z ρ o a p → o.bl ρ.length
  | .dead a => by simp [AO.bl]
  | .list l => l.isbl
  | .inst l => l.isbl
  | .cell r d => r.isbl
  | .cell0 d => by simp [AO.bl, V.bl]
  | .dict m d l => l.isbl
theorem SR.isbl {z : Led} {R : List Addr} : ∀ {σ r l}, SR z R σ r l → Hp.bl R.length σ
  | _, _, _, .nil => by simp [Hp.bl]
  | _, _, _, .cons h l => by unfold Hp.bl; exact ⟨h.isbl, l.isbl⟩
/-- the heap and the arguments of a call are whole -/
theorem FC.wf {c : Cx} {D : Nat} {f : V} {args : List V} {kw : List (Str × V)} {σ : Hp} {Q : V → Hp → Prop} (h : Hp.bl σ.length σ → V.blL σ.length args → FC c D f args kw σ Q) : FC c D f args kw σ Q := by
  intro A g ρ z s R wf ws kws ok P r1 r2 r3 q
  obtain ⟨led, sr, _⟩ := P.own
  have e : σ.length = ρ.length := sr.length
  exact h (by rw [e]; exact sr.isbl) (by rw [e]; exact r2.isbl) A g ρ z s R wf ws kws ok P r1 r2 r3 q
end
section
open PySem PySem.W PyProof.Rows PySem.Calls PySem.Builtin
set_option maxRecDepth 100000
/-- len of an object, by its class's own def -/
theorem len_inst {prog : Program} {w : World} {A : Around} {E : Value → Shared → Prop} {s : Shared} {K : Frag} {x C f : Addr} {ox : Obj} {od : Option Obj} {Q : Value → Shared → Prop} (X : K.In s.heap) (I : InstAt s.heap x ox C od)
    (hs : findIn K (.ref C) "__len__" = some (some (.ref f))) (hf : isFn K (.ref f) = true) (h : wpAny (model prog w) A.in1 (call (.ref f) [.ref x]) (PySem.W.LenBack Q) E s) : wpAny (model prog w) A (call (.builtin "len") [.ref x]) Q E s := by
  refine Calls.call_function_entry kind_len plain_len entry_len (args_len1 _) ?_
  unfold Builtin.«len»
  refine wpAny_bind (m := oneArg "len" _) (wpAny_pure ?_)
  refine wpAny_bind (m := callSpecial? (.ref x) (Str.ofString "__len__")) (special_fn X I hs (beq_iff_eq.mp hf) (wpAny_mono h (fun r s' hr => ?_) fun _ _ y => y))
  unfold PySem.W.LenBack at hr
  split at hr
  · rename_i n u
    obtain ⟨⟨h0, h1⟩, hq⟩ := hr
    refine wpAny_bind (wpAny_holding (wpAny_pure ?_))
    refine wpAny_bind (wpAny_letGo ?_)
    show wpAny _ _ (if n < 0 then _ else _) _ _ _
    rw [if_neg (by omega)]
    show wpAny _ _ (if n ≥ 2 ^ 63 then _ else _) _ _ _
    rw [if_neg (by omega)]
    exact wpAny_bind (wpAny_mkInt (wpAny_pure ⟨_, rfl, hq⟩))
  · exact hr.elim
section
variable {c : Cx} {D : Nat} {σ : Hp} {Q : V → Hp → Prop}
theorem fn_len_raw {v : V} {C f : Addr} (hI : ∀ (g : Heap) (ρ : List Addr) (z : Led) (s : Shared) (w : Value), Rp c g [] ρ z σ s → VR z ρ v w → ∃ x ox od, w = .ref x ∧ InstAt s.heap x ox C od)
    (hs : findIn c.K (.ref C) "__len__" = some (some (.ref f))) (hf : isFn c.K (.ref f) = true) (h : FC c D (.val (.ref f)) [v] [] σ fun r σ' => ∃ n, r = .int n ∧ 0 ≤ n ∧ n < 2 ^ 63 ∧ Q (.int n) σ') : FN c (D + 1) (.val (.builtin "len")) [v] [] σ Q := by
  intro A g ρ z s Q' E' wf ws kws ok R rf rl rk q
  cases rf
  cases rl with
  | cons r rn =>
  cases rn
  cases rk
  obtain ⟨x, ox, od, rfl, I⟩ := hI g ρ z s _ R r
  have ok' : Ok A.in1 D := ⟨ok.h, by have := ok.d; show A.depth + 3 * D + 3 < _; omega, by have := ok.u; show A.units + 1 + 20 * D + 20 < _; omega⟩
  refine len_inst (R.base.X.keeps R.keep) I hs hf ?_
  refine h.fn A.in1 g ρ z s _ _ (.ref f) [.ref x] [] ok' R (.val _) (.cons r .nil) .nil fun v w σ' ρ' z' s' hq R' G' r' => ?_
  obtain ⟨n, rfl, h0, h1, hq⟩ := hq
  cases r'
  exact ⟨⟨h0, h1⟩, q _ _ _ _ _ _ hq (R'.toks _) (G'.trans (Go.toks ..)) (.int _ _)⟩
theorem fn_len_inst {i : Nat} {C f : Addr} {fs : List (Nat × V)} (hi : σ[i]? = some (.inst C fs)) (hs : findIn c.K (.ref C) "__len__" = some (some (.ref f))) (hf : isFn c.K (.ref f) = true)
    (h : FC c D (.val (.ref f)) [.ref i] [] σ fun r σ' => ∃ n, r = .int n ∧ 0 ≤ n ∧ n < 2 ^ 63 ∧ Q (.int n) σ') : FN c (D + 1) (.val (.builtin "len")) [.ref i] [] σ Q :=
  fn_len_raw (fun g ρ z s w R r => by
    cases r with
    | ref hr =>
      obtain ⟨x', p, h1, h2, h3⟩ := R.at hi
      rw [hr] at h1; cases h1
      obtain ⟨dx, sl, es, n, rfl, hE⟩ := h2.inst_inv
      exact ⟨_, ⟨.ref C, some dx, .plain, sl⟩, some (dictOf es n), rfl, ⟨(h3 _ (.head _)).1, rfl, rfl, (h3 _ (.tail _ (.head _))).1⟩⟩) hs hf h
theorem fn_len_obj {C f : Addr} {fs : List (Nat × V)} (hs : findIn c.K (.ref C) "__len__" = some (some (.ref f))) (hf : isFn c.K (.ref f) = true)
    (h : FC c D (.val (.ref f)) [.obj C fs] [] σ fun r σ' => ∃ n, r = .int n ∧ 0 ≤ n ∧ n < 2 ^ 63 ∧ Q (.int n) σ') : FN c (D + 1) (.val (.builtin "len")) [.obj C fs] [] σ Q :=
  fn_len_raw (fun g ρ z s w R r => by
    cases r with
    | obj hx hdx hE => exact ⟨_, _, _, rfl, InstAt.mk (od := some (dictOf _ _)) (R.frz _ hx).1 rfl rfl (R.frz _ hdx).1⟩) hs hf h
end
end
section
open PySem PySem.W PyProof.Rows PySem.Calls

/-- what a class says of a name -/
inductive CA where
  | bad | no | val (v : V) | meth (f : Addr) | prop (g s : Addr) | tg (i : Nat)

/-- what a walk is run with -/
structure Ex where
  c : Cx
  D : Nat
  cls : Addr → Nat → CA
  pur : Addr → List V → Option V
  kv : Addr → Option V
  run : Bool

def CAok (c : Cx) (C : Addr) (k : Nat) : CA → Prop
  | .bad => True
  | .no => ClsR c C (nm k) ∧ ClsW c C ∧ (∃ a, findIn c.K (.ref C) (nm k) = some a ∧ noGet c.K a = true) ∧ takerIn c.K C (nm k) = some none
  | .val v => ClsR c C (nm k) ∧ ClsW c C ∧ takerIn c.K C (nm k) = some none ∧ ∃ a, absV a = v ∧ findIn c.K (.ref C) (nm k) = some (some a) ∧ specialIn c.K a "__get__" = some none ∧ handedIn a = true ∧ copiedNames.contains (nm k) = false ∧ noGet c.K (some a) = true
  | .meth f => ClsR c C (nm k) ∧ findIn c.K (.ref C) (nm k) = some (some (.ref f)) ∧ isFn c.K (.ref f) = true ∧ keepIn c.K (.ref f) = true
  | .prop g s => ClsR c C (nm k) ∧ ClsW c C ∧ ∃ p rest, findIn c.K (.ref C) (nm k) = some (some (.ref p)) ∧ specialIn c.K (.ref p) "__get__" = some (some (.builtin "property.__get__")) ∧ takesIn c.K (.ref p) = some true ∧
      recIn c.K p "property" = some (.ref g :: .ref s :: rest) ∧ takerIn c.K C (nm k) = some (some (.ref p)) ∧ typeIn c.K (.ref p) = some (.type "property")
  | .tg _ => False

structure XOk (X : Ex) : Prop where
  cls : ∀ C k, CAok X.c C k (X.cls C k)
  pur : ∀ f args v, X.pur f args = some v → ∀ σ Q, Q v σ → FC X.c X.D (.val (.ref f)) args [] σ Q
  kv : ∀ a v, X.kv a = some v → ∀ (z : Led) (ρ : List Addr), (∀ p ∈ X.c.kz, p ∈ z) → VR z ρ v (.ref a)

abbrev WE := Ex → List V → Hp → (V → Hp → Prop) → Prop
abbrev WB := Ex → List V → Hp → (Bool → Hp → Prop) → Prop
abbrev WX := Ex → List V → Hp → (Fl → List V → Hp → Prop) → Prop
abbrev WA := Ex → V → List V → Hp → (List V → Hp → Prop) → Prop
abbrev WL := Ex → List V → Hp → (List V → Hp → Prop) → Prop
abbrev WK := Ex → List V → Hp → (List (Str × V) → Hp → Prop) → Prop

-- WHAT THE WALK STOPS AT
/-- a condition -/
@[irreducible] def chk (P : Prop) [d : Decidable P] (K : Prop) : Prop := match d with | .isTrue _ => K | .isFalse _ => False
theorem chk_of {P : Prop} {d : Decidable P} {K : Prop} (h : P) (k : K) : chk P K := by
  unfold chk; cases d with
  | isTrue _ => exact k
  | isFalse n => exact absurd h n
theorem of_chk {P : Prop} {d : Decidable P} {K : Prop} (h : chk P K) : P ∧ K := by
  unfold chk at h; cases d with
  | isTrue p => exact ⟨p, h⟩
  | isFalse n => exact h.elim
/-- a fork -/
@[irreducible] def br (b : Bool) (P P' : Prop) : Prop := match b with | true => P | false => P'
theorem br_t {b : Bool} {P P' : Prop} (h : b = true) (p : P) : br b P P' := by subst h; unfold br; exact p
theorem br_f {b : Bool} {P P' : Prop} (h : b = false) (p : P') : br b P P' := by subst h; unfold br; exact p
theorem br_both {b : Bool} {P P' : Prop} (h : b = true → P) (h' : b = false → P') : br b P P' := by cases b; exact br_f rfl (h' rfl); exact br_t rfl (h rfl)
theorem of_br {b : Bool} {P P' : Prop} (h : br b P P') : (b = true → P) ∧ (b = false → P') := by
  unfold br at h; cases b
  · exact ⟨fun e => (nomatch e), fun _ => h⟩
  · exact ⟨fun _ => h, fun e => (nomatch e)⟩
/-- an object of the heap -/
@[irreducible] def getO (σ : Hp) (i : Nat) (K : AO → Prop) : Prop := match σ[i]? with | some o => K o | none => False
theorem getO_of {σ : Hp} {i : Nat} {o : AO} {K : AO → Prop} (h : σ[i]? = some o) (k : K o) : getO σ i K := by unfold getO; rw [h]; exact k
theorem of_getO {σ : Hp} {i : Nat} {K : AO → Prop} (h : getO σ i K) : ∃ o, σ[i]? = some o ∧ K o := by
  unfold getO at h; split at h
  · rename_i o e; exact ⟨o, e, h⟩
  · exact h.elim
/-- an item -/
@[irreducible] def getV (vs : List V) (i : Nat) (K : V → Prop) : Prop := match vs[i]? with | some v => K v | none => False
theorem getV_of {vs : List V} {i : Nat} {v : V} {K : V → Prop} (h : vs[i]? = some v) (k : K v) : getV vs i K := by unfold getV; rw [h]; exact k
theorem of_getV {vs : List V} {i : Nat} {K : V → Prop} (h : getV vs i K) : ∃ v, vs[i]? = some v ∧ K v := by
  unfold getV at h; split at h
  · rename_i o e; exact ⟨o, e, h⟩
  · exact h.elim

-- LOCALS
def nth : List V → Nat → V
  | [], _ => .unb
  | v :: _, 0 => v
  | _ :: r, i + 1 => nth r i
def updK : List V → Nat → V → (List V → Prop) → Prop
  | [], _, _, _ => hi False
  | _ :: r, 0, v, K => hi (K (v :: r))
  | u :: r, i + 1, v, K => hi (updK r i v fun r' => K (u :: r'))
theorem updK_set : ∀ {l : List V} {i : Nat} {v : V} {K : List V → Prop}, updK l i v K → i < l.length ∧ K (l.set i v)
  | [], _, _, _, h => h.elim
  | _ :: r, 0, v, K, h => ⟨by simp, h⟩
  | u :: r, i + 1, v, K, h => by
    obtain ⟨a, b⟩ := updK_set (l := r) (K := fun r' => K (u :: r')) h
    exact ⟨by simpa using a, by simpa using b⟩
inductive At {α : Type} : List α → Nat → α → Prop
  | hd {x r} : At (x :: r) 0 x
  | tl {x y r i} : At r i x → At (y :: r) (i + 1) x
theorem zip_nth : ∀ {ns : List Str} {l : List V} {i : Nat} {x : Str}, At ns i x → l.length = ns.length → (x, nth l i) ∈ ns.zip l
  | _, [], _, _, .hd, e => by simp at e
  | _, v :: l, _, _, .hd, _ => by simp [nth]
  | _, [], _, _, .tl _, e => by simp at e
  | _, v :: l, _, _, .tl h, e => by
    simp only [List.zip_cons_cons, nth]
    exact .tail _ (zip_nth h (by simpa using e))
theorem zip_up : ∀ {ns : List Str} {l : List V} {i : Nat} {x : Str} (v : V), At ns i x → l.length = ns.length → Up x v (ns.zip l) (ns.zip (l.set i v))
  | _, [], _, _, _, .hd, e => by simp at e
  | _, u :: l, _, _, _, .hd, _ => by simp only [List.zip_cons_cons, List.set_cons_zero]; exact .hd
  | _, [], _, _, _, .tl _, e => by simp at e
  | _, u :: l, _, _, v, .tl h, e => by
    simp only [List.zip_cons_cons, List.set_cons_succ]
    exact .tl (zip_up v h (by simpa using e))

-- THE TRANSLATION
def CE (c : Cx) (env : Env) (ns : List Str) (e : Expr) (w : WE) : Prop :=
  ∀ X : Ex, X.c = c → XOk X → ∀ l σ Q, l.length = ns.length → w X l σ Q → EV c env X.D (eval e env) (ns.zip l) σ Q
def CB (c : Cx) (env : Env) (ns : List Str) (e : Expr) (w : WB) : Prop :=
  ∀ X : Ex, X.c = c → XOk X → ∀ l σ Q, l.length = ns.length → w X l σ Q → EB c env X.D (isTrue e env (eval e env)) (ns.zip l) σ Q
def CBs (c : Cx) (env : Env) (ns : List Str) (op : BoolOp) (es : List Expr) (w : WB) : Prop :=
  ∀ X : Ex, X.c = c → XOk X → ∀ l σ Q, l.length = ns.length → w X l σ Q → EB c env X.D (allTrue op es env) (ns.zip l) σ Q
def QX (ns : List Str) (Q : Fl → List V → Hp → Prop) : Fl → Loc → Hp → Prop := fun f L τ => ∃ l', l'.length = ns.length ∧ L = ns.zip l' ∧ Q f l' τ
def QA (ns : List Str) (Q : List V → Hp → Prop) : Loc → Hp → Prop := fun L τ => ∃ l', l'.length = ns.length ∧ L = ns.zip l' ∧ Q l' τ
def CX (c : Cx) (env : Env) (ns : List Str) (s : Stmt) (w : WX) : Prop :=
  ∀ X : Ex, X.c = c → XOk X → ∀ l σ Q, l.length = ns.length → w X l σ Q → EX c env X.D (exec s env) (ns.zip l) σ (QX ns Q)
def CXs (c : Cx) (env : Env) (ns : List Str) (s : List Stmt) (w : WX) : Prop :=
  ∀ X : Ex, X.c = c → XOk X → ∀ l σ Q, l.length = ns.length → w X l σ Q → EX c env X.D (execs s env) (ns.zip l) σ (QX ns Q)
def CAs (c : Cx) (env : Env) (ns : List Str) (t : Expr) (w : WA) : Prop :=
  ∀ X : Ex, X.c = c → XOk X → ∀ v l σ Q, l.length = ns.length → w X v l σ Q → EA c env X.D t v (ns.zip l) σ (QA ns Q)
def CL (c : Cx) (env : Env) (ns : List Str) (pos : Pos) (es : List Expr) (w : WL) : Prop :=
  (backTo pos (starEach es env)).any (·.1) = false ∧ ∀ X : Ex, X.c = c → XOk X → ∀ l σ Q, l.length = ns.length → w X l σ Q → EL c env X.D pos es (ns.zip l) σ Q
def CK (c : Cx) (env : Env) (ns : List Str) (pos : Pos) (es : List Keyword) (w : WK) : Prop :=
  (backToKw pos (keywordEach es env)).all (·.1.isSome) = true ∧ ∀ X : Ex, X.c = c → XOk X → ∀ l σ Q, l.length = ns.length → w X l σ Q → EK c env X.D pos es (ns.zip l) σ Q

section mono
variable {c : Cx} {env : Env} {D : Nat} {l : Loc} {σ : Hp}
theorem EL.mono {pos : Pos} {es : List Expr} {Q Q' : List V → Hp → Prop} (h : EL c env D pos es l σ Q) (k : ∀ v σ', Q v σ' → Q' v σ') : EL c env D pos es l σ Q' :=
  ⟨h.1, fun A g ρ z s Q₁ E₁ ok R q => h.2 A g ρ z s Q₁ E₁ ok R fun v w σ' ρ' z' s' hq => q v w σ' ρ' z' s' (k _ _ hq)⟩
theorem EK.mono {pos : Pos} {es : List Keyword} {Q Q' : List (Str × V) → Hp → Prop} (h : EK c env D pos es l σ Q) (k : ∀ v σ', Q v σ' → Q' v σ') : EK c env D pos es l σ Q' :=
  ⟨h.1, fun A g ρ z s Q₁ E₁ ok R q => h.2 A g ρ z s Q₁ E₁ ok R fun v w σ' ρ' z' s' hq => q v w σ' ρ' z' s' (k _ _ hq)⟩
theorem EA.mono {t : Expr} {v : V} {Q Q' : Loc → Hp → Prop} (h : EA c env D t v l σ Q) (k : ∀ l' σ', Q l' σ' → Q' l' σ') : EA c env D t v l σ Q' :=
  fun A g ρ z s Q₁ E₁ w ok R r q => h A g ρ z s Q₁ E₁ w ok R r fun l' σ' ρ' z' s' hq => q l' σ' ρ' z' s' (k _ _ hq)
end mono

section
variable {c : Cx} {env : Env} {ns : List Str} {pos : Pos}

-- NAMES, CONSTANTS
def plK (v : V) (K : V → Prop) : Prop := hi (match v.plain with
  | true => K v
  | false => False)
theorem of_plK {v : V} {K : V → Prop} (h : plK v K) : v.plain = true ∧ K v := by
  unfold plK at h; split at h
  · exact ⟨by assumption, h⟩
  · exact h.elim
def locW (i : Nat) : WE := fun X l σ Q => plK (nth l i) fun v => Q v σ
theorem ce_loc {x : Str} {i : Nat} (h : At ns i x) (hd : (x == ("__debug__" : Str)) = false := by decide +kernel) : CE c env ns (.Name x pos) (locW i) :=
  fun X hc ok l σ Q hl h1 => ev_name (zip_nth h hl) (of_plK h1).1 (of_plK h1).2 hd
def celO (σ : Hp) (Q : V → Hp → Prop) : AO → Prop
  | .cell v => plK v fun v => Q v σ
  | _ => False
def celW (i : Nat) : WE := fun X l σ Q => match nth l i with
  | .cell j => getO σ j (celO σ Q)
  | _ => False
theorem ce_cell {x : Str} {i : Nat} (h : At ns i x) (hd : (x == ("__debug__" : Str)) = false := by decide +kernel) (hc : (x == ("__classdict__" : Str)) = false := by decide +kernel) : CE c env ns (.Name x pos) (celW i) := by
  intro X _ ok l σ Q hl h1
  have hm := zip_nth h hl
  unfold celW at h1
  split at h1
  · rename_i j e
    obtain ⟨o, ho, h2⟩ := of_getO h1
    unfold celO at h2
    split at h2
    · rw [e] at hm
      exact ev_cell hm ho (of_plK h2).1 (of_plK h2).2 hd hc
    · exact h2.elim
  · exact h1.elim
def cstW (v : V) : WE := fun X l σ Q => Q v σ
theorem ce_int {i : Int} {k : Nat} : CE c env ns (.Constant (.int i) k pos) (cstW (.int i)) := fun X _ _ l σ Q _ h => ev_int h
theorem ce_none {k : Nat} : CE c env ns (.Constant .none k pos) (cstW .none) := fun X _ _ l σ Q _ h => ev_none h
theorem ce_bool {b : Bool} {k : Nat} : CE c env ns (.Constant (.bool b) k pos) (cstW (.bool b)) := fun X _ _ l σ Q _ h => ev_bool h
theorem ce_str {x : Str} {k : Nat} : CE c env ns (.Constant (.str x) k pos) (cstW (.str x)) := fun X _ _ l σ Q _ h => ev_str h
theorem ce_bytes {b : List UInt8} {k : Nat} : CE c env ns (.Constant (.bytes b) k pos) (cstW (.bytes b)) := fun X _ _ l σ Q _ h => ev_bytes h
theorem ce_globK {x : Str} {w : Value} {v : V} (n : Nat) (e : nsIn c.K mainGlobals x = some (some w)) (hv : kvOf c.kz n w = v) (hx : env.kindOf x = some .globalImplicit := by kernel_rfl) (hd : (x == ("__debug__" : Str)) = false := by decide +kernel) :
    CE c env ns (.Name x pos) (cstW v) := fun X _ _ l σ Q _ h => ev_globK n e hv h hx hd

-- OPERATORS
def lsO (v : V) (σ : Hp) (K : List V → Prop) : Prop := match v with
  | .lst vs => K vs
  | .ref i => getO σ i fun o => match o with | .list vs => K vs | _ => False
  | _ => False
theorem of_lsO {v : V} {σ : Hp} {K : List V → Prop} (h : lsO v σ K) : ∃ vs, LsOf σ v vs ∧ K vs := by
  unfold lsO at h
  split at h
  · exact ⟨_, .lst, h⟩
  · obtain ⟨o, ho, h2⟩ := of_getO h
    split at h2
    · exact ⟨_, .own ho, h2⟩
    · exact h2.elim
  · exact h.elim
def newL (X : Ex) (vs : List V) (σ : Hp) (Q : V → Hp → Prop) : Prop := chk (vs.length ≤ 1000000) (Q (.ref σ.length) (σ ++ [.list vs]))
def opAdd (X : Ex) (a b : V) (σ : Hp) (Q : V → Hp → Prop) : Prop := match a with
  | .int a => match b with | .int b => Q (.int (a + b)) σ | _ => False
  | .lst vs => lsO b σ fun us => chk (vs.length + us.length ≤ 1000000) (Q (.ref σ.length) (σ ++ [.list (vs ++ us)]))
  | .ref i => lsO (.ref i) σ fun vs => lsO b σ fun us => chk (vs.length + us.length ≤ 1000000) (Q (.ref σ.length) (σ ++ [.list (vs ++ us)]))
  | _ => False
def decMul (a b : Int) : Decidable (IntMulOk a b) := by unfold IntMulOk; infer_instance
def opMul (X : Ex) (a b : V) (σ : Hp) (Q : V → Hp → Prop) : Prop := match b with
  | .int k => match a with
    | .int a => chk (d := decMul a k) (IntMulOk a k) (Q (.int (a * k)) σ)
    | v => lsO v σ fun vs => chk (-1000000 ≤ k ∧ k ≤ 1000000 ∧ vs.length * k.toNat ≤ 1000000) (Q (.ref σ.length) (σ ++ [.list (List.replicate k.toNat vs).flatten]))
  | _ => False
def intsO (a b : V) (K : Int → Int → Prop) : Prop := hi (match a with
  | .int a => match b with | .int b => K a b | _ => False
  | _ => False)
theorem of_intsO {a b : V} {K : Int → Int → Prop} (h : intsO a b K) : ∃ i j, a = .int i ∧ b = .int j ∧ K i j := by
  unfold intsO at h
  split at h
  · split at h
    · exact ⟨_, _, rfl, rfl, h⟩
    · exact h.elim
  · exact h.elim
def opBin (X : Ex) (op : Operator) (a b : V) (σ : Hp) (Q : V → Hp → Prop) : Prop := match op with
  | .Add => opAdd X a b σ Q
  | .Mult => opMul X a b σ Q
  | .Sub => intsO a b fun a b => Q (.int (a - b)) σ
  | .FloorDiv => intsO a b fun a b => chk (b ≠ 0 ∧ Builtin.divisionGoesByPylong a b = false) (Q (.int (a.fdiv b)) σ)
  | .Mod => intsO a b fun a b => chk (b ≠ 0) (Q (.int (a.fmod b)) σ)
  | .BitAnd => intsO a b fun a b => Q (.int (Builtin.bitAnd a b)) σ
  | .BitOr => intsO a b fun a b => Q (.int (Builtin.bitOr a b)) σ
  | .BitXor => intsO a b fun a b => Q (.int (Builtin.bitXor a b)) σ
  | .RShift => intsO a b fun a b => chk (0 ≤ b) (Q (.int (a.fdiv (2 ^ b.toNat))) σ)
  | .LShift => intsO a b fun a b => chk (0 ≤ b ∧ b ≤ 1000000 ∧ a.natAbs < 2 ^ 64) (Q (.int (a * 2 ^ b.toNat)) σ)
  | .Pow => intsO a b fun a b => chk (0 ≤ b ∧ b ≤ 1000000 ∧ a.natAbs < 2 ^ 64) (Q (.int (a ^ b.toNat)) σ)
  | _ => False
theorem opBin_ok {X : Ex} {op : Operator} {a b : V} {l : Loc} {σ : Hp} {Q : V → Hp → Prop} (h : opBin X op a b σ Q) : EV2 X.c env X.D a b (binaryOp op) l σ Q := by
  unfold opBin at h
  split at h
  · unfold opAdd at h
    split at h
    · split at h
      · exact ev_add h
      · exact h.elim
    · obtain ⟨us, hu, h2⟩ := of_lsO h
      exact ev_addL .lst hu (of_chk h2).1 (of_chk h2).2
    · obtain ⟨vs, hv, h1⟩ := of_lsO h
      obtain ⟨us, hu, h2⟩ := of_lsO h1
      exact ev_addL hv hu (of_chk h2).1 (of_chk h2).2
    · exact h.elim
  · unfold opMul at h
    split at h
    · split at h
      · exact ev_mul (of_chk h).1 (of_chk h).2
      · obtain ⟨vs, hv, h1⟩ := of_lsO h
        obtain ⟨⟨k0, k1, k2⟩, h2⟩ := of_chk h1
        exact ev_mulL hv k0 k1 k2 h2
    · exact h.elim
  · obtain ⟨i, j, rfl, rfl, h⟩ := of_intsO h
    exact ev_sub h
  · obtain ⟨i, j, rfl, rfl, h⟩ := of_intsO h
    exact ev_fdiv (of_chk h).1.1 (of_chk h).1.2 (of_chk h).2
  · obtain ⟨i, j, rfl, rfl, h⟩ := of_intsO h
    exact ev_fmod (of_chk h).1 (of_chk h).2
  · obtain ⟨i, j, rfl, rfl, h⟩ := of_intsO h
    exact ev_band h
  · obtain ⟨i, j, rfl, rfl, h⟩ := of_intsO h
    exact ev_bor h
  · obtain ⟨i, j, rfl, rfl, h⟩ := of_intsO h
    exact ev_bxor h
  · obtain ⟨i, j, rfl, rfl, h⟩ := of_intsO h
    exact ev_shr (of_chk h).1 (of_chk h).2
  · obtain ⟨i, j, rfl, rfl, h⟩ := of_intsO h
    obtain ⟨⟨k0, k1, k2⟩, h2⟩ := of_chk h
    exact ev_shl k0 k1 k2 h2
  · obtain ⟨i, j, rfl, rfl, h⟩ := of_intsO h
    obtain ⟨⟨k0, k1, k2⟩, h2⟩ := of_chk h
    exact ev_pow k0 k1 k2 h2
  · exact h.elim
def opInp (X : Ex) (op : Operator) (a b : V) (σ : Hp) (Q : V → Hp → Prop) : Prop := match op with
  | .Add => intsO a b fun a b => Q (.int (a + b)) σ
  | .Sub => intsO a b fun a b => Q (.int (a - b)) σ
  | .BitOr => intsO a b fun a b => Q (.int (Builtin.bitOr a b)) σ
  | .BitXor => intsO a b fun a b => Q (.int (Builtin.bitXor a b)) σ
  | .RShift => intsO a b fun a b => chk (0 ≤ b) (Q (.int (a.fdiv (2 ^ b.toNat))) σ)
  | _ => False
theorem opInp_ok {X : Ex} {op : Operator} {a b : V} {l : Loc} {σ : Hp} {Q : V → Hp → Prop} (h : opInp X op a b σ Q) : EV2 X.c env X.D a b (inplaceOp op) l σ Q := by
  unfold opInp at h
  split at h
  · obtain ⟨i, j, rfl, rfl, h⟩ := of_intsO h
    exact ev_iadd h
  · obtain ⟨i, j, rfl, rfl, h⟩ := of_intsO h
    exact ev_isub h
  · obtain ⟨i, j, rfl, rfl, h⟩ := of_intsO h
    exact ev_ibor h
  · obtain ⟨i, j, rfl, rfl, h⟩ := of_intsO h
    exact ev_ibxor h
  · obtain ⟨i, j, rfl, rfl, h⟩ := of_intsO h
    exact ev_ishr (of_chk h).1 (of_chk h).2
  · exact h.elim
def binW (op : Operator) (wa wb : WE) : WE := fun X l σ Q => wa X l σ fun va σ₁ => wb X l σ₁ fun vb σ₂ => opBin X op va vb σ₂ Q
end
end
section
open PySem PySem.W PyProof.Rows PySem.Calls

-- A MODULE's TABLE STANDS FOR ITS ADDRESS
def Co (X : Ex) (v u : V) : Prop := ∀ (z : Led) (ρ : List Addr) (w : Value), (∀ p ∈ X.c.kz, p ∈ z) → VR z ρ v w → VR z ρ u w
theorem Co.refl (X : Ex) (v : V) : Co X v v := fun _ _ _ _ h => h
def kvN (X : Ex) (v : V) (K : V → Prop) : Prop := hi (match v with
  | .val w => match w with
    | .ref a => match X.kv a with | some u => K u | none => K (.val (.ref a))
    | w => K (.val w)
  | v => K v)
theorem of_kvN {X : Ex} (ok : XOk X) {v : V} {K : V → Prop} (h : kvN X v K) : ∃ u, Co X v u ∧ K u := by
  unfold kvN at h
  split at h
  · split at h
    · split at h
      · rename_i a _ u e
        exact ⟨u, fun z ρ w hz r => by cases r; exact ok.kv _ _ e z ρ hz, h⟩
      · exact ⟨_, Co.refl _ _, h⟩
    · exact ⟨_, Co.refl _ _, h⟩
  · exact ⟨_, Co.refl _ _, h⟩
section
variable {X : Ex} {env : Env} {l : Loc} {σ : Hp} {Q : V → Hp → Prop}
theorem Co.ev2 {v u b : V} {f : Value → Value → Sem Value} (k : Co X v u) (h : EV2 X.c env X.D u b f l σ Q) : EV2 X.c env X.D v b f l σ Q :=
  fun A g ρ z s Q' E' w₁ w₂ ok R r₁ r₂ q => h A g ρ z s Q' E' w₁ w₂ ok R (k _ _ _ R.kz r₁) r₂ q
theorem Co.ev2r {v u b : V} {f : Value → Value → Sem Value} (k : Co X v u) (h : EV2 X.c env X.D b u f l σ Q) : EV2 X.c env X.D b v f l σ Q :=
  fun A g ρ z s Q' E' w₁ w₂ ok R r₁ r₂ q => h A g ρ z s Q' E' w₁ w₂ ok R r₁ (k _ _ _ R.kz r₂) q
theorem Co.et {v u : V} {QB : Bool → Hp → Prop} (k : Co X v u) (h : ET X.c env X.D u l σ QB) : ET X.c env X.D v l σ QB :=
  fun A g ρ z s Q' E' w ok R r q => h A g ρ z s Q' E' w ok R (k _ _ _ R.kz r) q
theorem Co.es {v u : V} {lo hi : Option Int} (k : Co X v u) (h : ES X.c env X.D u lo hi l σ Q) : ES X.c env X.D v lo hi l σ Q :=
  fun A g ρ z s Q' E' w wl wu sl ok R r pl pu hs q => h A g ρ z s Q' E' w wl wu sl ok R (k _ _ _ R.kz r) pl pu hs q
theorem Co.iter {v u : V} {vs : List V} {Sg : Hp → Prop} (k : Co X v u) (h : Iterable X.c u vs Sg) : Iterable X.c v vs Sg :=
  fun A g Xs ρ z σ s Q' E' w hA R hs r q => h A g Xs ρ z σ s Q' E' w hA R hs (k _ _ _ R.kz r) q
theorem Co.fn1 {v u : V} {f : V} {vs : List V} (k : Co X v u) (h : FN X.c X.D f (u :: vs) [] σ Q) : FN X.c X.D f (v :: vs) [] σ Q :=
  fun A g ρ z s Q' E' wf ws kws ok R r₁ r₂ r₃ q => by
    cases r₂ with
    | cons ra rr => exact h A g ρ z s Q' E' wf _ kws ok R r₁ (.cons (k _ _ _ R.kz ra) rr) r₃ q
end

-- TRUTH
def opT (X : Ex) (v : V) (σ : Hp) (K : Bool → Prop) : Prop := match v with
  | .bool b => K b
  | .int a => K (a != 0)
  | .none => K false
  | .bytes b => chk (b.length ≤ 1000000) (K (!b.isEmpty))
  | .tup vs => chk (vs.length ≤ 1000000) (K (!vs.isEmpty))
  | .ref i => lsO (.ref i) σ fun vs => chk (vs.length ≤ 1000000) (K (!vs.isEmpty))
  | .lst vs => chk (vs.length ≤ 1000000) (K (!vs.isEmpty))
  | _ => False
theorem opT_ok {X : Ex} {env : Env} {v : V} {l : Loc} {σ : Hp} {Q : Bool → Hp → Prop} (h : opT X v σ fun b => Q b σ) : ET X.c env X.D v l σ Q := by
  unfold opT at h
  split at h
  · exact et_bool h
  · exact et_int h
  · exact et_none h
  · exact et_bytes (of_chk h).1 (of_chk h).2
  · exact et_tup (of_chk h).1 (of_chk h).2
  · obtain ⟨vs, hv, h1⟩ := of_lsO h
    exact et_list hv (of_chk h1).1 (of_chk h1).2
  · exact et_list .lst (of_chk h).1 (of_chk h).2
  · exact h.elim

-- COMPARISONS
def eqInts (a b : List Int) : Bool := a == b
def opEq (X : Ex) (a b : V) (σ : Hp) (K : Bool → Prop) : Prop := match a with
  | .int a => match b with
    | .int b => K (a == b)
    | .bool b => K (a == (if b then 1 else 0))
    | .none => K false
    | _ => False
  | .bool a => match b with
    | .bool b => K (a == b)
    | .int b => K ((if a then 1 else 0) == b)
    | .none => K false
    | _ => False
  | .bytes a => match b with
    | .bytes b => K (a == b)
    | _ => False
  | .none => match b with
    | .none => K true
    | _ => False
  | _ => False
theorem opEq_ok {X : Ex} {env : Env} {a b : V} {l : Loc} {σ : Hp} {Q : V → Hp → Prop} (h : opEq X a b σ fun r => Q (.bool r) σ) : EV2 X.c env X.D a b (compareOp .Eq) l σ Q := by
  intro A g ρ z s Q' E' w₁ w₂ ok R r₁ r₂ q
  unfold opEq at h
  split at h
  · split at h
    · cases r₁; cases r₂; exact PyProof.Rows.eq_int (q _ _ _ _ _ _ h R (Go.refl ..) (.bool _))
    · cases r₁; cases r₂; exact EqBoolInt.eq_int_bool (q _ _ _ _ _ _ h R (Go.refl ..) (.bool _))
    · cases r₁; cases r₂; exact EqNone.eq_int_none (q _ _ _ _ _ _ h R (Go.refl ..) (.bool _))
    · exact h.elim
  · split at h
    · cases r₁; cases r₂; exact PyProof.Rows.eq_bool (q _ _ _ _ _ _ h R (Go.refl ..) (.bool _))
    · cases r₁; cases r₂; exact EqBoolInt.eq_bool_int (q _ _ _ _ _ _ h R (Go.refl ..) (.bool _))
    · cases r₁; cases r₂; exact EqNone.eq_bool_none (q _ _ _ _ _ _ h R (Go.refl ..) (.bool _))
    · exact h.elim
  · split at h
    · cases r₁; cases r₂
      refine PySem.W.eq_bytes (q _ _ _ _ _ _ ?_ R (Go.refl ..) (.bool _))
      simpa using h
    · exact h.elim
  · split at h
    · cases r₁; cases r₂; exact EqNone.eq_none_none (q _ _ _ _ _ _ h R (Go.refl ..) (.bool _))
    · exact h.elim
  · exact h.elim
theorem opNe_ok {X : Ex} {env : Env} {a b : V} {l : Loc} {σ : Hp} {Q : V → Hp → Prop} (h : opEq X a b σ fun r => Q (.bool (!r)) σ) : EV2 X.c env X.D a b (compareOp .NotEq) l σ Q := by
  intro A g ρ z s Q' E' w₁ w₂ ok R r₁ r₂ q
  unfold opEq at h
  split at h
  · split at h
    · cases r₁; cases r₂; exact PyProof.Rows.ne_int (q _ _ _ _ _ _ h R (Go.refl ..) (.bool _))
    · cases r₁; cases r₂; exact EqBoolInt.ne_int_bool (q _ _ _ _ _ _ h R (Go.refl ..) (.bool _))
    · cases r₁; cases r₂; exact EqNone.ne_int_none (q _ _ _ _ _ _ h R (Go.refl ..) (.bool _))
    · exact h.elim
  · split at h
    · cases r₁; cases r₂; exact PyProof.Rows.ne_bool (q _ _ _ _ _ _ h R (Go.refl ..) (.bool _))
    · cases r₁; cases r₂; exact EqBoolInt.ne_bool_int (q _ _ _ _ _ _ h R (Go.refl ..) (.bool _))
    · cases r₁; cases r₂; exact EqNone.ne_bool_none (q _ _ _ _ _ _ h R (Go.refl ..) (.bool _))
    · exact h.elim
  · split at h
    · cases r₁; cases r₂
      refine PySem.W.ne_bytes (q _ _ _ _ _ _ ?_ R (Go.refl ..) (.bool _))
      simpa [bne] using h
    · exact h.elim
  · split at h
    · cases r₁; cases r₂; exact EqNone.ne_none_none (q _ _ _ _ _ _ h R (Go.refl ..) (.bool _))
    · exact h.elim
  · exact h.elim
def isNoneV (v : V) (K : Bool → Prop) : Prop := hi (match v with
  | .none => K true | .int _ => K false | .bool _ => K false | .bytes _ => K false | .str _ => K false | .ref _ => K false | .tup _ => K false | .lst _ => K false | .obj _ _ => K false | .dct _ _ => K false | .ntup _ _ => K false | _ => False)
def isRef (X : Ex) (x y : Addr) (K : Bool → Prop) : Prop := hi (match x.beq y with
  | true => K true
  | false => match X.kv x with
    | some u => match u with
      | .dct _ _ => match X.kv y with
        | some u => match u with
          | .dct _ _ => K false
          | _ => False
        | none => False
      | _ => False
    | none => False)
theorem isRef_inv {X : Ex} (ok : XOk X) {x y : Addr} {K : Bool → Prop} (h : isRef X x y K) :
    (x = y ∧ K true) ∨ (x ≠ y ∧ K false ∧ ∀ (z : Led) (ρ : List Addr) (hp : Heap), (∀ p ∈ X.c.kz, p ∈ z) → (∀ q ∈ z, hp.get? q.1 = some q.2) → ∃ ox oy, hp.get? x = some ox ∧ hp.get? y = some oy ∧ ox.cls ≠ .type "tuple") := by
  unfold isRef at h
  split at h
  · rename_i e; exact .inl ⟨Nat.eq_of_beq_eq_true e, h⟩
  · rename_i e
    have hne : x ≠ y := Nat.ne_of_beq_eq_false e
    split at h
    · rename_i u eu
      split at h
      · rename_i ks vs
        split at h
        · rename_i u' eu'
          split at h
          · rename_i ks' vs'
            refine .inr ⟨hne, h, fun z ρ hp hz hf => ?_⟩
            have r1 := ok.kv _ _ eu z ρ hz
            have r2 := ok.kv _ _ eu' z ρ hz
            cases r1 with
            | dct m1 _ d1 _ =>
              cases r2 with
              | dct m2 _ d2 _ =>
                refine ⟨_, _, hf _ m1, hf _ m2, ?_⟩
                obtain ⟨es, ep, hx, _⟩ := d1.2 X.c.prog X.c.w
                rw [hx.1]; simp
          · exact h.elim
        · exact h.elim
      · exact h.elim
    · exact h.elim
def opIs (X : Ex) (a b : V) (σ : Hp) (K : Bool → Prop) : Prop := match b with
  | .none => isNoneV a K
  | .val w => match w with
    | .ref y => match a with
      | .val u => match u with | .ref x => isRef X x y K | _ => False
      | _ => False
    | _ => False
  | _ => False
theorem opIs_ok {X : Ex} (ok : XOk X) {env : Env} {a b : V} {l : Loc} {σ : Hp} {Q : V → Hp → Prop} (h : opIs X a b σ fun r => Q (.bool r) σ) : EV2 X.c env X.D a b (compareOp .Is) l σ Q := by
  unfold opIs at h
  split at h
  · unfold isNoneV at h
    split at h <;> first | exact ev_is_none rfl h | exact h.elim
  · split at h
    · split at h
      · split at h
        · intro A g ρ z s Q' E' w₁ w₂ okd R r₁ r₂ q
          cases r₁; cases r₂
          rcases isRef_inv ok h with ⟨he, h2⟩ | ⟨hne, h2, hh⟩
          · subst he; exact wpAny_is_ref_self (q _ _ _ _ _ _ h2 R (Go.refl ..) (.bool _))
          · obtain ⟨ox, oy, e1, e2, e3⟩ := hh z ρ s.heap R.kz fun q hq => (R.frz q hq).1
            exact wpAny_is_ref_other hne e1 e2 e3 (q _ _ _ _ _ _ h2 R (Go.refl ..) (.bool _))
        · exact h.elim
      · exact h.elim
    · exact h.elim
  · exact h.elim
theorem opIsNot_ok {X : Ex} (ok : XOk X) {env : Env} {a b : V} {l : Loc} {σ : Hp} {Q : V → Hp → Prop} (h : opIs X a b σ fun r => Q (.bool (!r)) σ) : EV2 X.c env X.D a b (compareOp .IsNot) l σ Q := by
  unfold opIs at h
  split at h
  · unfold isNoneV at h
    split at h <;> first | exact ev_isnot_none rfl h | exact h.elim
  · split at h
    · split at h
      · split at h
        · intro A g ρ z s Q' E' w₁ w₂ okd R r₁ r₂ q
          cases r₁; cases r₂
          rcases isRef_inv ok h with ⟨he, h2⟩ | ⟨hne, h2, hh⟩
          · subst he; exact wpAny_isNot_ref_self (q _ _ _ _ _ _ h2 R (Go.refl ..) (.bool _))
          · obtain ⟨ox, oy, e1, e2, e3⟩ := hh z ρ s.heap R.kz fun q hq => (R.frz q hq).1
            exact wpAny_isNot_ref_other hne e1 e2 e3 (q _ _ _ _ _ _ h2 R (Go.refl ..) (.bool _))
        · exact h.elim
      · exact h.elim
    · exact h.elim
  · exact h.elim
def inObj (a : V) (K : Bool → Prop) : AO → Prop
  | .list vs => chk (a.atom = true ∧ vs.all V.atom = true) (K (vs.any (eqA · a)))
  | .dict ks _ => match a with | .int k => K (ks.contains k) | _ => False
  | _ => False
def opIn (X : Ex) (a b : V) (σ : Hp) (K : Bool → Prop) : Prop := kvN X b fun b => match b with
  | .dct ks _ => match a with | .int k => K (ks.contains k) | _ => False
  | .tup vs => chk (a.atom = true ∧ vs.all V.atom = true) (K (vs.any (eqA · a)))
  | .bytes b => match a with | .int k => chk (0 ≤ k ∧ k < 256) (K (b.contains k.toNat.toUInt8)) | _ => False
  | .ref i => getO σ i (inObj a K)
  | .lst vs => chk (a.atom = true ∧ vs.all V.atom = true) (K (vs.any (eqA · a)))
  | _ => False
theorem opIn_ok {X : Ex} (ok : XOk X) {env : Env} {a b : V} {l : Loc} {σ : Hp} {Q : V → Hp → Prop} (h : opIn X a b σ fun r => Q (.bool r) σ) : EV2 X.c env X.D a b (compareOp .In) l σ Q := by
  obtain ⟨u, k, h⟩ := of_kvN ok h
  refine k.ev2r ?_
  split at h
  · split at h
    · exact ev_in_dct h
    · exact h.elim
  · exact ev_in_tup (of_chk h).1.1 (of_chk h).1.2 (of_chk h).2
  · split at h
    · exact ev_in_bytes (of_chk h).1.1 (of_chk h).1.2 (of_chk h).2
    · exact h.elim
  · obtain ⟨o, ho, h1⟩ := of_getO h
    unfold inObj at h1
    split at h1
    · exact ev_in_list (of_chk h1).1.1 (.own ho) (of_chk h1).1.2 (of_chk h1).2
    · split at h1
      · exact ev_in_dict ho h1
      · exact h1.elim
    · exact h1.elim
  · exact ev_in_list (of_chk h).1.1 .lst (of_chk h).1.2 (of_chk h).2
  · exact h.elim
def opNotIn (X : Ex) (a b : V) (σ : Hp) (K : Bool → Prop) : Prop := kvN X b fun b => match b with
  | .dct ks _ => match a with | .int k => K (!ks.contains k) | _ => False
  | .tup vs => chk (a.atom = true ∧ vs.all V.atom = true) (K (!vs.any (eqA · a)))
  | .bytes b => match a with | .int k => chk (0 ≤ k ∧ k < 256) (K (!b.contains k.toNat.toUInt8)) | _ => False
  | _ => False
theorem opNotIn_ok {X : Ex} (ok : XOk X) {env : Env} {a b : V} {l : Loc} {σ : Hp} {Q : V → Hp → Prop} (h : opNotIn X a b σ fun r => Q (.bool r) σ) : EV2 X.c env X.D a b (compareOp .NotIn) l σ Q := by
  obtain ⟨u, k, h⟩ := of_kvN ok h
  refine k.ev2r ?_
  split at h
  · split at h
    · exact ev_notin_dct h
    · exact h.elim
  · exact ev_notin_tup (of_chk h).1.1 (of_chk h).1.2 (of_chk h).2
  · split at h
    · exact ev_notin_bytes (of_chk h).1.1 (of_chk h).1.2 (of_chk h).2
    · exact h.elim
  · exact h.elim
def opCmp (X : Ex) (op : CmpOp) (a b : V) (σ : Hp) (K : Bool → Prop) : Prop := match op with
  | .Lt => intsO a b fun a b => K (decide (a < b))
  | .LtE => intsO a b fun a b => K (decide (a ≤ b))
  | .Gt => intsO a b fun a b => K (decide (b < a))
  | .GtE => intsO a b fun a b => K (decide (a ≥ b))
  | .Eq => opEq X a b σ K
  | .NotEq => opEq X a b σ fun r => K (!r)
  | .Is => opIs X a b σ K
  | .IsNot => opIs X a b σ fun r => K (!r)
  | .In => opIn X a b σ K
  | .NotIn => opNotIn X a b σ K
theorem EV2.mono {c : Cx} {env : Env} {D : Nat} {a b : V} {f : Value → Value → Sem Value} {l : Loc} {σ : Hp} {Q Q' : V → Hp → Prop} (h : EV2 c env D a b f l σ Q) (k : ∀ v σ', Q v σ' → Q' v σ') : EV2 c env D a b f l σ Q' :=
  fun A g ρ z s Q₁ E₁ w₁ w₂ ok R h1 h2 q => h A g ρ z s Q₁ E₁ w₁ w₂ ok R h1 h2 fun v w σ' ρ' z' s' hq => q v w σ' ρ' z' s' (k _ _ hq)
theorem opCmp_ok {X : Ex} (ok : XOk X) {env : Env} {op : CmpOp} {a b : V} {l : Loc} {σ : Hp} {Q : V → Hp → Prop} (h : opCmp X op a b σ fun r => Q (.bool r) σ) : EV2 X.c env X.D a b (compareOp op) l σ Q := by
  unfold opCmp at h
  split at h
  · obtain ⟨i, j, rfl, rfl, h⟩ := of_intsO h; exact ev_lt h
  · obtain ⟨i, j, rfl, rfl, h⟩ := of_intsO h; exact ev_le h
  · obtain ⟨i, j, rfl, rfl, h⟩ := of_intsO h; exact ev_gt h
  · obtain ⟨i, j, rfl, rfl, h⟩ := of_intsO h; exact ev_ge h
  · exact opEq_ok h
  · exact opNe_ok h
  · exact opIs_ok ok h
  · exact opIsNot_ok ok h
  · exact opIn_ok ok h
  · exact opNotIn_ok ok h
def cmpW (op : CmpOp) (wa wb : WE) : WE := fun X l σ Q => wa X l σ fun va σ₁ => wb X l σ₁ fun vb σ₂ => opCmp X op va vb σ₂ fun r => Q (.bool r) σ₂
def cmpB (op : CmpOp) (wa wb : WE) : WB := fun X l σ Q => wa X l σ fun va σ₁ => wb X l σ₁ fun vb σ₂ => opCmp X op va vb σ₂ fun r => Q r σ₂

section
variable {c : Cx} {env : Env} {ns : List Str} {pos : Pos}
theorem ce_bin {a b : Expr} {op : Operator} {wa wb : WE} (ha : CE c env ns a wa) (hb : CE c env ns b wb) : CE c env ns (.BinOp a op b pos) (binW op wa wb) :=
  fun X e ok l σ Q hl h => by
    subst e
    exact ev_bin ((ha X rfl ok l σ _ hl h).mono fun va σ₁ h1 => (hb X rfl ok l σ₁ _ hl h1).mono fun vb σ₂ h2 => opBin_ok h2)
theorem ce_cmp {a b : Expr} {op : CmpOp} {wa wb : WE} (ha : CE c env ns a wa) (hb : CE c env ns b wb) (hm : behindInMarks op b = false := by with_unfolding_all rfl) : CE c env ns (.Compare a [op] [b] pos) (cmpW op wa wb) :=
  fun X e ok l σ Q hl h => by
    subst e
    exact ev_cmp ((ha X rfl ok l σ _ hl h).mono fun va σ₁ h1 => (hb X rfl ok l σ₁ _ hl h1).mono fun vb σ₂ h2 => opCmp_ok ok h2) hm
theorem cb_cmp {a b : Expr} {op : CmpOp} {wa wb : WE} (ha : CE c env ns a wa) (hb : CE c env ns b wb) (hm : behindInMarks op b = false := by with_unfolding_all rfl) : CB c env ns (.Compare a [op] [b] pos) (cmpB op wa wb) :=
  fun X e ok l σ Q hl h => by
    subst e
    exact eb_cmp ((ha X rfl ok l σ _ hl h).mono fun va σ₁ h1 => (hb X rfl ok l σ₁ _ hl h1).mono fun vb σ₂ h2 => (by
      have e : (fun r => Q r σ₂) = fun r => (∃ r', V.bool r = V.bool r' ∧ Q r' σ₂) := by
        funext r; apply propext; constructor
        · intro h; exact ⟨r, rfl, h⟩
        · rintro ⟨r', e, h⟩; cases e; exact h
      rw [e] at h2
      exact (opCmp_ok (Q := fun v σ => ∃ r', v = V.bool r' ∧ Q r' σ) ok h2).mono fun v σ₃ ⟨r, e, h3⟩ => by subst e; exact et_bool h3)) hm
end
end
section
open PySem PySem.W PyProof.Rows PySem.Calls

-- ATTRIBUTES
def hdK (v : V) (K : Prop) : Prop := hi (match v.handed with
  | true => K
  | false => False)
theorem of_hdK {v : V} {K : Prop} (h : hdK v K) : v.handed = true ∧ K := by
  unfold hdK at h; split at h
  · exact ⟨by assumption, h⟩
  · exact h.elim
def getF : List (Nat × V) → Nat → (V → Prop) → Prop → Prop
  | [], _, _, N => hi N
  | (y, v) :: r, k, K, N => hi (match y.beq k with | true => K v | false => getF r k K N)
def setF : List (Nat × V) → Nat → V → (List (Nat × V) → Prop) → Prop
  | [], k, v, K => hi (K [(k, v)])
  | (y, u) :: r, k, v, K => hi (match y.beq k with | true => K ((k, v) :: r) | false => setF r k v fun r' => K ((y, u) :: r'))
theorem getF_inv : ∀ {fs : List (Nat × V)} {k : Nat} {K : V → Prop} {N : Prop}, getF fs k K N → (∃ v, FG k v fs ∧ K v) ∨ (noKey k fs = true ∧ N)
  | [], _, _, _, h => .inr ⟨rfl, h⟩
  | (y, v) :: r, k, K, N, h => by
    unfold getF at h
    split at h
    · rename_i e; cases Nat.eq_of_beq_eq_true e; exact .inl ⟨v, .hd, h⟩
    · rename_i e
      have ne := Nat.ne_of_beq_eq_false e
      rcases getF_inv h with ⟨u, g, hk⟩ | ⟨g, hn⟩
      · exact .inl ⟨u, .tl ne g, hk⟩
      · exact .inr ⟨by simp only [noKey, List.all_cons, Bool.and_eq_true]; exact ⟨by simpa using ne, g⟩, hn⟩
theorem setF_inv : ∀ {fs : List (Nat × V)} {k : Nat} {v : V} {K : List (Nat × V) → Prop}, setF fs k v K → ∃ fs', FP k v fs fs' ∧ K fs'
  | [], _, _, _, h => ⟨_, .nil, h⟩
  | (y, u) :: r, k, v, K, h => by
    unfold setF at h
    split at h
    · rename_i e; cases Nat.eq_of_beq_eq_true e; exact ⟨_, .hd, h⟩
    · rename_i e
      obtain ⟨fs', p, hk⟩ := setF_inv (K := fun r' => K ((y, u) :: r')) h
      exact ⟨_, .tl (Nat.ne_of_beq_eq_false e) p, hk⟩
def FCd (X : Ex) (f : Addr) (args : List V) (σ : Hp) (Q : V → Hp → Prop) : Prop := match X.D with
  | 0 => False
  | D + 1 => FC X.c D (.val (.ref f)) args [] σ Q
theorem of_FCd {X : Ex} {f : Addr} {args : List V} {σ : Hp} {Q : V → Hp → Prop} (h : FCd X f args σ Q) : ∃ D, X.D = D + 1 ∧ FC X.c D (.val (.ref f)) args [] σ Q := by
  unfold FCd at h
  split at h
  · exact h.elim
  · exact ⟨_, by assumption, h⟩
def rdInst (X : Ex) (i k : Nat) (σ : Hp) (Q : V → Hp → Prop) : AO → Prop
  | .inst C fs => match X.cls C k with
    | .no => getF fs k (fun v => hdK v (Q v σ)) False
    | .val a => getF fs k (fun v => hdK v (Q v σ)) (Q a σ)
    | .prop g _ => FCd X g [.ref i] σ fun v σ' => hdK v (Q v σ')
    | _ => False
  | _ => False
def opAttr (X : Ex) (k : Nat) (ov : V) (σ : Hp) (Q : V → Hp → Prop) : Prop := match ov with
  | .ref i => getO σ i (rdInst X i k σ Q)
  | .obj C fs => match X.cls C k with
    | .no => getF fs k (fun v => hdK v (Q v σ)) False
    | _ => False
  | _ => False
theorem EV1.mono {c : Cx} {env : Env} {D : Nat} {a : V} {f : Value → Sem Value} {l : Loc} {σ : Hp} {Q Q' : V → Hp → Prop} (h : EV1 c env D a f l σ Q) (k : ∀ v σ', Q v σ' → Q' v σ') : EV1 c env D a f l σ Q' :=
  fun A g ρ z s Q₁ E₁ w₁ ok R h1 q => h A g ρ z s Q₁ E₁ w₁ ok R h1 fun v w σ' ρ' z' s' hq => q v w σ' ρ' z' s' (k _ _ hq)
theorem opAttr_ok {X : Ex} (ok : XOk X) {env : Env} {k : Nat} {v : V} {l : Loc} {σ : Hp} {Q : V → Hp → Prop} (h : opAttr X k v σ Q) : EV1 X.c env X.D v (fun a => getAttr a (nm k) true) l σ Q := by
  unfold opAttr at h
  split at h
  · obtain ⟨o, ho, h1⟩ := of_getO h
    unfold rdInst at h1
    split at h1
    · rename_i C fs
      have hc := ok.cls C k
      split at h1
      · rename_i e; rw [e] at hc
        obtain ⟨c1, _, ⟨a, c2, c3⟩, _⟩ := hc
        rcases getF_inv h1 with ⟨u, g, hk⟩ | ⟨_, hf⟩
        · exact ev1_attr ho g c1 a c2 c3 (of_hdK hk).1 (of_hdK hk).2
        · exact hf.elim
      · rename_i b e; rw [e] at hc
        obtain ⟨c1, _, _, a, rfl, c2, c3, c4, c5, c6⟩ := hc
        rcases getF_inv h1 with ⟨u, g, hk⟩ | ⟨g, hf⟩
        · exact ev1_attr ho g c1 (some a) c2 c6 (of_hdK hk).1 (of_hdK hk).2
        · exact ev1_cattr ho g c1 a c2 c3 c4 c5 hf
      · rename_i g s e; rw [e] at hc
        obtain ⟨c1, _, p, rest, c2, c3, c4, c5, _⟩ := hc
        obtain ⟨D, eD, hf⟩ := of_FCd h1
        rw [eD]
        exact ev1_prop ho c1 c2 c3 c4 c5 (hf.mono fun v σ' h => of_hdK h)
      · exact h1.elim
    · exact h1.elim
  · rename_i C fs
    have hc := ok.cls C k
    split at h
    · rename_i e; rw [e] at hc
      obtain ⟨c1, _, ⟨a, c2, c3⟩, _⟩ := hc
      rcases getF_inv h with ⟨u, g, hk⟩ | ⟨_, hf⟩
      · exact ev1_attrZ g c1 a c2 c3 (of_hdK hk).1 (of_hdK hk).2
      · exact hf.elim
    · exact h.elim
  · exact h.elim
def stInst (X : Ex) (i k : Nat) (v : V) (σ : Hp) (K : Hp → Prop) : AO → Prop
  | .inst C fs => match X.cls C k with
    | .no => setF fs k v fun fs' => chk (fs'.length ≤ 1000) (K (σ.set i (.inst C fs')))
    | .val _ => setF fs k v fun fs' => chk (fs'.length ≤ 1000) (K (σ.set i (.inst C fs')))
    | .prop _ s => FCd X s [.ref i, v] σ fun _ σ' => K σ'
    | _ => False
  | _ => False
def opSet (X : Ex) (k : Nat) (ov v : V) (σ : Hp) (K : Hp → Prop) : Prop := match ov with
  | .ref i => getO σ i (stInst X i k v σ K)
  | _ => False
theorem opSet_ok {X : Ex} (ok : XOk X) {env : Env} {k : Nat} {ov v u : V} {l : Loc} {σ : Hp} {K : Hp → Prop} (h : opSet X k ov v σ K) : EU3 X.c env X.D ov v u (fun a b _ => setAttr a (nm k) b) l σ K := by
  unfold opSet at h
  split at h
  · obtain ⟨o, ho, h1⟩ := of_getO h
    unfold stInst at h1
    split at h1
    · rename_i C fs
      have hc := ok.cls C k
      split at h1
      · rename_i e; rw [e] at hc
        obtain ⟨_, c1, _, c2⟩ := hc
        obtain ⟨fs', p, hk⟩ := setF_inv h1
        exact eu_set ho p c1 c2 (of_chk hk).1 (of_chk hk).2
      · rename_i b e; rw [e] at hc
        obtain ⟨_, c1, c2, _⟩ := hc
        obtain ⟨fs', p, hk⟩ := setF_inv h1
        exact eu_set ho p c1 c2 (of_chk hk).1 (of_chk hk).2
      · rename_i g s e; rw [e] at hc
        obtain ⟨_, c1, p, rest, _, _, _, c5, c6, c7⟩ := hc
        obtain ⟨D, eD, hf⟩ := of_FCd h1
        rw [eD]
        exact eu_prop ho c1 c6 c7 c5 hf
      · exact h1.elim
    · exact h1.elim
  · exact h.elim

-- ITEMS
def notSlice : Expr → Bool
  | .Slice _ _ none _ => false
  | _ => true
theorem notSlice_is {e : Expr} (h : notSlice e = true) (a b : Value) : subscripted e false a b = operate [a, b] (getItem a b) := by
  cases e with
  | Slice lo hi st pos => cases st with
    | none => simp [notSlice] at h
    | some x => rfl
  | _ => rfl
def dGet : List Int → List V → Int → (V → Prop) → Prop
  | k' :: ks, v :: vs, k, K => hi (br (k' == k) (K v) (dGet ks vs k K))
  | _, _, _, _ => hi False
theorem dGet_inv : ∀ {ks : List Int} {vs : List V} {k : Int} {K : V → Prop}, dGet ks vs k K → ∃ v, (ks.zip vs).find? (fun p => p.1 == k) = some (k, v) ∧ K v
  | k' :: ks, v :: vs, k, K, h => by
    unfold dGet at h
    obtain ⟨h1, h2⟩ := of_br h
    by_cases e : k' = k
    · subst e
      exact ⟨v, by rw [List.zip_cons_cons, List.find?_cons_of_pos (by simp)], h1 (by simp)⟩
    · obtain ⟨u, a, b⟩ := dGet_inv (h2 (by simpa using e))
      exact ⟨u, by rw [List.zip_cons_cons, List.find?_cons_of_neg (by simpa using e)]; exact a, b⟩
  | [], _, _, _, h => by unfold dGet at h; exact h.elim
  | _ :: _, [], _, _, h => by unfold dGet at h; exact h.elim
def ixO (vs : List V) (i : V) (K : V → Prop) : Prop := hi (match i with
  | .int k => chk (0 ≤ k ∧ k < 9223372036854775808) (getV vs k.toNat K)
  | _ => False)
theorem ixO_inv {vs : List V} {i : V} {K : V → Prop} (h : ixO vs i K) : ∃ k v, i = .int k ∧ 0 ≤ k ∧ k < 2 ^ 63 ∧ vs[k.toNat]? = some v ∧ K v := by
  unfold ixO at h
  split at h
  · obtain ⟨⟨h0, h1⟩, h2⟩ := of_chk h
    obtain ⟨v, h3, h4⟩ := of_getV h2
    exact ⟨_, v, rfl, h0, by omega, h3, h4⟩
  · exact h.elim
def itDct (ks : List Int) (vs : List V) (i : V) (σ : Hp) (Q : V → Hp → Prop) : Prop := match i with
  | .int k => dGet ks vs k fun v => Q v σ
  | _ => False
def itObj (i : V) (σ : Hp) (Q : V → Hp → Prop) : AO → Prop
  | .list vs => ixO vs i fun v => Q v σ
  | .dict ks vs => itDct ks vs i σ Q
  | _ => False
def itObj' (i : V) (σ : Hp) (Q : V → Hp → Prop) : AO → Prop
  | .list vs => ixO vs i fun v => Q v σ
  | _ => False
def itBytes (b : List UInt8) (i : V) (σ : Hp) (Q : V → Hp → Prop) : Prop := match i with
  | .int k => chk (b.length ≤ 1000000 ∧ 0 ≤ k ∧ k < b.length) (Q (.int (b.getD k.toNat 0).toNat) σ)
  | _ => False
def opItem (X : Ex) (o i : V) (σ : Hp) (Q : V → Hp → Prop) : Prop := kvN X o fun o => match o with
  | .ref j => getO σ j (itObj i σ Q)
  | .lst vs => ixO vs i fun v => Q v σ
  | .tup vs => ixO vs i fun v => Q v σ
  | .bytes b => itBytes b i σ Q
  | .dct ks vs => itDct ks vs i σ Q
  | _ => False
theorem opItem_ok {X : Ex} (ok : XOk X) {env : Env} {oe ie : Expr} (hs : notSlice ie = true) {o i : V} {l : Loc} {σ : Hp} {Q : V → Hp → Prop} (h : opItem X o i σ Q) : EV2 X.c env X.D o i (subscriptTail oe ie) l σ Q := by
  obtain ⟨u, k, h⟩ := of_kvN ok h
  refine k.ev2 ?_
  split at h
  · obtain ⟨o, ho, h1⟩ := of_getO h
    unfold itObj at h1
    split at h1
    · obtain ⟨k, v, rfl, a, b, c, d⟩ := ixO_inv h1
      exact ei_list ho a b c d (fun _ _ _ => notSlice_is hs _ _)
    · unfold itDct at h1
      split at h1
      · obtain ⟨v, a, b⟩ := dGet_inv h1
        exact ei_dict ho a b (fun _ _ _ => notSlice_is hs _ _)
      · exact h1.elim
    · exact h1.elim
  · obtain ⟨k, v, rfl, a, b, c, d⟩ := ixO_inv h
    exact ei_lst a b c d (fun _ _ _ => notSlice_is hs _ _)
  · obtain ⟨k, v, rfl, a, b, c, d⟩ := ixO_inv h
    exact ei_tup a b c d (fun _ _ _ => notSlice_is hs _ _)
  · unfold itBytes at h
    split at h
    · obtain ⟨⟨a, b, c⟩, d⟩ := of_chk h
      exact ei_bytes a b c d (fun _ _ _ _ => notSlice_is hs _ _)
    · exact h.elim
  · unfold itDct at h
    split at h
    · obtain ⟨v, a, b⟩ := dGet_inv h
      exact ei_dct a b (fun _ _ _ => notSlice_is hs _ _)
    · exact h.elim
  · exact h.elim
/-- read before it is stored anew -/
def opItem' (X : Ex) (o i : V) (σ : Hp) (Q : V → Hp → Prop) : Prop := match o with
  | .ref j => getO σ j (itObj' i σ Q)
  | _ => False
theorem opItem'_ok {X : Ex} {env : Env} {o i : V} {l : Loc} {σ : Hp} {Q : V → Hp → Prop} (h : opItem' X o i σ Q) : EV2 X.c env X.D o i getItem l σ Q := by
  unfold opItem' at h
  split at h
  · obtain ⟨o, ho, h1⟩ := of_getO h
    unfold itObj' at h1
    split at h1
    · obtain ⟨k, v, rfl, a, b, c, d⟩ := ixO_inv h1
      exact ei_own ho a b c d
    · exact h1.elim
  · exact h.elim
def suObj (j : Nat) (i v : V) (σ : Hp) (K : Hp → Prop) : AO → Prop
  | .list vs => match i with
    | .int k => chk (0 ≤ k ∧ k < vs.length ∧ k < 9223372036854775808) (K (σ.set j (.list (vs.set k.toNat v))))
    | _ => False
  | _ => False
def opStore (X : Ex) (o i v : V) (σ : Hp) (K : Hp → Prop) : Prop := match o with
  | .ref j => getO σ j (suObj j i v σ K)
  | _ => False
theorem opStore_ok {X : Ex} {env : Env} {o i v : V} {l : Loc} {σ : Hp} {K : Hp → Prop} (h : opStore X o i v σ K) : EU3 X.c env X.D o i v setItem l σ K := by
  unfold opStore at h
  split at h
  · obtain ⟨o, ho, h1⟩ := of_getO h
    unfold suObj at h1
    split at h1
    · split at h1
      · obtain ⟨⟨a, b, c⟩, d⟩ := of_chk h1
        exact eu_list ho a b (by omega) d
      · exact h1.elim
    · exact h1.elim
  · exact h.elim

-- SLICES
theorem Subscript_SliceN {prog : Program} {w : World} {A : Around} {E : Value → Shared → Prop} {s : Shared} {env : Env} {pos p : Pos} {value : Expr} {lower upper : Option Expr} {Q : Value → Shared → Prop}
    (h : wpAny (model prog w) A (eval value env) (fun o s₁ => wpAny (model prog w) A (eval (.Slice lower upper none p) env) (fun i s₂ => ItemOn (model prog w) A E o i Q s₂) E s₁) E s) :
    wpAny (model prog w) A (eval (.Subscript value (.Slice lower upper none p) pos) env) Q E s := by
  rw [eval_Subscript]
  refine wpAny_bind (wpAny_mono h (fun o s₁ h₁ => wpAny_bind (wpAny_holding (wpAny_mono h₁ (fun i s₂ h₂ => wpAny_bind (wpAny_standAt ?_)) fun _ _ x => x)))
    fun _ _ x => x)
  obtain ⟨T, id, hl, hT, hg⟩ := h₂
  refine wpAny_bind ?_
  rw [getitemInPython_of_ne hT.not_modules]
  refine wpAny_bind (wpAny_specialOf hT hl ?_)
  have fin : wpAny (model prog w) A (operate [i, o] (getItem o i)) (fun r s₃ => wpAny (model prog w) A (letTemporaryGo value o r >>= fun _ => pure r) Q E s₃) E s₂ :=
    wpAny_operating (wpAny_mono hg (fun r s₃ h₃ => wpAny_bind (wpAny_letTemporaryGo (wpAny_pure h₃))) fun _ _ x => x)
  first
    | exact wpAny_pure (wpAny_bind fin)
    | exact wpAny_bind (wpAny_pure (wpAny_bind fin))
    | exact wpAny_bind fin
theorem ev_sliceN {c : Cx} {env : Env} {D : Nat} {l : Loc} {σ : Hp} {Q : V → Hp → Prop} {o : Expr} {lo hi : Option Expr} {p pos : Pos} (h : EV c env D (eval o env) l σ fun ov σ₁ => EO c env D lo l σ₁ fun a σ₂ => EO c env D hi l σ₂ fun b σ₃ => ES c env D ov a b l σ₃ Q) : EV c env D (eval (.Subscript o (.Slice lo hi none p) pos) env) l σ Q := by
  intro A g ρ z s Q' E' ok R q
  refine Subscript_SliceN (h A g ρ z s _ _ ok R fun ov ow σ1 ρ1 z1 s1 h1 R1 G1 r1 => ?_)
  refine wpAny_Slice (h1 A g ρ1 z1 s1 _ _ ok R1 fun a wa σ2 ρ2 z2 s2 h2 R2 G2 p2 => ?_)
  refine h2 A g ρ2 z2 s2 _ _ ok R2 fun b wb σ3 ρ3 z3 s3 h3 R3 G3 p3 => ?_
  refine evalPart_none_step ?_
  have R4 := R3.junk { cls := .type "slice", data := .fields #[wa, wb, .none] }
  exact h3 A g ρ3 z3 _ _ _ ow wa wb s3.heap.objs.size ok R4 ((r1.mono G2.toExt).mono G3.toExt) p2 p3 (Heap.IsSliceOf.new ..) fun v w σ' ρ' z' s' hq R' G' r' =>
    q v w σ' ρ' z' s' hq R' (((G1.trans G2).trans G3).trans ((Go.same _ _ _ _ _ fun _ _ e => Heap.get?_push_of_some _ e).trans G')) r'
def slTup (vs : List V) (lo hi : Option Int) (σ : Hp) (Q : V → Hp → Prop) : Prop := match lo with
  | some a => match hi with
    | some b => chk (0 ≤ a ∧ a ≤ vs.length ∧ 0 ≤ b ∧ vs.length ≤ 1000000) (Q (.tup ((vs.drop a.toNat).take (b.toNat - a.toNat))) σ)
    | none => False
  | none => False
def opSlice (X : Ex) (o : V) (lo hi : Option Int) (σ : Hp) (Q : V → Hp → Prop) : Prop := kvN X o fun o => match o with
  | .bytes b => chk (b.length ≤ 1000000) (Q (.bytes (cut b lo hi)) σ)
  | .ref i => lsO (.ref i) σ fun vs => chk (vs.length ≤ 1000000) (Q (.ref σ.length) (σ ++ [.list (cut vs lo hi)]))
  | .lst vs => chk (vs.length ≤ 1000000) (Q (.ref σ.length) (σ ++ [.list (cut vs lo hi)]))
  | .tup vs => slTup vs lo hi σ Q
  | _ => False
theorem opSlice_ok {X : Ex} (ok : XOk X) {env : Env} {o : V} {lo hi : Option Int} {l : Loc} {σ : Hp} {Q : V → Hp → Prop} (h : opSlice X o lo hi σ Q) : ES X.c env X.D o lo hi l σ Q := by
  obtain ⟨u, k, h⟩ := of_kvN ok h
  refine k.es ?_
  split at h
  · exact es_bytes (of_chk h).1 (of_chk h).2
  · obtain ⟨vs, hv, h1⟩ := of_lsO h
    cases hv with
    | own hv => exact es_list hv (of_chk h1).1 (of_chk h1).2
  · exact es_lst (of_chk h).1 (of_chk h).2
  · unfold slTup at h
    split at h
    · split at h
      · rename_i a _ b
        obtain ⟨⟨a0, a1, b0, hz⟩, h⟩ := of_chk h
        obtain ⟨a, rfl⟩ := Int.eq_ofNat_of_zero_le a0
        obtain ⟨b, rfl⟩ := Int.eq_ofNat_of_zero_le b0
        exact es_tup (by omega) hz (by simpa using h)
      · exact h.elim
    · exact h.elim
  · exact h.elim
end
section
open PySem PySem.W PyProof.Rows PySem.Calls

-- BUILT-INS
inductive Bi where
  | len | abs | range | int | sum | bytes | isinstance | bisect | append | isdigit | find | decode
  deriving DecidableEq
def Bi.val : Bi → Value
  | .len => .builtin "len" | .abs => .builtin "abs" | .range => .type "range" | .int => .type "int" | .sum => .builtin "sum" | .bytes => .type "bytes"
  | .isinstance => .builtin "isinstance" | .bisect => .builtin "_bisect.bisect_left" | .append => .builtin "list.append" | .isdigit => .builtin "bytes.isdigit" | .find => .builtin "bytes.find" | .decode => .builtin "bytes.decode"
theorem Bi.keep {c : Cx} (b : Bi) : KeepOk c (.val b.val) := by cases b <;> trivial
def intsL : List V → (List Int → Prop) → Prop
  | [], K => K []
  | v :: vs, K => match v with
    | .int i => intsL vs fun is => K (i :: is)
    | _ => False
theorem intsL_inv : ∀ {vs : List V} {K : List Int → Prop}, intsL vs K → ∃ is : List Int, vs = is.map V.int ∧ K is
  | [], _, h => ⟨[], rfl, h⟩
  | v :: vs, K, h => by
    unfold intsL at h
    split at h
    · obtain ⟨is, rfl, hk⟩ := intsL_inv h
      exact ⟨_ :: is, rfl, hk⟩
    · exact h.elim
theorem intsL_of {is : List Int} {K : List Int → Prop} (h : K is) : intsL (is.map V.int) K := by
  induction is generalizing K with
  | nil => exact h
  | cons i is ih => exact ih (K := fun is => K (i :: is)) h
/-- a list of intsV -/
@[irreducible] def intsV (vs : List V) (K : List Int → Prop) : Prop := ∃ is : List Int, vs = is.map V.int ∧ K is
theorem intsV_of {is : List Int} {vs : List V} {K : List Int → Prop} (e : vs = is.map V.int) (h : K is) : intsV vs K := by unfold intsV; exact ⟨is, e, h⟩
theorem of_intsV {vs : List V} {K : List Int → Prop} (h : intsV vs K) : ∃ is : List Int, vs = is.map V.int ∧ K is := by unfold intsV at h; exact h
@[irreducible] def ascii (b : List UInt8) (K : Str → Prop) : Prop := ∃ x, Ascii b x ∧ K x
theorem ascii_of {b : List UInt8} {x : Str} {K : Str → Prop} (h : Ascii b x) (k : K x) : ascii b K := by unfold ascii; exact ⟨x, h, k⟩
@[irreducible] def intText (x : Str) (K : Int → Prop) : Prop := ∃ n, PySem.intText? x = some n ∧ x.length ≤ 640 ∧ K n
theorem intText_of {x : Str} {n : Int} {K : Int → Prop} (h : PySem.intText? x = some n) (hl : x.length ≤ 640) (k : K n) : intText x K := by unfold intText; exact ⟨n, h, hl, k⟩
def lenR (Q : V → Hp → Prop) : V → Hp → Prop := fun r σ => match r with
  | .int n => chk (0 ≤ n ∧ n < 9223372036854775808) (Q (.int n) σ)
  | _ => False
theorem lenR_inv {Q : V → Hp → Prop} {r : V} {σ : Hp} (h : lenR Q r σ) : ∃ n, r = .int n ∧ 0 ≤ n ∧ n < 2 ^ 63 ∧ Q (.int n) σ := by
  unfold lenR at h
  split at h
  · obtain ⟨⟨a, b⟩, d⟩ := of_chk h
    exact ⟨_, rfl, a, by omega, d⟩
  · exact h.elim
def lenObj (X : Ex) (i : Nat) (σ : Hp) (Q : V → Hp → Prop) : AO → Prop
  | .list vs => chk (vs.length ≤ 1000000) (Q (.int vs.length) σ)
  | .inst C _ => match X.cls C 42 with
    | .meth f => FCd X f [.ref i] σ (lenR Q)
    | _ => False
  | _ => False
def biLen (X : Ex) (v : V) (σ : Hp) (Q : V → Hp → Prop) : Prop := kvN X v fun v => match v with
  | .bytes b => chk (b.length ≤ 1000000) (Q (.int b.length) σ)
  | .tup vs => chk (vs.length ≤ 1000000) (Q (.int vs.length) σ)
  | .lst vs => chk (vs.length ≤ 1000000) (Q (.int vs.length) σ)
  | .ref i => getO σ i (lenObj X i σ Q)
  | .obj C fs => match X.cls C 42 with
    | .meth f => FCd X f [.obj C fs] σ (lenR Q)
    | _ => False
  | _ => False
def biInt (v : V) (σ : Hp) (Q : V → Hp → Prop) : Prop := match v with
  | .int i => Q (.int i) σ
  | .bool b => Q (.int (if b then 1 else 0)) σ
  | .str x => intText x fun n => Q (.int n) σ
  | _ => False
def biRange : List V → Hp → (V → Hp → Prop) → Prop
  | [.int n], σ, Q => Q (.rng 0 n 1) σ
  | [.int a, .int b], σ, Q => Q (.rng a b 1) σ
  | [.int a, .int b, .int k], σ, Q => chk (k ≠ 0 ∧ Builtin.divisionGoesByPylong (b - a) k = false) (Q (.rng a b k) σ)
  | _, _, _ => False
def biIsi (X : Ex) (a b : V) (σ : Hp) (Q : V → Hp → Prop) : Prop := match a with
  | .obj C _ => match b with
    | .val w => match w with
      | .ref C' => isIn X.c.K (.ref C) C' = true ∧ Q (.bool true) σ
      | _ => False
    | _ => False
  | .bytes _ => match b with
    | .val w => w = .type "bytes" ∧ Q (.bool true) σ
    | _ => False
  | _ => False
def biBis (X : Ex) (v : V) (x lo : V) (σ : Hp) (Q : V → Hp → Prop) : Prop := kvN X v fun v => lsO v σ fun vs => intsV vs fun ns => match x with
  | .int x => match lo with
    | .int lo => chk (0 ≤ lo ∧ lo ≤ 1000000 ∧ ns.length ≤ 1000000) (Q (.int (FX.bisL ns x lo.toNat ns.length)) σ)
    | _ => False
  | _ => False
def apObj (i : Nat) (v : V) (σ : Hp) (Q : V → Hp → Prop) : AO → Prop
  | .list vs => chk (vs.length ≤ 1000000) (Q .none (σ.set i (.list (vs ++ [v]))))
  | _ => False
def opBi (X : Ex) (b : Bi) (args : List V) (σ : Hp) (Q : V → Hp → Prop) : Prop := match b with
  | .len => match args with | [v] => biLen X v σ Q | _ => False
  | .abs => match args with | [.int a] => Q (.int (if a < 0 then -a else a)) σ | _ => False
  | .int => match args with | [v] => biInt v σ Q | _ => False
  | .range => biRange args σ Q
  | .sum => match args with | [v] => lsO v σ fun vs => intsV vs fun ns => Q (.int ns.sum) σ | _ => False
  | .bytes => match args with | [v] => lsO v σ fun vs => intsV vs fun ns => chk ((∀ n ∈ ns, 0 ≤ n ∧ n < 256) ∧ ns.length ≤ 1000000) (Q (.bytes (ns.map fun n => n.toNat.toUInt8)) σ) | _ => False
  | .isinstance => match args with | [a, b] => biIsi X a b σ Q | _ => False
  | .bisect => match args with | [v, x, lo] => biBis X v x lo σ Q | _ => False
  | .append => match args with | [.ref i, v] => getO σ i (apObj i v σ Q) | _ => False
  | .isdigit => match args with | [.bytes b] => Q (.bool (PySem.Builtin.Bytes.allOf PySem.Builtin.Bytes.isDigit b)) σ | _ => False
  | .find => match args with | [.bytes b, .bytes x] => Q (.int (FX.findB b.toArray x.toArray)) σ | _ => False
  | .decode => match args with | [.bytes b, .str e] => e = "ascii" ∧ ascii b fun x => Q (.str x) σ | _ => False
theorem opBi_ok {X : Ex} (ok : XOk X) {b : Bi} {args : List V} {σ : Hp} {Q : V → Hp → Prop} (h : opBi X b args σ Q) : FN X.c X.D (.val b.val) args [] σ Q := by
  unfold opBi at h
  split at h
  · split at h
    · obtain ⟨u, k, h⟩ := of_kvN ok h
      refine k.fn1 ?_
      split at h
      · exact fn_len_bytes (of_chk h).1 (of_chk h).2
      · exact fn_len_tup (of_chk h).1 (of_chk h).2
      · exact fn_len_lst (of_chk h).1 (of_chk h).2
      · obtain ⟨o, ho, h1⟩ := of_getO h
        unfold lenObj at h1
        split at h1
        · exact fn_len_list ho (of_chk h1).1 (of_chk h1).2
        · rename_i C fs
          have hc := ok.cls C 42
          split at h1
          · rename_i f e; rw [e] at hc
            obtain ⟨_, c2, c3, _⟩ := hc
            obtain ⟨D, eD, hf⟩ := of_FCd h1
            rw [eD]
            exact fn_len_inst ho c2 c3 (hf.mono fun v σ' h => lenR_inv h)
          · exact h1.elim
        · exact h1.elim
      · rename_i C fs
        have hc := ok.cls C 42
        split at h
        · rename_i f e; rw [e] at hc
          obtain ⟨_, c2, c3, _⟩ := hc
          obtain ⟨D, eD, hf⟩ := of_FCd h
          rw [eD]
          exact fn_len_obj c2 c3 (hf.mono fun v σ' h => lenR_inv h)
        · exact h.elim
      · exact h.elim
    · exact h.elim
  · split at h
    · exact fn_abs h
    · exact h.elim
  · split at h
    · unfold biInt at h
      split at h
      · exact fn_int h
      · exact fn_int_bool h
      · unfold intText at h
        obtain ⟨n, h1, h2, h3⟩ := h
        exact fn_int_text h1 h2 h3
      · exact h.elim
    · exact h.elim
  · unfold biRange at h
    split at h
    · exact fn_range1 h
    · exact fn_range2 h
    · exact fn_range3 (of_chk h).1.1 (of_chk h).1.2 (of_chk h).2
    · exact h.elim
  · split at h
    · obtain ⟨vs, hv, h1⟩ := of_lsO h
      obtain ⟨is, rfl, h2⟩ := of_intsV h1
      exact fn_sum hv h2
    · exact h.elim
  · split at h
    · obtain ⟨vs, hv, h1⟩ := of_lsO h
      obtain ⟨is, rfl, h2⟩ := of_intsV h1
      exact fn_bytes hv (of_chk h2).1.1 (of_chk h2).1.2 (of_chk h2).2
    · exact h.elim
  · split at h
    · unfold biIsi at h
      split at h
      · split at h
        · split at h
          · exact fn_isi_obj h.1 h.2
          · exact h.elim
        · exact h.elim
      · split at h
        · obtain ⟨rfl, h⟩ := h
          exact fn_isi_bytes h
        · exact h.elim
      · exact h.elim
    · exact h.elim
  · split at h
    · obtain ⟨u, k, h⟩ := of_kvN ok h
      refine k.fn1 ?_
      obtain ⟨vs, hv, h1⟩ := of_lsO h
      obtain ⟨is, rfl, h2⟩ := of_intsV h1
      split at h2
      · split at h2
        · obtain ⟨⟨a, b, c⟩, d⟩ := of_chk h2
          obtain ⟨lo, rfl⟩ := Int.eq_ofNat_of_zero_le a
          exact fn_bisect hv c (by omega) (by simpa using d)
        · exact h2.elim
      · exact h2.elim
    · exact h.elim
  · split at h
    · obtain ⟨o, ho, h1⟩ := of_getO h
      unfold apObj at h1
      split at h1
      · exact fn_append ho (of_chk h1).1 (of_chk h1).2
      · exact h1.elim
    · exact h.elim
  · split at h
    · exact fn_isdigit h
    · exact h.elim
  · split at h
    · exact fn_find h
    · exact h.elim
  · split at h
    · obtain ⟨rfl, h⟩ := h
      unfold ascii at h
      obtain ⟨x, h1, h2⟩ := h
      exact fn_decode h1 h2
    · exact h.elim

-- CALLS
inductive Tg where | fn (f : Addr) | bi (b : Bi)
def Tg.v : Tg → V
  | .fn f => .val (.ref f)
  | .bi b => .val b.val
def callF (X : Ex) (f : Addr) (args : List V) (kws : List (Str × V)) (σ : Hp) (Q : V → Hp → Prop) : Prop := match kws with
  | [] => match X.pur f args with
    | some v => Q v σ
    | none => FC X.c X.D (.val (.ref f)) args [] σ Q
  | kws => FC X.c X.D (.val (.ref f)) args kws σ Q
theorem callF_ok {X : Ex} (ok : XOk X) {f : Addr} {args : List V} {kws : List (Str × V)} {σ : Hp} {Q : V → Hp → Prop} (h : callF X f args kws σ Q) : FN X.c X.D (.val (.ref f)) args kws σ Q := by
  unfold callF at h
  split at h
  · split at h
    · rename_i v e; exact (ok.pur _ _ _ e _ _ h).fn
    · exact h.fn
  · exact h.fn
def callT (X : Ex) (t : Tg) (args : List V) (kws : List (Str × V)) (σ : Hp) (Q : V → Hp → Prop) : Prop := match t with
  | .fn f => callF X f args kws σ Q
  | .bi b => match kws with | [] => opBi X b args σ Q | _ => False
theorem callT_ok {X : Ex} (ok : XOk X) {t : Tg} {args : List V} {kws : List (Str × V)} {σ : Hp} {Q : V → Hp → Prop} (h : callT X t args kws σ Q) : FN X.c X.D t.v args kws σ Q := by
  unfold callT at h
  split at h
  · exact callF_ok ok h
  · split at h
    · exact opBi_ok ok h
    · exact h.elim
def lmObj (X : Ex) (i k : Nat) (QM : Tg → V → Prop) : AO → Prop
  | .inst C fs => hi (match X.cls C k with
    | .meth f => match noKey k fs with | true => QM (.fn f) (.ref i) | false => False
    | _ => False)
  | .list _ => hi (match k with | 0 => QM (.bi .append) (.ref i) | _ => False)
  | _ => False
def opMeth (X : Ex) (k : Nat) (ov : V) (σ : Hp) (QM : Tg → V → Prop) : Prop := match ov with
  | .ref i => getO σ i (lmObj X i k QM)
  | .obj C fs => match X.cls C k with
    | .meth f => match noKey k fs with | true => QM (.fn f) (.obj C fs) | false => False
    | _ => False
  | .bytes b => match k with | 2 => QM (.bi .isdigit) (.bytes b) | 3 => QM (.bi .find) (.bytes b) | 4 => QM (.bi .decode) (.bytes b) | _ => False
  | _ => False
theorem opMeth_ok {X : Ex} (ok : XOk X) {env : Env} {k : Nat} {ov : V} {l : Loc} {σ : Hp} {QM : Tg → V → Prop} (h : opMeth X k ov σ QM) :
    EM X.c env X.D ov (nm k) l σ fun vf first σ' => ∃ t f, vf = t.v ∧ first = [f] ∧ σ' = σ ∧ KeepOk X.c vf ∧ QM t f := by
  unfold opMeth at h
  split at h
  · obtain ⟨o, ho, h1⟩ := of_getO h
    unfold lmObj at h1
    split at h1
    · rename_i C fs
      have hc := ok.cls C k
      split at h1
      · rename_i f e; rw [e] at hc
        obtain ⟨c1, c2, c3, c4⟩ := hc
        split at h1
        · rename_i g
          exact em_inst ho g c1 c2 c3 ⟨.fn f, _, rfl, rfl, rfl, c4, h1⟩
        · exact h1.elim
      · exact h1.elim
    · split at h1
      · exact em_append ho ⟨.bi .append, _, rfl, rfl, rfl, Bi.keep .append, h1⟩
      · exact h1.elim
    · exact h1.elim
  · rename_i C fs
    have hc := ok.cls C k
    split at h
    · rename_i f e; rw [e] at hc
      obtain ⟨c1, c2, c3, c4⟩ := hc
      split at h
      · rename_i g
        exact em_obj g c1 c2 c3 ⟨.fn f, _, rfl, rfl, rfl, c4, h⟩
      · exact h.elim
    · exact h.elim
  · split at h
    · exact em_bytes FX.slot_isdigit FX.type_isdigit ⟨.bi .isdigit, _, rfl, rfl, rfl, Bi.keep .isdigit, h⟩
    · exact em_bytes FX.slot_find FX.type_find ⟨.bi .find, _, rfl, rfl, rfl, Bi.keep .find, h⟩
    · exact em_bytes FB.slot_bytes_decode FB.type_bytes_decode ⟨.bi .decode, _, rfl, rfl, rfl, Bi.keep .decode, h⟩
    · exact h.elim
  · exact h.elim

-- LOOPS
def rngI (a b st : Int) (K : List V → Prop) : Prop := hi (match st == 1 with
  | true => chk (-1000000 ≤ a ∧ a ≤ 1000000 ∧ -1000000 ≤ b ∧ b ≤ 1000000) (K (rngVs a 1 (b - a).toNat))
  | false => chk (Builtin.Range.small a b st = true ∧ 0 ≤ Builtin.Range.rangeSize a b st) (K (rngVs a st (Builtin.Range.rangeSize a b st).toNat)))
abbrev Sgo := Option (Nat × List V)
def sgP (sg : Sgo) (σ : Hp) : Prop := match sg with
  | none => True
  | some p => σ[p.1]? = some (.list p.2)
def sgC (sg : Sgo) (σ : Hp) (K : Prop) : Prop := match sg with
  | none => K
  | some p => σ[p.1]? = some (.list p.2) ∧ K
theorem of_sgC {sg : Sgo} {σ : Hp} {K : Prop} (h : sgC sg σ K) : sgP sg σ ∧ K := by
  cases sg with
  | none => exact ⟨trivial, h⟩
  | some p => exact h
def itObjs (i : Nat) (K : List V → Sgo → Prop) : AO → Prop
  | .list vs => hi (K vs (some (i, vs)))
  | _ => False
def opIter (X : Ex) (v : V) (σ : Hp) (K : List V → Sgo → Prop) : Prop := kvN X v fun v => match v with
  | .rng a b st => rngI a b st fun vs => K vs none
  | .lst vs => K vs none
  | .tup vs => K vs none
  | .bytes b => K (b.map fun x => V.int (x.toNat : Int)) none
  | .ref i => getO σ i (itObjs i K)
  | _ => False
theorem it_rng1 {c : Cx} {a b : Int} (h : -1000000 ≤ a ∧ a ≤ 1000000 ∧ -1000000 ≤ b ∧ b ≤ 1000000) : Iterable c (.rng a b 1) (rngVs a 1 (b - a).toNat) (fun _ => True) :=
  it_range (small_one (by omega) (by omega) (by omega) (by omega)) (by rw [rangeSize_one]; split <;> omega)
theorem opIter_ok {X : Ex} (ok : XOk X) {v : V} {σ : Hp} {K : List V → Sgo → Prop} (h : opIter X v σ K) : ∃ vs sg, Iterable X.c v vs (sgP sg) ∧ sgP sg σ ∧ K vs sg := by
  obtain ⟨u, k, h⟩ := of_kvN ok h
  split at h
  · unfold rngI at h
    split at h
    · rename_i e
      have e1 := eq_of_beq e
      rw [e1] at k
      exact ⟨_, none, k.iter (it_rng1 (of_chk h).1), trivial, (of_chk h).2⟩
    · obtain ⟨⟨h1, h2⟩, h3⟩ := of_chk h
      exact ⟨_, none, k.iter (it_range h1 (by omega)), trivial, h3⟩
  · exact ⟨_, none, k.iter it_lst, trivial, h⟩
  · exact ⟨_, none, k.iter it_tup, trivial, h⟩
  · exact ⟨_, none, k.iter it_bytes, trivial, h⟩
  · obtain ⟨o, ho, h1⟩ := of_getO h
    unfold itObjs at h1
    split at h1
    · exact ⟨_, some (_, _), k.iter it_own, ho, h1⟩
    · exact h1.elim
  · exact h.elim
def aft (N : List V → Hp → Prop) (Q : Fl → List V → Hp → Prop) : Fl → List V → Hp → Prop := fun f l σ => match f with
  | .next => N l σ
  | .cont => N l σ
  | .brk => Q .next l σ
  | .ret v => Q (.ret v) l σ
def forU (X : Ex) (wt : WA) (wb : WX) (sg : Sgo) : List V → List V → Hp → (Fl → List V → Hp → Prop) → Prop
  | [], l, σ, Q => Q .next l σ
  | v :: vs, l, σ, Q => wt X v l σ fun l₁ σ₁ => wb X l₁ σ₁ (aft (fun l₂ σ₂ => sgC sg σ₂ (forU X wt wb sg vs l₂ σ₂ Q)) Q)
@[irreducible] def forJ (X : Ex) (wt : WA) (wb : WX) (sg : Sgo) (vs : List V) (l : List V) (σ : Hp) (Q : Fl → List V → Hp → Prop) : Prop :=
  ∃ J : Nat → List V → Hp → Prop, J 0 l σ ∧ (∀ i l σ, J i l σ → sgP sg σ) ∧ (∀ i v l σ, vs[i]? = some v → J i l σ → wt X v l σ fun l₁ σ₁ => wb X l₁ σ₁ (aft (J (i + 1)) Q)) ∧ ∀ l σ, J vs.length l σ → Q .next l σ
theorem forJ_of {X : Ex} {wt : WA} {wb : WX} {sg : Sgo} {vs : List V} {l : List V} {σ : Hp} {Q : Fl → List V → Hp → Prop} (J : Nat → List V → Hp → Prop) (h0 : J 0 l σ) (hs : ∀ i l σ, J i l σ → sgP sg σ)
    (ht : ∀ i v l σ, vs[i]? = some v → J i l σ → wt X v l σ fun l₁ σ₁ => wb X l₁ σ₁ (aft (J (i + 1)) Q)) (he : ∀ l σ, J vs.length l σ → Q .next l σ) : forJ X wt wb sg vs l σ Q := by unfold forJ; exact ⟨J, h0, hs, ht, he⟩
theorem forJ_un {X : Ex} {wt : WA} {wb : WX} {sg : Sgo} {vs : List V} {l : List V} {σ : Hp} {Q : Fl → List V → Hp → Prop} (h0 : sgP sg σ) (h : forU X wt wb sg vs l σ Q) : forJ X wt wb sg vs l σ Q := by
  refine forJ_of (fun i l σ => sgC sg σ (forU X wt wb sg (vs.drop i) l σ Q)) ?_ (fun i l σ h => (of_sgC h).1) (fun i v l σ hv hj => ?_) (fun l σ hj => ?_)
  · cases sg with
    | none => exact h
    | some p => exact ⟨h0, h⟩
  · have := (of_sgC hj).2
    rw [List.drop_eq_getElem_cons (List.getElem?_eq_some_iff.mp hv).1, (List.getElem?_eq_some_iff.mp hv).2] at this
    exact this
  · have := (of_sgC hj).2
    rw [List.drop_length] at this
    exact this
def forS (X : Ex) (wt : WA) (wb : WX) (sg : Sgo) (vs : List V) (l : List V) (σ : Hp) (Q : Fl → List V → Hp → Prop) : Prop := match X.run with
  | true => forU X wt wb sg vs l σ Q
  | false => forJ X wt wb sg vs l σ Q
def whileU (X : Ex) (wt : WB) (wb : WX) : Nat → List V → Hp → (Fl → List V → Hp → Prop) → Prop
  | 0, _, _, _ => False
  | n + 1, l, σ, Q => wt X l σ fun b σ₁ => br b (wb X l σ₁ (aft (fun l₂ σ₂ => whileU X wt wb n l₂ σ₂ Q) Q)) (Q .next l σ₁)
@[irreducible] def whileJ (X : Ex) (wt : WB) (wb : WX) (l : List V) (σ : Hp) (Q : Fl → List V → Hp → Prop) : Prop :=
  ∃ (J : Nat → List V → Hp → Prop) (n : Nat), J n l σ ∧ ∀ n l σ, J n l σ → wt X l σ fun b σ₁ => br b (wb X l σ₁ (aft (fun l₂ σ₂ => ∃ m, m < n ∧ J m l₂ σ₂) Q)) (Q .next l σ₁)
theorem whileJ_of {X : Ex} {wt : WB} {wb : WX} {l : List V} {σ : Hp} {Q : Fl → List V → Hp → Prop} (J : Nat → List V → Hp → Prop) (n : Nat) (h0 : J n l σ)
    (ht : ∀ n l σ, J n l σ → wt X l σ fun b σ₁ => br b (wb X l σ₁ (aft (fun l₂ σ₂ => ∃ m, m < n ∧ J m l₂ σ₂) Q)) (Q .next l σ₁)) : whileJ X wt wb l σ Q := by unfold whileJ; exact ⟨J, n, h0, ht⟩
def whileS (X : Ex) (wt : WB) (wb : WX) (l : List V) (σ : Hp) (Q : Fl → List V → Hp → Prop) : Prop := match X.run with
  | true => whileU X wt wb 10000 l σ Q
  | false => whileJ X wt wb l σ Q
end
section
open PySem PySem.W PyProof.Rows PySem.Calls
section
variable {c : Cx} {env : Env} {ns : List Str} {pos : Pos}

-- CONDITIONS
def valB (w : WE) : WB := fun X l σ Q => w X l σ fun v σ₁ => opT X v σ₁ fun b => Q b σ₁
theorem cb_val {e : Expr} {w : WE} (h : CE c env ns e w) (hs : isTrue e env (eval e env) = (do let v ← eval e env; standAt e.pos; holding [v] (truthy v)) := by with_unfolding_all rfl) : CB c env ns e (valB w) :=
  fun X ec ok l σ Q hl h1 => by
    subst ec
    exact eb_plain ((h X rfl ok l σ _ hl h1).mono fun v σ₁ h2 => opT_ok h2) hs
def notB (w : WB) : WB := fun X l σ Q => w X l σ fun b σ₁ => Q (!b) σ₁
theorem cb_not {e : Expr} {w : WB} (h : CB c env ns e w) : CB c env ns (.UnaryOp .Not e pos) (notB w) :=
  fun X ec ok l σ Q hl h1 => eb_not (h X ec ok l σ _ hl h1)
def andB (a b : WB) : WB := fun X l σ Q => a X l σ fun r σ₁ => br r (b X l σ₁ Q) (Q false σ₁)
def orB (a b : WB) : WB := fun X l σ Q => a X l σ fun r σ₁ => br r (Q true σ₁) (b X l σ₁ Q)
def litB (r : Bool) : WB := fun X l σ Q => Q r σ
theorem cbs_and {e : Expr} {es : List Expr} {a b : WB} (h : CB c env ns e a) (h' : CBs c env ns .And es b) : CBs c env ns .And (e :: es) (andB a b) :=
  fun X ec ok l σ Q hl h1 => by
    subst ec
    exact eb_and ((h X rfl ok l σ _ hl h1).mono fun r σ₁ h2 => ⟨fun e => h' X rfl ok l σ₁ Q hl ((of_br h2).1 e), fun e => (of_br h2).2 e⟩)
theorem cbs_or {e : Expr} {es : List Expr} {a b : WB} (h : CB c env ns e a) (h' : CBs c env ns .Or es b) : CBs c env ns .Or (e :: es) (orB a b) :=
  fun X ec ok l σ Q hl h1 => by
    subst ec
    exact eb_or ((h X rfl ok l σ _ hl h1).mono fun r σ₁ h2 => ⟨fun e => h' X rfl ok l σ₁ Q hl ((of_br h2).2 e), fun e => (of_br h2).1 e⟩)
theorem cbs_andE : CBs c env ns .And [] (litB true) := fun X ec ok l σ Q hl h => eb_andE h
theorem cbs_orE : CBs c env ns .Or [] (litB false) := fun X ec ok l σ Q hl h => eb_orE h
theorem cb_bop {op : BoolOp} {es : List Expr} {w : WB} (h : CBs c env ns op es w) : CB c env ns (.BoolOp op es pos) w :=
  fun X ec ok l σ Q hl h1 => eb_bop (h X ec ok l σ Q hl h1)

-- EXPRESSIONS
def notW (w : WE) : WE := fun X l σ Q => w X l σ fun v σ₁ => opT X v σ₁ fun b => Q (.bool (!b)) σ₁
theorem ce_not {e : Expr} {w : WE} (h : CE c env ns e w) : CE c env ns (.UnaryOp .Not e pos) (notW w) :=
  fun X ec ok l σ Q hl h1 => by
    subst ec
    exact ev_not ((h X rfl ok l σ _ hl h1).mono fun v σ₁ h2 => opT_ok h2)
def iteW (t : WB) (a b : WE) : WE := fun X l σ Q => t X l σ fun r σ₁ => br r (a X l σ₁ Q) (b X l σ₁ Q)
theorem ce_ite {t a b : Expr} {wt : WB} {wa wb : WE} (ht : CB c env ns t wt) (ha : CE c env ns a wa) (hb : CE c env ns b wb) : CE c env ns (.IfExp t a b pos) (iteW wt wa wb) :=
  fun X ec ok l σ Q hl h1 => by
    subst ec
    exact ev_if ((ht X rfl ok l σ _ hl h1).mono fun r σ₁ h2 => ⟨fun e => ha X rfl ok l σ₁ Q hl ((of_br h2).1 e), fun e => hb X rfl ok l σ₁ Q hl ((of_br h2).2 e)⟩)
def andW (a b : WE) : WE := fun X l σ Q => a X l σ fun v σ₁ => opT X v σ₁ fun r => br r (b X l σ₁ Q) (Q v σ₁)
def orW (a b : WE) : WE := fun X l σ Q => a X l σ fun v σ₁ => opT X v σ₁ fun r => br r (Q v σ₁) (b X l σ₁ Q)
theorem ET.mono {c : Cx} {env : Env} {D : Nat} {v : V} {l : Loc} {σ : Hp} {Q Q' : Bool → Hp → Prop} (h : ET c env D v l σ Q) (k : ∀ v σ', Q v σ' → Q' v σ') : ET c env D v l σ Q' :=
  fun A g ρ z s Q₁ E₁ w ok R r q => h A g ρ z s Q₁ E₁ w ok R r fun v σ' ρ' z' s' hq => q v σ' ρ' z' s' (k _ _ hq)
theorem opT_okF {X : Ex} {env : Env} {v : V} {l : Loc} {σ : Hp} {F : Bool → Prop} (h : opT X v σ F) : ET X.c env X.D v l σ (fun r σ' => σ' = σ ∧ F r) :=
  opT_ok (by have e : F = fun b => σ = σ ∧ F b := by funext b; simp
             rw [e] at h; exact h)
theorem ce_bop1 {a : Expr} {op : BoolOp} {wa : WE} (ha : CE c env ns a wa) : CE c env ns (.BoolOp op [a] pos) wa := fun X ec ok l σ Q hl h1 => ev_bool1 (ha X ec ok l σ Q hl h1)
theorem ce_and {a b : Expr} {rest : List Expr} {wa wb : WE} (ha : CE c env ns a wa) (hb : CE c env ns (.BoolOp .And (b :: rest) pos) wb) : CE c env ns (.BoolOp .And (a :: b :: rest) pos) (andW wa wb) :=
  fun X ec ok l σ Q hl h1 => by
    subst ec
    exact ev_and ((ha X rfl ok l σ _ hl h1).mono fun v σ₁ h2 => (opT_okF h2).mono fun r σ₂ ⟨e, h⟩ => by
      subst e; exact ⟨fun e => hb X rfl ok l _ Q hl ((of_br h).1 e), fun e => (of_br h).2 e⟩)
theorem ce_or {a b : Expr} {rest : List Expr} {wa wb : WE} (ha : CE c env ns a wa) (hb : CE c env ns (.BoolOp .Or (b :: rest) pos) wb) : CE c env ns (.BoolOp .Or (a :: b :: rest) pos) (orW wa wb) :=
  fun X ec ok l σ Q hl h1 => by
    subst ec
    exact ev_or ((ha X rfl ok l σ _ hl h1).mono fun v σ₁ h2 => (opT_okF h2).mono fun r σ₂ ⟨e, h⟩ => by
      subst e; exact ⟨fun e => hb X rfl ok l _ Q hl ((of_br h).2 e), fun e => (of_br h).1 e⟩)
def attrW (k : Nat) (w : WE) : WE := fun X l σ Q => w X l σ fun v σ₁ => opAttr X k v σ₁ Q
theorem ce_attr {o : Expr} {attr : Str} {k : Nat} {w : WE} (ho : CE c env ns o w) (hk : nm k = attr) (he : eval (.Attribute o attr pos) env = (do
      let ov ← eval o env
      standAt pos.atName
      let r ← holding [ov] (getAttr ov attr true)
      letTemporaryGo o ov r
      pure r) := by with_unfolding_all rfl) : CE c env ns (.Attribute o attr pos) (attrW k w) :=
  fun X ec ok l σ Q hl h1 => by
    subst ec hk
    exact ev_attr' ((ho X rfl ok l σ _ hl h1).mono fun v σ₁ h2 => opAttr_ok ok h2) he
def itemW (wo wi : WE) : WE := fun X l σ Q => wo X l σ fun ov σ₁ => wi X l σ₁ fun iv σ₂ => opItem X ov iv σ₂ Q
theorem ce_item {o i : Expr} {wo wi : WE} (ho : CE c env ns o wo) (hi : CE c env ns i wi) (hs : notSlice i = true) : CE c env ns (.Subscript o i pos) (itemW wo wi) :=
  fun X ec ok l σ Q hl h1 => by
    subst ec
    exact ev_item ((ho X rfl ok l σ _ hl h1).mono fun ov σ₁ h2 => (hi X rfl ok l σ₁ _ hl h2).mono fun iv σ₂ h3 => opItem_ok ok hs h3)
abbrev WO := Ex → List V → Hp → (Option Int → Hp → Prop) → Prop
def CO (c : Cx) (env : Env) (ns : List Str) (e : Option Expr) (w : WO) : Prop :=
  ∀ X : Ex, X.c = c → XOk X → ∀ l σ Q, l.length = ns.length → w X l σ Q → EO c env X.D e (ns.zip l) σ Q
def noneO : WO := fun X l σ Q => Q none σ
def partO (v : V) (K : Option Int → Prop) : Prop := hi (match v with
  | .int i => K (some i)
  | _ => False)
def someO (w : WE) : WO := fun X l σ Q => w X l σ fun v σ₁ => partO v fun i => Q i σ₁
theorem co_none : CO c env ns none noneO := fun X ec ok l σ Q hl h => eo_none h
theorem co_some {e : Expr} {w : WE} (h : CE c env ns e w) : CO c env ns (some e) (someO w) :=
  fun X ec ok l σ Q hl h1 => by
    subst ec
    refine eo_some ((h X rfl ok l σ _ hl h1).mono fun v σ₁ h2 => ?_)
    unfold partO at h2
    split at h2
    · exact ⟨_, rfl, h2⟩
    · exact h2.elim
def sliceW (wo : WE) (lo hi : WO) : WE := fun X l σ Q => wo X l σ fun ov σ₁ => lo X l σ₁ fun a σ₂ => hi X l σ₂ fun b σ₃ => opSlice X ov a b σ₃ Q
theorem EO.mono {c : Cx} {env : Env} {D : Nat} {x : Option Expr} {l : Loc} {σ : Hp} {Q Q' : Option Int → Hp → Prop} (h : EO c env D x l σ Q) (k : ∀ v σ', Q v σ' → Q' v σ') : EO c env D x l σ Q' :=
  fun A g ρ z s Q₁ E₁ ok R q => h A g ρ z s Q₁ E₁ ok R fun v w σ' ρ' z' s' hq => q v w σ' ρ' z' s' (k _ _ hq)
theorem ce_slice {o : Expr} {lo hi : Option Expr} {p : Pos} {wo : WE} {wl wh : WO} (ho : CE c env ns o wo) (hl : CO c env ns lo wl) (hh : CO c env ns hi wh) : CE c env ns (.Subscript o (.Slice lo hi none p) pos) (sliceW wo wl wh) :=
  fun X ec ok l σ Q hn h1 => by
    subst ec
    exact ev_sliceN ((ho X rfl ok l σ _ hn h1).mono fun ov σ₁ h2 => (hl X rfl ok l σ₁ _ hn h2).mono fun a σ₂ h3 => (hh X rfl ok l σ₂ _ hn h3).mono fun b σ₃ h4 => opSlice_ok ok h4)

-- ARGUMENTS
def nilL : WL := fun X l σ Q => Q [] σ
def consL (w : WE) (ws : WL) : WL := fun X l σ Q => w X l σ fun v σ₁ => ws X l σ₁ fun vs σ₂ => Q (v :: vs) σ₂
theorem cl_nil : CL c env ns pos [] nilL := ⟨rfl, fun X ec ok l σ Q hl h => el_nil h⟩
theorem cl_cons {e : Expr} {es : List Expr} {w : WE} {ws : WL} (h : CE c env ns e w) (hs : CL c env ns pos es ws) (he : starEach (e :: es) env = (false, eval e env) :: starEach es env := by (subst_vars; kernel_rfl)) : CL c env ns pos (e :: es) (consL w ws) :=
  ⟨by rw [he]; simpa [backTo] using hs.1, fun X ec ok l σ Q hl h1 => by
    subst ec
    exact el_cons hs.1 ((h X rfl ok l σ _ hl h1).mono fun v σ₁ h2 => hs.2 X rfl ok l σ₁ _ hl h2) he⟩
def nilK : WK := fun X l σ Q => Q [] σ
def consK (x : Str) (w : WE) (ws : WK) : WK := fun X l σ Q => w X l σ fun v σ₁ => ws X l σ₁ fun vs σ₂ => Q ((x, v) :: vs) σ₂
theorem ck_nil : CK c env ns pos [] nilK := ⟨rfl, fun X ec ok l σ Q hl h => ek_nil h⟩
theorem ck_cons {x : Str} {e : Expr} {kp : Pos} {es : List Keyword} {w : WE} {ws : WK} (h : CE c env ns e w) (hs : CK c env ns pos es ws) : CK c env ns pos (⟨some x, e, kp⟩ :: es) (consK x w ws) :=
  ⟨by simpa [backToKw, keywordEach] using hs.1, fun X ec ok l σ Q hl h1 => by
    subst ec
    exact ek_cons hs.1 ((h X rfl ok l σ _ hl h1).mono fun v σ₁ h2 => hs.2 X rfl ok l σ₁ _ hl h2)⟩

-- DISPLAYS
def listW (ws : WL) : WE := fun X l σ Q => ws X l σ fun vs σ₁ => chk (vs.length ≤ 1000000) (Q (.ref σ₁.length) (σ₁ ++ [.list vs]))
theorem ce_list {es : List Expr} {ws : WL} (h : CL c env ns pos es ws) : CE c env ns (.List es pos) (listW ws) :=
  fun X ec ok l σ Q hl h1 => by
    subst ec
    exact ev_list ((h.2 X rfl ok l σ _ hl h1).mono fun vs σ₁ h2 => of_chk h2)
def tupW (ws : WL) : WE := fun X l σ Q => ws X l σ fun vs σ₁ => chk (vs.length ≤ 1000000) (Q (.tup vs) σ₁)
theorem ce_tup {es : List Expr} {k : Nat} {ws : WL} (h : CL c env ns pos es ws) : CE c env ns (.Tuple es k pos) (tupW ws) :=
  fun X ec ok l σ Q hl h1 => by
    subst ec
    exact ev_tuple ((h.2 X rfl ok l σ _ hl h1).mono fun vs σ₁ h2 => of_chk h2)

-- CALLS
def callW (t : Tg) (ws : WL) (wk : WK) : WE := fun X l σ Q => ws X l σ fun vs σ₁ => wk X l σ₁ fun ks σ₂ => callT X t vs ks σ₂ Q
theorem ce_callT {x : Str} {p : Pos} {args : List Expr} {kws : List Keyword} {t : Tg} {ws : WL} {wk : WK} (hx : ∀ X : Ex, X.c = c → ∀ l σ (Q : V → Hp → Prop), Q t.v σ → EV c env X.D (eval (.Name x p) env) l σ Q) (hk : KeepOk c t.v)
    (h : CL c env ns pos args ws) (hw : CK c env ns pos kws wk) (he : eval (.Call (.Name x p) args kws pos) env = (do callWith pos (← eval (.Name x p) env) [] (backTo pos (starEach args env)) (backToKw pos (keywordEach kws env))) := by (subst_vars; kernel_rfl)) :
    CE c env ns (.Call (.Name x p) args kws pos) (callW t ws wk) :=
  fun X ec ok l σ Q hl h1 => by
    subst ec
    exact ev_call hw.1 (hx X rfl _ _ _ ⟨hk, (h.2 X rfl ok l σ _ hl h1).mono fun vs σ₁ h2 => (hw.2 X rfl ok l σ₁ _ hl h2).mono fun ks σ₂ h3 => callT_ok ok h3⟩) he
theorem ce_calld {x : Str} {p : Pos} {args : List Expr} {kws : List Keyword} {f : Addr} {ws : WL} {wk : WK} (e : nsIn c.K mainGlobals x = some (some (.ref f))) (hk : keepIn c.K (.ref f) = true)
    (h : CL c env ns pos args ws) (hw : CK c env ns pos kws wk) (he : eval (.Call (.Name x p) args kws pos) env = (do callWith pos (← eval (.Name x p) env) [] (backTo pos (starEach args env)) (backToKw pos (keywordEach kws env))) := by (subst_vars; kernel_rfl))
    (hkd : env.kindOf x = some .globalImplicit := by (subst_vars; kernel_rfl)) (hd : (x == ("__debug__" : Str)) = false := by decide +kernel) : CE c env ns (.Call (.Name x p) args kws pos) (callW (.fn f) ws wk) :=
  ce_callT (t := .fn f) (fun X _ l σ Q hq => ev_glob e hq hkd hd) hk h hw he
theorem absV_val (b : Bi) : absV b.val = .val b.val := by cases b <;> rfl
theorem ce_callb {x : Str} {p : Pos} {args : List Expr} {kws : List Keyword} (b : Bi) {ws : WL} {wk : WK} (e : nsIn c.K mainGlobals x = some none) {bv : Value} (hb : bootBuiltins x = some bv) (hbv : bv = b.val)
    (h : CL c env ns pos args ws) (hw : CK c env ns pos kws wk) (he : eval (.Call (.Name x p) args kws pos) env = (do callWith pos (← eval (.Name x p) env) [] (backTo pos (starEach args env)) (backToKw pos (keywordEach kws env))) := by (subst_vars; kernel_rfl))
    (hkd : env.kindOf x = some .globalImplicit := by (subst_vars; kernel_rfl)) (hn : x ≠ "__name__" := by decide +kernel) (hd : (x == ("__debug__" : Str)) = false := by decide +kernel) : CE c env ns (.Call (.Name x p) args kws pos) (callW (.bi b) ws wk) :=
  ce_callT (t := .bi b) (fun X _ l σ Q hq => ev_bltn e (hbv ▸ hb) (by rw [absV_val]; exact hq) hkd hn hd) (Bi.keep b) h hw he
/-- a built-in that stands in the module's own namespace -/
theorem ce_callg {x : Str} {p : Pos} {args : List Expr} {kws : List Keyword} (b : Bi) {ws : WL} {wk : WK} {bv : Value} (e : nsIn c.K mainGlobals x = some (some bv)) (hbv : bv = b.val)
    (h : CL c env ns pos args ws) (hw : CK c env ns pos kws wk) (he : eval (.Call (.Name x p) args kws pos) env = (do callWith pos (← eval (.Name x p) env) [] (backTo pos (starEach args env)) (backToKw pos (keywordEach kws env))) := by (subst_vars; kernel_rfl))
    (hkd : env.kindOf x = some .globalImplicit := by (subst_vars; kernel_rfl)) (hd : (x == ("__debug__" : Str)) = false := by decide +kernel) : CE c env ns (.Call (.Name x p) args kws pos) (callW (.bi b) ws wk) :=
  ce_callT (t := .bi b) (fun X _ l σ Q hq => ev_glob (hbv ▸ e) (by rw [absV_val]; exact hq) hkd hd) (Bi.keep b) h hw he
def methW (k : Nat) (wo : WE) (ws : WL) (wk : WK) : WE := fun X l σ Q => wo X l σ fun ov σ₁ => opMeth X k ov σ₁ fun t f => ws X l σ₁ fun vs σ₂ => wk X l σ₂ fun ks σ₃ => callT X t (f :: vs) ks σ₃ Q
theorem EM.mono {c : Cx} {env : Env} {D : Nat} {v : V} {name : Str} {l : Loc} {σ : Hp} {Q Q' : V → List V → Hp → Prop} (h : EM c env D v name l σ Q) (k : ∀ v fs σ', Q v fs σ' → Q' v fs σ') : EM c env D v name l σ Q' :=
  fun A g ρ z s Q₁ E₁ w pl ok R r q => h A g ρ z s Q₁ E₁ w pl ok R r fun vf first wf wfirst σ' ρ' z' s' hq => q vf first wf wfirst σ' ρ' z' s' (k _ _ _ hq)
theorem ce_meth {o : Expr} {name : Str} {apos : Pos} {args : List Expr} {kws : List Keyword} {k : Nat} {pl : Sem Bool} {wo : WE} {ws : WL} {wk : WK} (ho : CE c env ns o wo) (hk : nm k = name) (h : CL c env ns pos args ws) (hw : CK c env ns pos kws wk)
    (he : eval (.Call (.Attribute o name apos) args kws pos) env = (do
      let ov ← eval o env
      standAt apos.atName
      let (f, first) ← holding [ov] (getMethod ov name pl)
      callWith pos f first (backTo pos (starEach args env)) (backToKw pos (keywordEach kws env))) := by with_unfolding_all rfl) : CE c env ns (.Call (.Attribute o name apos) args kws pos) (methW k wo ws wk) :=
  fun X ec ok l σ Q hl h1 => by
    subst ec hk
    refine ev_mcall (pl := pl) hw.1 ((ho X rfl ok l σ _ hl h1).mono fun ov σ₁ h2 => (opMeth_ok ok h2).mono fun vf first σ₂ hm => ?_) he
    obtain ⟨t, f, rfl, rfl, rfl, hkp, h3⟩ := hm
    exact ⟨hkp, (h.2 X rfl ok l _ _ hl h3).mono fun vs σ₃ h4 => (hw.2 X rfl ok l σ₃ _ hl h4).mono fun ks σ₄ h5 => callT_ok ok h5⟩

-- TARGETS
def asgA (i : Nat) : WA := fun X v l σ Q => updK l i v fun l' => Q l' σ
theorem ca_name {x : Str} {i : Nat} (h : At ns i x) (hk : env.kindOf x = some .local := by (subst_vars; kernel_rfl)) : CAs c env ns (.Name x pos) (asgA i) :=
  fun X ec ok v l σ Q hl h1 => by
    obtain ⟨hi, h2⟩ := updK_set h1
    exact ea_name (zip_up v h hl) ⟨l.set i v, by simpa using hl, rfl, h2⟩ hk
abbrev WAs := Ex → List V → List V → Hp → (List V → Hp → Prop) → Prop
def CAss (c : Cx) (env : Env) (ns : List Str) (ts : List Expr) (w : WAs) : Prop :=
  (assignEach ts env).length = ts.length ∧ (assignEach ts env).findIdx? (·.1) = none ∧
  ∀ X : Ex, X.c = c → XOk X → ∀ vs l σ Q, l.length = ns.length → vs.length = ts.length → w X vs l σ Q → EAs c env X.D ts vs (ns.zip l) σ (QA ns Q)
def nilA : WAs := fun X vs l σ Q => Q l σ
def consA (a : WA) (as : WAs) : WAs := fun X vs l σ Q => match vs with | v :: vs => a X v l σ fun l₁ σ₁ => as X vs l₁ σ₁ Q | [] => False
def tupA (n : Nat) (as : WAs) : WA := fun X v l σ Q => match v with | .tup vs => chk (vs.length = n) (as X vs l σ Q) | _ => False
theorem cas_nil : CAss c env ns [] nilA := ⟨rfl, rfl, fun X ec ok vs l σ Q hl hn h => by
  cases vs with
  | nil => exact eas_nil ⟨l, hl, rfl, h⟩
  | cons v vs => simp at hn⟩
theorem cas_cons {t : Expr} {ts : List Expr} {a : WA} {as : WAs} (h : CAs c env ns t a) (h' : CAss c env ns ts as) (he : assignEach (t :: ts) env = (false, assign t env) :: assignEach ts env := by (subst_vars; kernel_rfl)) : CAss c env ns (t :: ts) (consA a as) := by
  refine ⟨by rw [he]; simpa using h'.1, by rw [he, List.findIdx?_cons]; simpa using h'.2.1, fun X ec ok vs l σ Q hl hn h1 => ?_⟩
  subst ec
  cases vs with
  | nil => simp at hn
  | cons v vs =>
    refine eas_cons ((h X rfl ok v l σ _ hl h1).mono fun L τ h2 => ?_) he
    obtain ⟨l', hl', rfl, h3⟩ := h2
    exact h'.2.2 X rfl ok vs l' τ Q hl' (by simpa using hn) h3
theorem ca_tup {ts : List Expr} {k : Nat} {as : WAs} (h : CAss c env ns ts as) : CAs c env ns (.Tuple ts k pos) (tupA ts.length as) :=
  fun X ec ok v l σ Q hl h1 => by
    subst ec
    unfold tupA at h1
    split at h1
    · obtain ⟨hn, h2⟩ := of_chk h1
      exact ea_tuple (h.2.2 X rfl ok _ l σ Q hl hn h2) (by rw [h.1, hn]) h.2.1
    · exact h1.elim

-- STATEMENTS
def nilX : WX := fun X l σ Q => Q .next l σ
def thn (N : List V → Hp → Prop) (Q : Fl → List V → Hp → Prop) : Fl → List V → Hp → Prop := fun f l σ => match f with
  | .next => N l σ
  | .brk => Q .brk l σ
  | .cont => Q .cont l σ
  | .ret v => Q (.ret v) l σ
def seqX (a b : WX) : WX := fun X l σ Q => a X l σ (thn (fun l₁ σ₁ => b X l₁ σ₁ Q) Q)
theorem cxs_nil : CXs c env ns [] nilX := fun X ec ok l σ Q hl h => ex_nil ⟨l, hl, rfl, h⟩
theorem cxs_cons {s : Stmt} {r : List Stmt} {a b : WX} (h : CX c env ns s a) (h' : CXs c env ns r b) : CXs c env ns (s :: r) (seqX a b) :=
  fun X ec ok l σ Q hl h1 => by
    subst ec
    refine ex_cons ((h X rfl ok l σ _ hl h1).mono fun f L τ h2 => ?_)
    obtain ⟨l', hl', rfl, h3⟩ := h2
    cases f with
    | next => exact h' X rfl ok l' τ Q hl' h3
    | brk => exact ⟨l', hl', rfl, h3⟩
    | cont => exact ⟨l', hl', rfl, h3⟩
    | ret v => exact ⟨l', hl', rfl, h3⟩
theorem cxs_one {s : Stmt} {a : WX} (h : CX c env ns s a) : CXs c env ns [s] a :=
  fun X ec ok l σ Q hl h1 => by
    subst ec
    refine ex_cons ((h X rfl ok l σ _ hl h1).mono fun f L τ h2 => ?_)
    obtain ⟨l', hl', rfl, h3⟩ := h2
    cases f with
    | next => exact ex_nil ⟨l', hl', rfl, h3⟩
    | brk => exact ⟨l', hl', rfl, h3⟩
    | cont => exact ⟨l', hl', rfl, h3⟩
    | ret v => exact ⟨l', hl', rfl, h3⟩
def flX (f : Fl) : WX := fun X l σ Q => Q f l σ
theorem cx_pass : CX c env ns (.Pass pos) (flX .next) := fun X ec ok l σ Q hl h => ex_pass ⟨l, hl, rfl, h⟩
theorem cx_break : CX c env ns (.Break pos) (flX .brk) := fun X ec ok l σ Q hl h => ex_break ⟨l, hl, rfl, h⟩
theorem cx_continue : CX c env ns (.Continue pos) (flX .cont) := fun X ec ok l σ Q hl h => ex_continue ⟨l, hl, rfl, h⟩
theorem cx_retN : CX c env ns (.Return none pos) (flX (.ret .none)) := fun X ec ok l σ Q hl h => ex_retN ⟨l, hl, rfl, h⟩
def retX (w : WE) : WX := fun X l σ Q => w X l σ fun v σ₁ => Q (.ret v) l σ₁
theorem cx_ret {e : Expr} {w : WE} (h : CE c env ns e w) : CX c env ns (.Return (some e) pos) (retX w) := fun X ec ok l σ Q hl h1 => by
  subst ec
  exact ex_ret ((h X rfl ok l σ _ hl h1).mono fun v σ₁ h2 => ⟨l, hl, rfl, h2⟩)
def exprX (w : WE) : WX := fun X l σ Q => w X l σ fun _ σ₁ => Q .next l σ₁
theorem cx_expr {e : Expr} {w : WE} (h : CE c env ns e w) (hi : interactive env = false := by (subst_vars; kernel_rfl)) (hs : swapsWith e none pos.line env = pure false := by (subst_vars; kernel_rfl)) : CX c env ns (.Expr e pos) (exprX w) := fun X ec ok l σ Q hl h1 => by
  subst ec
  exact ex_expr ((h X rfl ok l σ _ hl h1).mono fun v σ₁ h2 => ⟨l, hl, rfl, h2⟩) hi hs
def asgX (i : Nat) (w : WE) : WX := fun X l σ Q => w X l σ fun v σ₁ => updK l i v fun l' => Q .next l' σ₁
theorem cx_asg {x : Str} {e : Expr} {p : Pos} {i : Nat} {w : WE} (hx : At ns i x) (h : CE c env ns e w) (hk : env.kindOf x = some .local := by (subst_vars; kernel_rfl)) (hs : swapsWith e (some (.Name x p)) pos.line env = pure false := by (subst_vars; kernel_rfl)) : CX c env ns (.Assign [.Name x p] e pos) (asgX i w) := fun X ec ok l σ Q hl h1 => by
  subst ec
  exact ex_assign' ((h X rfl ok l σ _ hl h1).mono fun v σ₁ h2 => by
    obtain ⟨hi, h3⟩ := updK_set h2
    exact ⟨_, zip_up v hx hl, l.set i v, by simpa using hl, rfl, h3⟩) hk hs
def asgC (i : Nat) (w : WE) : WX := fun X l σ Q => match nth l i with
  | .cell j => w X l σ fun v σ₁ => getO σ₁ j fun o => (∃ u, o = .cell u) ∧ Q .next l (σ₁.set j (.cell v))
  | _ => False
theorem cx_asgC {x : Str} {e : Expr} {p : Pos} {i : Nat} {w : WE} (hx : At ns i x) (h : CE c env ns e w) (hk : env.kindOf x = some .cell := by (subst_vars; kernel_rfl)) (hs : swapsWith e (some (.Name x p)) pos.line env = pure false := by (subst_vars; kernel_rfl)) : CX c env ns (.Assign [.Name x p] e pos) (asgC i w) := fun X ec ok l σ Q hl h1 => by
  subst ec
  have hm := zip_nth hx hl
  unfold asgC at h1
  split at h1
  · rename_i j e
    rw [e] at hm
    exact ex_assignC hm ((h X rfl ok l σ _ hl h1).mono fun v σ₁ h2 => by
      obtain ⟨o, ho, ⟨u, rfl⟩, h3⟩ := of_getO h2
      exact ⟨⟨u, ho⟩, l, hl, rfl, h3⟩) hk hs
  · exact h1.elim
def asgTX (a : WA) (w : WE) : WX := fun X l σ Q => w X l σ fun v σ₁ => a X v l σ₁ fun l' σ₂ => Q .next l' σ₂
theorem cx_asgT {ts : List Expr} {k : Nat} {e : Expr} {p : Pos} {a : WA} {w : WE} (ha : CAs c env ns (.Tuple ts k p) a) (h : CE c env ns e w) (hs : swapsWithSole [.Tuple ts k p] e pos.line env = pure false := by (subst_vars; kernel_rfl)) (hw : swappedStores [.Tuple ts k p] e env = pure none := by (subst_vars; kernel_rfl)) :
    CX c env ns (.Assign [.Tuple ts k p] e pos) (asgTX a w) := fun X ec ok l σ Q hl h1 => by
  subst ec
  exact ex_assignT ((h X rfl ok l σ _ hl h1).mono fun v σ₁ h2 => (ha X rfl ok v l σ₁ _ hl h2).mono fun L τ ⟨l', hl', e, h3⟩ => ⟨l', hl', e, h3⟩) hs hw
def setX (k : Nat) (wo w : WE) : WX := fun X l σ Q => w X l σ fun v σ₁ => wo X l σ₁ fun ov σ₂ => opSet X k ov v σ₂ fun σ₃ => Q .next l σ₃
theorem EU3.mono {c : Cx} {env : Env} {D : Nat} {a b d : V} {f : Value → Value → Value → Sem Unit} {l : Loc} {σ : Hp} {Q Q' : Hp → Prop} (h : EU3 c env D a b d f l σ Q) (k : ∀ σ', Q σ' → Q' σ') : EU3 c env D a b d f l σ Q' :=
  fun A g ρ z s Q₁ E₁ w₁ w₂ w₃ ok R h1 h2 h3 q => h A g ρ z s Q₁ E₁ w₁ w₂ w₃ ok R h1 h2 h3 fun σ' ρ' z' s' hq => q σ' ρ' z' s' (k _ hq)
theorem cx_set {o e : Expr} {attr : Str} {p : Pos} {k : Nat} {wo w : WE} (ho : CE c env ns o wo) (h : CE c env ns e w) (hk : nm k = attr) (hs : swapsWith e (some (.Attribute o attr p)) pos.line env = pure false := by (subst_vars; kernel_rfl)) : CX c env ns (.Assign [.Attribute o attr p] e pos) (setX k wo w) := fun X ec ok l σ Q hl h1 => by
  subst ec hk
  exact ex_attr ((h X rfl ok l σ _ hl h1).mono fun v σ₁ h2 => (ho X rfl ok l σ₁ _ hl h2).mono fun ov σ₂ h3 => (opSet_ok ok h3).mono fun σ₃ h4 => ⟨l, hl, rfl, h4⟩) hs
def subX (wo wi w : WE) : WX := fun X l σ Q => w X l σ fun v σ₁ => wo X l σ₁ fun ov σ₂ => wi X l σ₂ fun iv σ₃ => opStore X ov iv v σ₃ fun σ₄ => Q .next l σ₄
theorem cx_sub {o i e : Expr} {p : Pos} {wo wi w : WE} (ho : CE c env ns o wo) (hi : CE c env ns i wi) (h : CE c env ns e w) (hs : swapsWith e (some (.Subscript o i p)) pos.line env = pure false := by (subst_vars; kernel_rfl)) : CX c env ns (.Assign [.Subscript o i p] e pos) (subX wo wi w) := fun X ec ok l σ Q hl h1 => by
  subst ec
  exact ex_sub ((h X rfl ok l σ _ hl h1).mono fun v σ₁ h2 => (ho X rfl ok l σ₁ _ hl h2).mono fun ov σ₂ h3 => (hi X rfl ok l σ₂ _ hl h3).mono fun iv σ₃ h4 => (opStore_ok h4).mono fun σ₄ h5 => ⟨l, hl, rfl, h5⟩) hs
def augX (i : Nat) (op : Operator) (w : WE) : WX := fun X l σ Q => plK (nth l i) fun u => w X l σ fun v σ₁ => opInp X op u v σ₁ fun r σ₂ => updK l i r fun l' => Q .next l' σ₂
theorem cx_aug {x : Str} {e : Expr} {op : Operator} {p : Pos} {i : Nat} {w : WE} (hx : At ns i x) (h : CE c env ns e w) (hk : env.kindOf x = some .local := by (subst_vars; kernel_rfl)) : CX c env ns (.AugAssign (.Name x p) op e pos) (augX i op w) := fun X ec ok l σ Q hl h1 => by
  subst ec
  obtain ⟨hp, h1⟩ := of_plK h1
  exact ex_augName' (zip_nth hx hl) hp ((h X rfl ok l σ _ hl h1).mono fun v σ₁ h2 => (opInp_ok h2).mono fun r σ₂ h3 => by
    obtain ⟨hi, h4⟩ := updK_set h3
    exact ⟨_, zip_up r hx hl, l.set i r, by simpa using hl, rfl, h4⟩) hk
def augSetX (k : Nat) (op : Operator) (wo w : WE) : WX := fun X l σ Q => wo X l σ fun ov σ₁ => opAttr X k ov σ₁ fun old σ₂ => w X l σ₂ fun v σ₃ => opInp X op old v σ₃ fun r σ₄ => opSet X k ov r σ₄ fun σ₅ => Q .next l σ₅
theorem cx_augSet {o e : Expr} {attr : Str} {op : Operator} {p : Pos} {k : Nat} {wo w : WE} (ho : CE c env ns o wo) (h : CE c env ns e w) (hk : nm k = attr) : CX c env ns (.AugAssign (.Attribute o attr p) op e pos) (augSetX k op wo w) := fun X ec ok l σ Q hl h1 => by
  subst ec hk
  exact ex_augAttr ((ho X rfl ok l σ _ hl h1).mono fun ov σ₁ h2 => (opAttr_ok ok h2).mono fun old σ₂ h3 => (h X rfl ok l σ₂ _ hl h3).mono fun v σ₃ h4 => (opInp_ok h4).mono fun r σ₄ h5 => (opSet_ok ok h5).mono fun σ₅ h6 => ⟨l, hl, rfl, h6⟩)
def augSubX (op : Operator) (wo wi w : WE) : WX := fun X l σ Q => wo X l σ fun ov σ₁ => wi X l σ₁ fun iv σ₂ => opItem' X ov iv σ₂ fun old σ₃ => w X l σ₃ fun v σ₄ => opInp X op old v σ₄ fun r σ₅ => opStore X ov iv r σ₅ fun σ₆ => Q .next l σ₆
theorem cx_augSub {o i e : Expr} {op : Operator} {p : Pos} {wo wi w : WE} (ho : CE c env ns o wo) (hi : CE c env ns i wi) (h : CE c env ns e w)
    (hs : ∀ ov iv new, augStore i ov iv new = (do holding [new, ov, iv] (setItem ov iv new); release [new, ov, iv] []; pure .next) := by intros; with_unfolding_all rfl) : CX c env ns (.AugAssign (.Subscript o i p) op e pos) (augSubX op wo wi w) := fun X ec ok l σ Q hl h1 => by
  subst ec
  exact ex_augSub ((ho X rfl ok l σ _ hl h1).mono fun ov σ₁ h2 => (hi X rfl ok l σ₁ _ hl h2).mono fun iv σ₂ h3 => (opItem'_ok h3).mono fun old σ₃ h4 => (h X rfl ok l σ₃ _ hl h4).mono fun v σ₄ h5 => (opInp_ok h5).mono fun r σ₅ h6 => (opStore_ok h6).mono fun σ₆ h7 => ⟨l, hl, rfl, h7⟩) hs
def ifX (t : WB) (a b : WX) : WX := fun X l σ Q => t X l σ fun r σ₁ => br r (a X l σ₁ Q) (b X l σ₁ Q)
theorem cx_if {t : Expr} {a b : List Stmt} {wt : WB} {wa wb : WX} (ht : CB c env ns t wt) (ha : CXs c env ns a wa) (hb : CXs c env ns b wb) : CX c env ns (.If t a b pos) (ifX wt wa wb) := fun X ec ok l σ Q hl h1 => by
  subst ec
  exact ex_if ((ht X rfl ok l σ _ hl h1).mono fun r σ₁ h2 => ⟨fun e => ha X rfl ok l σ₁ Q hl ((of_br h2).1 e), fun e => hb X rfl ok l σ₁ Q hl ((of_br h2).2 e)⟩)
def forX (wt : WA) (wi : WE) (wb : WX) : WX := fun X l σ Q => wi X l σ fun v σ₁ => opIter X v σ₁ fun vs sg => forS X wt wb sg vs l σ₁ Q
theorem forS_J {X : Ex} {wt : WA} {wb : WX} {sg : Sgo} {vs : List V} {l : List V} {σ : Hp} {Q : Fl → List V → Hp → Prop} (h0 : sgP sg σ) (h : forS X wt wb sg vs l σ Q) :
    ∃ J : Nat → List V → Hp → Prop, J 0 l σ ∧ (∀ i l σ, J i l σ → sgP sg σ) ∧ (∀ i v l σ, vs[i]? = some v → J i l σ → wt X v l σ fun l₁ σ₁ => wb X l₁ σ₁ (aft (J (i + 1)) Q)) ∧ ∀ l σ, J vs.length l σ → Q .next l σ := by
  have : forJ X wt wb sg vs l σ Q := by
    unfold forS at h
    split at h
    · exact forJ_un h0 h
    · exact h
  unfold forJ at this
  exact this
theorem cx_for {t it : Expr} {b : List Stmt} {wt : WA} {wi : WE} {wb : WX} (ht : CAs c env ns t wt) (hi : CE c env ns it wi) (hb : CXs c env ns b wb) (hs : ∀ x, foldedSetIterable it env x = pure x := by (subst_vars; intro _; kernel_rfl)) : CX c env ns (.For t it b [] pos) (forX wt wi wb) := fun X ec ok l σ Q hl h1 => by
  subst ec
  refine ex_for (eit_of ((hi X rfl ok l σ _ hl h1).mono fun v σ₁ h2 => ?_)) hs
  obtain ⟨vs, sg, hI, hg, h3⟩ := opIter_ok ok h2
  obtain ⟨J, j0, js, jt, je⟩ := forS_J hg h3
  refine ⟨vs, sgP sg, hI, hg, fun i L τ => ∃ l', l'.length = ns.length ∧ L = ns.zip l' ∧ J i l' τ, ⟨l, hl, rfl, j0⟩, fun i L τ ⟨l', _, _, hj⟩ => js _ _ _ hj, ?_, ?_⟩
  · rintro i v L τ hv ⟨l', hl', rfl, hj⟩
    refine (ht X rfl ok v l' τ _ hl' (jt i v l' τ hv hj)).mono fun L₁ τ₁ h4 => ?_
    obtain ⟨l₁, hl₁, rfl, h5⟩ := h4
    refine (hb X rfl ok l₁ τ₁ _ hl₁ h5).mono fun f L₂ τ₂ h6 => ?_
    obtain ⟨l₂, hl₂, rfl, h7⟩ := h6
    cases f with
    | next => exact ⟨l₂, hl₂, rfl, h7⟩
    | cont => exact ⟨l₂, hl₂, rfl, h7⟩
    | brk => exact ⟨l₂, hl₂, rfl, h7⟩
    | ret v => exact ⟨l₂, hl₂, rfl, h7⟩
  · rintro L τ ⟨l', hl', rfl, hj⟩
    exact ⟨l', hl', rfl, je _ _ hj⟩
def whileX (wt : WB) (wb : WX) : WX := fun X l σ Q => whileS X wt wb l σ Q
theorem whileJ_un {X : Ex} {wt : WB} {wb : WX} {Q : Fl → List V → Hp → Prop} (n : Nat) {l : List V} {σ : Hp} (h : whileU X wt wb n l σ Q) (mono : ∀ l σ (F G : Fl → List V → Hp → Prop), (∀ f l σ, F f l σ → G f l σ) → wb X l σ F → wb X l σ G)
    (monoT : ∀ l σ (F G : Bool → Hp → Prop), (∀ b σ, F b σ → G b σ) → wt X l σ F → wt X l σ G) : whileJ X wt wb l σ Q := by
  refine whileJ_of (fun n l σ => whileU X wt wb n l σ Q) n h fun n l σ hj => ?_
  cases n with
  | zero => exact hj.elim
  | succ n =>
    refine monoT l σ _ _ (fun b σ₁ hb => ?_) hj
    obtain ⟨h1, h2⟩ := of_br hb
    refine br_both (fun e => mono _ _ _ _ (fun f l₂ σ₂ hf => ?_) (h1 e)) h2
    cases f with
    | next => exact ⟨n, Nat.lt_succ_self n, hf⟩
    | cont => exact ⟨n, Nat.lt_succ_self n, hf⟩
    | brk => exact hf
    | ret v => exact hf
theorem cx_while {t : Expr} {b : List Stmt} {wt : WB} {wb : WX} (ht : CB c env ns t wt) (hb : CXs c env ns b wb) : CX c env ns (.While t b [] pos) (whileX wt wb) := fun X ec ok l σ Q hl h1 => by
  subst ec
  unfold whileX whileS at h1
  have key : ∃ (J : Nat → List V → Hp → Prop) (n : Nat), J n l σ ∧ ∀ n l σ, l.length = ns.length → J n l σ → EB X.c env X.D (isTrue t env (eval t env)) (ns.zip l) σ fun r σ₁ => (r = true → EX X.c env X.D (execs b env) (ns.zip l) σ₁ (QX ns (aft (fun l₂ σ₂ => ∃ m, m < n ∧ J m l₂ σ₂) Q))) ∧ (r = false → Q .next l σ₁) := by
    split at h1
    · refine ⟨fun n l σ => whileU X wt wb n l σ Q, 10000, h1, fun n l σ hl hj => ?_⟩
      cases n with
      | zero => exact hj.elim
      | succ n =>
        refine (ht X rfl ok l σ _ hl hj).mono fun r σ₁ h2 => ⟨fun e => ?_, (of_br h2).2⟩
        refine (hb X rfl ok l σ₁ _ hl ((of_br h2).1 e)).mono fun f L τ h3 => ?_
        obtain ⟨l', hl', rfl, h4⟩ := h3
        refine ⟨l', hl', rfl, ?_⟩
        cases f with
        | next => exact ⟨n, Nat.lt_succ_self n, h4⟩
        | cont => exact ⟨n, Nat.lt_succ_self n, h4⟩
        | brk => exact h4
        | ret v => exact h4
    · unfold whileJ at h1
      obtain ⟨J, n, j0, jt⟩ := h1
      exact ⟨J, n, j0, fun n l σ hl hj => (ht X rfl ok l σ _ hl (jt n l σ hj)).mono fun r σ₁ h2 => ⟨fun e => hb X rfl ok l σ₁ _ hl ((of_br h2).1 e), (of_br h2).2⟩⟩
  obtain ⟨J, n, j0, jt⟩ := key
  refine ex_while (fun n L τ => ∃ l', l'.length = ns.length ∧ L = ns.zip l' ∧ J n l' τ) n ⟨l, hl, rfl, j0⟩ ?_
  rintro n L τ ⟨l', hl', rfl, hj⟩
  refine (jt n l' τ hl' hj).mono fun r σ₁ h2 => ⟨fun e => (h2.1 e).mono fun f L₂ τ₂ h3 => ?_, fun e => ⟨l', hl', rfl, h2.2 e⟩⟩
  obtain ⟨l₂, hl₂, rfl, h4⟩ := h3
  cases f with
  | next => obtain ⟨m, hm, h5⟩ := h4; exact ⟨m, hm, l₂, hl₂, rfl, h5⟩
  | cont => obtain ⟨m, hm, h5⟩ := h4; exact ⟨m, hm, l₂, hl₂, rfl, h5⟩
  | brk => exact ⟨l₂, hl₂, rfl, h4⟩
  | ret v => exact ⟨l₂, hl₂, rfl, h4⟩

-- DEFS
def pst (Q : V → Hp → Prop) : Fl → List V → Hp → Prop := fun f _ σ => match f with
  | .ret v => Q v σ
  | .next => Q .none σ
  | .brk => Q .none σ
  | .cont => Q .none σ
abbrev Shape := List V → List (Str × V) → List V → Prop
def shP (n : Nat) : Shape := fun a k v => k = [] ∧ v = a ∧ a.length = n
/-- a def without cells -/
structure Def (c : Cx) (f : Addr) (bn un : List Str) (sh : Shape) (w : WX) : Prop where
  x : ∃ (fd : FuncData) (body : List Stmt) (oc : Value) (od : Option Addr) (osl : Array (Option Value)), c.K.lookup f = some ⟨oc, od, .func fd, osl⟩ ∧ fd.body = .stmts body ∧ codeIn c.K fd.code fd.qualname = true ∧
    ((bn ++ un).Nodup ∧ (∀ x ∈ bn, fd.scope.names.lookup x = some .local) ∧ (∀ x ∈ fd.scope.names, x.2 ≠ .cell)) ∧ (fd.globals = mainGlobals ∧ fd.builtins = builtinsNs ∧ fd.scope.isCoroutine = false ∧ fd.scope.isGenerator = false ∧ fd.scope.kind = .function) ∧
    (∀ args kw vals, sh args kw vals → BindA c fd args kw (bn.zip vals) ∧ vals.length = bn.length) ∧ ∀ L env, env = callEnv fd L f → CXs c env (bn ++ un) body w
theorem zip_app {α β : Type} : ∀ {a : List α} {b : List β} {a' : List α} {b' : List β}, b.length = a.length → (a ++ a').zip (b ++ b') = a.zip b ++ a'.zip b'
  | [], [], _, _, _ => rfl
  | x :: a, y :: b, a', b', h => by simp [zip_app (a := a) (b := b) (by simpa using h)]
  | [], _ :: _, _, _, h => by simp at h
  | _ :: _, [], _, _, h => by simp at h
theorem zip_unb (un : List Str) : un.zip (un.map fun _ => V.unb) = un.map fun x => (x, V.unb) := by
  induction un with
  | nil => rfl
  | cons x un ih => simp [ih]
def argU : List Str → (List V → Prop) → Prop
  | [], K => hi (K [])
  | _ :: us, K => hi (argU us fun r => K (.unb :: r))
def argK : List V → List Str → (List V → Prop) → Prop
  | [], us, K => hi (argU us K)
  | v :: vs, us, K => hi (argK vs us fun r => K (v :: r))
theorem argU_inv : ∀ {us : List Str} {K : List V → Prop}, argU us K → K (us.map fun _ => V.unb)
  | [], _, h => h
  | _ :: us, K, h => argU_inv (us := us) (K := fun r => K (.unb :: r)) h
theorem argK_inv : ∀ {vs : List V} {us : List Str} {K : List V → Prop}, argK vs us K → K (vs ++ us.map fun _ => V.unb)
  | [], us, K, h => argU_inv h
  | v :: vs, us, K, h => argK_inv (vs := vs) (us := us) (K := fun r => K (v :: r)) h
theorem Def.fc {c : Cx} {f : Addr} {bn un : List Str} {sh : Shape} {w : WX} (d : Def c f bn un sh w) (X : Ex) (hX : X.c = c) (ok : XOk X) {args vals : List V} {kw : List (Str × V)} {σ : Hp} {Q : V → Hp → Prop} (hs : sh args kw vals)
    (h : argK vals un fun ls => w X ls σ (pst Q)) : FC c (X.D + 1) (.val (.ref f)) args kw σ Q := by
  obtain ⟨fd, body, oc, od, osl, h1, h2, h3, ⟨h4, h5, h6⟩, ⟨h7, h8, h9, h10, h11⟩, h12, h13⟩ := d.x
  obtain ⟨hb, hn⟩ := h12 _ _ _ hs
  have h := argK_inv h
  generalize hl : vals ++ un.map (fun _ => V.unb) = ls at h
  have e : bn.zip vals ++ un.map (fun x => (x, V.unb)) = (bn ++ un).zip ls := by rw [← hl, zip_app hn, zip_unb]
  have e1 : (bn.zip vals).map (·.1) = bn := by rw [List.map_fst_zip]; omega
  refine fc_def' (bs := bn.zip vals) un _ h1 h2 h3 hb bn e1 h4 h5 e.symm h6 h7 h8 h9 h10 h11 fun L env he => ?_
  subst hX
  refine (h13 L env he X rfl ok ls σ _ (by rw [← hl]; simp [hn]) h).mono fun fl L' τ h14 => ?_
  obtain ⟨l', _, rfl, h15⟩ := h14
  cases fl with
  | next => exact h15
  | brk => exact h15
  | cont => exact h15
  | ret v => exact h15
theorem sh1 {c : Cx} {fd : FuncData} {x : Str} (h : ∀ a, bindArgs fd ⟨[a], []⟩ = pure [(x, a)]) : ∀ args kw vals, shP 1 args kw vals → BindA c fd args kw ([x].zip vals) ∧ vals.length = [x].length := by
  rintro args kw vals ⟨rfl, rfl, hn⟩
  obtain ⟨a, rfl⟩ := List.length_eq_one_iff.mp hn
  exact ⟨bindA1 h, rfl⟩
theorem sh2 {c : Cx} {fd : FuncData} {x y : Str} (h : ∀ a b, bindArgs fd ⟨[a, b], []⟩ = pure [(x, a), (y, b)]) : ∀ args kw vals, shP 2 args kw vals → BindA c fd args kw ([x, y].zip vals) ∧ vals.length = [x, y].length := by
  rintro args kw vals ⟨rfl, e, hn⟩
  subst e
  match vals, hn with
  | [a, b], _ => exact ⟨bindA2 h, rfl⟩
theorem sh3 {c : Cx} {fd : FuncData} {x y z : Str} (h : ∀ a b d, bindArgs fd ⟨[a, b, d], []⟩ = pure [(x, a), (y, b), (z, d)]) : ∀ args kw vals, shP 3 args kw vals → BindA c fd args kw ([x, y, z].zip vals) ∧ vals.length = [x, y, z].length := by
  rintro args kw vals ⟨rfl, e, hn⟩
  subst e
  match vals, hn with
  | [a, b, d], _ => exact ⟨bindA3 h, rfl⟩
inductive AtS : List String → Nat → String → Prop
  | hd {x r} : AtS (x :: r) 0 x
  | tl {x y r i} : AtS r i x → AtS (y :: r) (i + 1) x
theorem AtS.get : ∀ {l : List String} {k : Nat} {s : String}, AtS l k s → l[k]? = some s
  | _, _, _, .hd => rfl
  | _, _, _, .tl h => by simpa using h.get
theorem nm_of {k : Nat} {s : String} (h : AtS nmS k s) : nm k = PySem.Str.ofString s := by
  unfold nm nmL
  rw [List.getElem?_map, h.get]
  rfl
end
end
section
open PySem PySem.W PyProof.Rows PySem.Calls
section
variable {α : Type} {r : List α}
theorem at0 {x0 : α} : At (x0 :: r) 0 x0 := .hd
theorem at1 {x0 x1 : α} : At (x0 :: x1 :: r) 1 x1 := .tl at0
theorem at2 {x0 x1 x2 : α} : At (x0 :: x1 :: x2 :: r) 2 x2 := .tl at1
theorem at3 {x0 x1 x2 x3 : α} : At (x0 :: x1 :: x2 :: x3 :: r) 3 x3 := .tl at2
theorem at4 {x0 x1 x2 x3 x4 : α} : At (x0 :: x1 :: x2 :: x3 :: x4 :: r) 4 x4 := .tl at3
theorem at5 {x0 x1 x2 x3 x4 x5 : α} : At (x0 :: x1 :: x2 :: x3 :: x4 :: x5 :: r) 5 x5 := .tl at4
theorem at6 {x0 x1 x2 x3 x4 x5 x6 : α} : At (x0 :: x1 :: x2 :: x3 :: x4 :: x5 :: x6 :: r) 6 x6 := .tl at5
theorem at7 {x0 x1 x2 x3 x4 x5 x6 x7 : α} : At (x0 :: x1 :: x2 :: x3 :: x4 :: x5 :: x6 :: x7 :: r) 7 x7 := .tl at6
theorem at8 {x0 x1 x2 x3 x4 x5 x6 x7 x8 : α} : At (x0 :: x1 :: x2 :: x3 :: x4 :: x5 :: x6 :: x7 :: x8 :: r) 8 x8 := .tl at7
theorem at9 {x0 x1 x2 x3 x4 x5 x6 x7 x8 x9 : α} : At (x0 :: x1 :: x2 :: x3 :: x4 :: x5 :: x6 :: x7 :: x8 :: x9 :: r) 9 x9 := .tl at8
theorem at10 {x0 x1 x2 x3 x4 x5 x6 x7 x8 x9 x10 : α} : At (x0 :: x1 :: x2 :: x3 :: x4 :: x5 :: x6 :: x7 :: x8 :: x9 :: x10 :: r) 10 x10 := .tl at9
theorem at11 {x0 x1 x2 x3 x4 x5 x6 x7 x8 x9 x10 x11 : α} : At (x0 :: x1 :: x2 :: x3 :: x4 :: x5 :: x6 :: x7 :: x8 :: x9 :: x10 :: x11 :: r) 11 x11 := .tl at10
theorem at12 {x0 x1 x2 x3 x4 x5 x6 x7 x8 x9 x10 x11 x12 : α} : At (x0 :: x1 :: x2 :: x3 :: x4 :: x5 :: x6 :: x7 :: x8 :: x9 :: x10 :: x11 :: x12 :: r) 12 x12 := .tl at11
theorem at13 {x0 x1 x2 x3 x4 x5 x6 x7 x8 x9 x10 x11 x12 x13 : α} : At (x0 :: x1 :: x2 :: x3 :: x4 :: x5 :: x6 :: x7 :: x8 :: x9 :: x10 :: x11 :: x12 :: x13 :: r) 13 x13 := .tl at12
theorem at14 {x0 x1 x2 x3 x4 x5 x6 x7 x8 x9 x10 x11 x12 x13 x14 : α} : At (x0 :: x1 :: x2 :: x3 :: x4 :: x5 :: x6 :: x7 :: x8 :: x9 :: x10 :: x11 :: x12 :: x13 :: x14 :: r) 14 x14 := .tl at13
theorem at15 {x0 x1 x2 x3 x4 x5 x6 x7 x8 x9 x10 x11 x12 x13 x14 x15 : α} : At (x0 :: x1 :: x2 :: x3 :: x4 :: x5 :: x6 :: x7 :: x8 :: x9 :: x10 :: x11 :: x12 :: x13 :: x14 :: x15 :: r) 15 x15 := .tl at14
theorem at16 {x0 x1 x2 x3 x4 x5 x6 x7 x8 x9 x10 x11 x12 x13 x14 x15 x16 : α} : At (x0 :: x1 :: x2 :: x3 :: x4 :: x5 :: x6 :: x7 :: x8 :: x9 :: x10 :: x11 :: x12 :: x13 :: x14 :: x15 :: x16 :: r) 16 x16 := .tl at15
theorem at17 {x0 x1 x2 x3 x4 x5 x6 x7 x8 x9 x10 x11 x12 x13 x14 x15 x16 x17 : α} : At (x0 :: x1 :: x2 :: x3 :: x4 :: x5 :: x6 :: x7 :: x8 :: x9 :: x10 :: x11 :: x12 :: x13 :: x14 :: x15 :: x16 :: x17 :: r) 17 x17 := .tl at16
theorem at18 {x0 x1 x2 x3 x4 x5 x6 x7 x8 x9 x10 x11 x12 x13 x14 x15 x16 x17 x18 : α} : At (x0 :: x1 :: x2 :: x3 :: x4 :: x5 :: x6 :: x7 :: x8 :: x9 :: x10 :: x11 :: x12 :: x13 :: x14 :: x15 :: x16 :: x17 :: x18 :: r) 18 x18 := .tl at17
theorem at19 {x0 x1 x2 x3 x4 x5 x6 x7 x8 x9 x10 x11 x12 x13 x14 x15 x16 x17 x18 x19 : α} : At (x0 :: x1 :: x2 :: x3 :: x4 :: x5 :: x6 :: x7 :: x8 :: x9 :: x10 :: x11 :: x12 :: x13 :: x14 :: x15 :: x16 :: x17 :: x18 :: x19 :: r) 19 x19 := .tl at18
theorem at20 {x0 x1 x2 x3 x4 x5 x6 x7 x8 x9 x10 x11 x12 x13 x14 x15 x16 x17 x18 x19 x20 : α} : At (x0 :: x1 :: x2 :: x3 :: x4 :: x5 :: x6 :: x7 :: x8 :: x9 :: x10 :: x11 :: x12 :: x13 :: x14 :: x15 :: x16 :: x17 :: x18 :: x19 :: x20 :: r) 20 x20 := .tl at19
theorem at21 {x0 x1 x2 x3 x4 x5 x6 x7 x8 x9 x10 x11 x12 x13 x14 x15 x16 x17 x18 x19 x20 x21 : α} : At (x0 :: x1 :: x2 :: x3 :: x4 :: x5 :: x6 :: x7 :: x8 :: x9 :: x10 :: x11 :: x12 :: x13 :: x14 :: x15 :: x16 :: x17 :: x18 :: x19 :: x20 :: x21 :: r) 21 x21 := .tl at20
theorem at22 {x0 x1 x2 x3 x4 x5 x6 x7 x8 x9 x10 x11 x12 x13 x14 x15 x16 x17 x18 x19 x20 x21 x22 : α} : At (x0 :: x1 :: x2 :: x3 :: x4 :: x5 :: x6 :: x7 :: x8 :: x9 :: x10 :: x11 :: x12 :: x13 :: x14 :: x15 :: x16 :: x17 :: x18 :: x19 :: x20 :: x21 :: x22 :: r) 22 x22 := .tl at21
theorem at23 {x0 x1 x2 x3 x4 x5 x6 x7 x8 x9 x10 x11 x12 x13 x14 x15 x16 x17 x18 x19 x20 x21 x22 x23 : α} : At (x0 :: x1 :: x2 :: x3 :: x4 :: x5 :: x6 :: x7 :: x8 :: x9 :: x10 :: x11 :: x12 :: x13 :: x14 :: x15 :: x16 :: x17 :: x18 :: x19 :: x20 :: x21 :: x22 :: x23 :: r) 23 x23 := .tl at22
theorem at24 {x0 x1 x2 x3 x4 x5 x6 x7 x8 x9 x10 x11 x12 x13 x14 x15 x16 x17 x18 x19 x20 x21 x22 x23 x24 : α} : At (x0 :: x1 :: x2 :: x3 :: x4 :: x5 :: x6 :: x7 :: x8 :: x9 :: x10 :: x11 :: x12 :: x13 :: x14 :: x15 :: x16 :: x17 :: x18 :: x19 :: x20 :: x21 :: x22 :: x23 :: x24 :: r) 24 x24 := .tl at23
theorem at25 {x0 x1 x2 x3 x4 x5 x6 x7 x8 x9 x10 x11 x12 x13 x14 x15 x16 x17 x18 x19 x20 x21 x22 x23 x24 x25 : α} : At (x0 :: x1 :: x2 :: x3 :: x4 :: x5 :: x6 :: x7 :: x8 :: x9 :: x10 :: x11 :: x12 :: x13 :: x14 :: x15 :: x16 :: x17 :: x18 :: x19 :: x20 :: x21 :: x22 :: x23 :: x24 :: x25 :: r) 25 x25 := .tl at24
end
theorem nm0 : nm 0 = PySem.Str.ofString "append" := rfl
theorem nm1 : nm 1 = PySem.Str.ofString "extend" := rfl
theorem nm2 : nm 2 = PySem.Str.ofString "isdigit" := rfl
theorem nm3 : nm 3 = PySem.Str.ofString "find" := rfl
theorem nm4 : nm 4 = PySem.Str.ofString "decode" := rfl
theorem nm5 : nm 5 = PySem.Str.ofString "join" := rfl
theorem nm6 : nm 6 = PySem.Str.ofString "buffer" := rfl
theorem nm7 : nm 7 = PySem.Str.ofString "length" := rfl
theorem nm8 : nm 8 = PySem.Str.ofString "put" := rfl
theorem nm9 : nm 9 = PySem.Str.ofString "put_bit" := rfl
theorem nm10 : nm 10 = PySem.Str.ofString "get" := rfl
theorem nm11 : nm 11 = PySem.Str.ofString "mode" := rfl
theorem nm12 : nm 12 = PySem.Str.ofString "data" := rfl
theorem nm13 : nm 13 = PySem.Str.ofString "write" := rfl
theorem nm14 : nm 14 = PySem.Str.ofString "version" := rfl
theorem nm15 : nm 15 = PySem.Str.ofString "_version" := rfl
theorem nm16 : nm 16 = PySem.Str.ofString "error_correction" := rfl
theorem nm17 : nm 17 = PySem.Str.ofString "box_size" := rfl
theorem nm18 : nm 18 = PySem.Str.ofString "border" := rfl
theorem nm19 : nm 19 = PySem.Str.ofString "mask_pattern" := rfl
theorem nm20 : nm 20 = PySem.Str.ofString "_mask_pattern" := rfl
theorem nm21 : nm 21 = PySem.Str.ofString "image_factory" := rfl
theorem nm22 : nm 22 = PySem.Str.ofString "precomputed_qr_blanks" := rfl
theorem nm23 : nm 23 = PySem.Str.ofString "clear" := rfl
theorem nm24 : nm 24 = PySem.Str.ofString "modules" := rfl
theorem nm25 : nm 25 = PySem.Str.ofString "modules_count" := rfl
theorem nm26 : nm 26 = PySem.Str.ofString "data_cache" := rfl
theorem nm27 : nm 27 = PySem.Str.ofString "data_list" := rfl
theorem nm28 : nm 28 = PySem.Str.ofString "add_data" := rfl
theorem nm29 : nm 29 = PySem.Str.ofString "best_fit" := rfl
theorem nm30 : nm 30 = PySem.Str.ofString "makeImpl" := rfl
theorem nm31 : nm 31 = PySem.Str.ofString "setup_position_probe_pattern" := rfl
theorem nm32 : nm 32 = PySem.Str.ofString "setup_timing_pattern" := rfl
theorem nm33 : nm 33 = PySem.Str.ofString "setup_position_adjust_pattern" := rfl
theorem nm34 : nm 34 = PySem.Str.ofString "setup_type_number" := rfl
theorem nm35 : nm 35 = PySem.Str.ofString "setup_type_info" := rfl
theorem nm36 : nm 36 = PySem.Str.ofString "map_data" := rfl
theorem nm37 : nm 37 = PySem.Str.ofString "num" := rfl
theorem nm38 : nm 38 = PySem.Str.ofString "total_count" := rfl
theorem nm39 : nm 39 = PySem.Str.ofString "data_count" := rfl
theorem nm40 : nm 40 = PySem.Str.ofString "index" := rfl
theorem nm41 : nm 41 = PySem.Str.ofString "__init__" := rfl
theorem nm42 : nm 42 = PySem.Str.ofString "__len__" := rfl
theorem nm43 : nm 43 = PySem.Str.ofString "__getitem__" := rfl
theorem nm44 : nm 44 = PySem.Str.ofString "__iter__" := rfl
theorem nm45 : nm 45 = PySem.Str.ofString "__mul__" := rfl
theorem nm46 : nm 46 = PySem.Str.ofString "__mod__" := rfl
theorem nm47 : nm 47 = PySem.Str.ofString "__get__" := rfl
theorem nm48 : nm 48 = PySem.Str.ofString "__new__" := rfl
theorem nm49 : nm 49 = PySem.Str.ofString "__doc__" := rfl
theorem nm50 : nm 50 = PySem.Str.ofString "make" := rfl
theorem nm51 : nm 51 = PySem.Str.ofString "encode" := rfl
theorem nm52 : nm 52 = PySem.Str.ofString "items" := rfl
end
section
open PySem PySem.W PyProof.Rows PySem.Calls
section
variable {c : Cx} {env : Env} {ns : List Str} {pos : Pos}
-- DICT DISPLAYS
abbrev WP := Ex → List V → Hp → (List Int → List V → Hp → Prop) → Prop
def nilP : WP := fun X l σ Q => Q [] [] σ
def keyI (v : V) (K : Int → Prop) : Prop := hi (match v with
  | .int i => K i
  | _ => False)
def consP (wk wv : WE) (ws : WP) : WP := fun X l σ Q => wk X l σ fun k σ₁ => keyI k fun i => wv X l σ₁ fun v σ₂ => ws X l σ₂ fun is us σ₃ => Q (i :: is) (v :: us) σ₃
def CP (c : Cx) (env : Env) (ns : List Str) (pos : Pos) (ks : List (Option Expr)) (vs : List Expr) (w : WP) : Prop :=
  (ks.all (·.isSome) = true ∧ ks.length = vs.length) ∧ ∀ X : Ex, X.c = c → XOk X → ∀ l σ Q, l.length = ns.length → w X l σ Q → EPs c env X.D ks vs pos (ns.zip l) σ Q
theorem EPs.mono {D : Nat} {ks : List (Option Expr)} {vs : List Expr} {l : Loc} {σ : Hp} {Q Q' : List Int → List V → Hp → Prop} (h : EPs c env D ks vs pos l σ Q) (k : ∀ a b σ', Q a b σ' → Q' a b σ') : EPs c env D ks vs pos l σ Q' :=
  fun A g ρ z s Q₁ E₁ ok R q => h A g ρ z s Q₁ E₁ ok R fun a b d e σ' ρ' z' s' hq => q a b d e σ' ρ' z' s' (k _ _ _ hq)
theorem cp_nil : CP c env ns pos [] [] nilP := ⟨⟨rfl, rfl⟩, fun X ec ok l σ Q hl h => eps_nil h⟩
theorem cp_cons {k v : Expr} {ks : List (Option Expr)} {vs : List Expr} {wk wv : WE} {ws : WP} (hk : CE c env ns k wk) (hv : CE c env ns v wv) (hs : CP c env ns pos ks vs ws) : CP c env ns pos (some k :: ks) (v :: vs) (consP wk wv ws) :=
  ⟨⟨by simpa using hs.1.1, by simpa using hs.1.2⟩, fun X ec ok l σ Q hl h => by
    subst ec
    refine eps_cons ((hk X rfl ok l σ _ hl h).mono fun kv σ₁ h1 => ?_)
    unfold keyI at h1
    split at h1
    · exact ⟨_, rfl, (hv X rfl ok l σ₁ _ hl h1).mono fun vv σ₂ h2 => hs.2 X rfl ok l σ₂ _ hl h2⟩
    · exact h1.elim⟩
def emptyD (K : Prop) : AO → Prop
  | .dict [] [] => hi K
  | _ => False
def dictW (w : WP) : WE := fun X l σ Q => w X l (σ ++ [.dict [] []]) fun ks vs σ₁ => getO σ₁ σ.length (emptyD (chk ks.Nodup (Q (.ref σ.length) (σ₁.set σ.length (.dict ks vs)))))
theorem ce_dict {ks : List (Option Expr)} {vs : List Expr} {w : WP} (h : CP c env ns pos ks vs w) (h0 : ks ≠ []) (hlen : ks.length ≤ 15) : CE c env ns (.Dict ks vs pos) (dictW w) :=
  fun X ec ok l σ Q hl h1 => by
    subst ec
    refine ev_dict h.1.1 h.1.2 h0 hlen ((h.2 X rfl ok l _ _ hl h1).mono fun is us σ₁ h2 => ?_)
    obtain ⟨o, ho, h3⟩ := of_getO h2
    unfold emptyD at h3
    split at h3
    · exact ⟨ho, (of_chk h3).1, (of_chk h3).2⟩
    · exact h3.elim
def dict0W : WE := fun X l σ Q => Q (.ref σ.length) (σ ++ [.dict [] []])
theorem ce_dict0 : CE c env ns (.Dict [] [] pos) dict0W := fun X ec ok l σ Q hl h => ev_dict0 h

-- COMPREHENSIONS
inductive CSlots (env : Env) (scope : Scope) (cl : List (Str × Addr)) (ns : List Str) : List Str → List (Option Nat) → Prop
  | nil : CSlots env scope cl ns [] []
  | loc {x xs sl} : CSlots env scope cl ns xs sl → CSlots env scope cl ns (x :: xs) (none :: sl)
  | fre {x xs sl k} : At ns k x → cl.lookup x = env.cells.lookup x → ((relabel scope env).names.lookup x = some .cell ∨ (relabel scope env).names.lookup x = some .free) → CSlots env scope cl ns xs sl → CSlots env scope cl ns (x :: xs) (some k :: sl)
def celO' (v : V) (K : Prop) : Prop := hi (match v with
  | .cell _ => K
  | _ => False)
def slotK : List (Option Nat) → List V → (List V → Prop) → Prop
  | [], _, K => hi (K [])
  | none :: sl, l, K => hi (slotK sl l fun r => K (.unb :: r))
  | some k :: sl, l, K => hi (celO' (nth l k) (slotK sl l fun r => K (nth l k :: r)))
theorem slotK_inv {env : Env} {scope : Scope} {cl : List (Str × Addr)} {ns : List Str} {l : List V} (hl : l.length = ns.length) : ∀ {xs sl}, CSlots env scope cl ns xs sl → ∀ {K : List V → Prop}, slotK sl l K → ∃ lc, lc.length = xs.length ∧ CompLoc env scope cl (ns.zip l) (xs.zip lc) ∧ K lc
  | _, _, .nil, K, h => ⟨[], rfl, fun p hp => by simp at hp, h⟩
  | x :: _, _, .loc hs, K, h => by
    obtain ⟨lc, h1, h2, h3⟩ := slotK_inv hl hs (K := fun r => K (.unb :: r)) h
    refine ⟨_, by simp [h1], fun p hp => ?_, h3⟩
    rw [List.zip_cons_cons] at hp
    rcases List.mem_cons.mp hp with rfl | hp
    · exact .inl rfl
    · exact h2 p hp
  | x :: _, some k :: sl, .fre ha h1 h2 hs, K, h => by
    unfold slotK celO' at h
    split at h
    · rename_i i e
      obtain ⟨lc, h3, h4, h5⟩ := slotK_inv hl hs (K := fun r => K (nth l k :: r)) h
      refine ⟨_, by simp [h3], fun p hp => ?_, h5⟩
      rw [List.zip_cons_cons] at hp
      rcases List.mem_cons.mp hp with rfl | hp
      · exact .inr ⟨i, e, zip_nth ha hl, h1, h2⟩
      · exact h4 p hp
    · exact h.elim
def compU (X : Ex) (wt : WA) (wf : WB) (we : WE) (sg : Sgo) (lc : List V) (Q : V → Hp → Prop) : List V → List V → Hp → Prop
  | [], acc, σ => Q (.ref σ.length) (σ ++ [.list acc])
  | v :: vs, acc, σ => wt X v lc σ fun l₁ σ₁ => wf X l₁ σ₁ fun b σ₂ => br b (we X l₁ σ₂ fun u σ₃ => sgC sg σ₃ (compU X wt wf we sg lc Q vs (acc ++ [u]) σ₃)) (sgC sg σ₂ (compU X wt wf we sg lc Q vs acc σ₂))
@[irreducible] def compJ (X : Ex) (wt : WA) (wf : WB) (we : WE) (sg : Sgo) (lc : List V) (Q : V → Hp → Prop) (vs : List V) (σ : Hp) : Prop :=
  ∃ J : Nat → List V → Hp → Prop, J 0 [] σ ∧ (∀ i acc σ, J i acc σ → sgP sg σ) ∧ (∀ i v acc σ, vs[i]? = some v → J i acc σ → wt X v lc σ fun l₁ σ₁ => wf X l₁ σ₁ fun b σ₂ => br b (we X l₁ σ₂ fun u σ₃ => J (i + 1) (acc ++ [u]) σ₃) (J (i + 1) acc σ₂)) ∧
    ∀ acc σ, J vs.length acc σ → Q (.ref σ.length) (σ ++ [.list acc])
theorem compJ_of {X : Ex} {wt : WA} {wf : WB} {we : WE} {sg : Sgo} {lc : List V} {Q : V → Hp → Prop} {vs : List V} {σ : Hp} (J : Nat → List V → Hp → Prop) (h0 : J 0 [] σ) (hs : ∀ i acc σ, J i acc σ → sgP sg σ)
    (ht : ∀ i v acc σ, vs[i]? = some v → J i acc σ → wt X v lc σ fun l₁ σ₁ => wf X l₁ σ₁ fun b σ₂ => br b (we X l₁ σ₂ fun u σ₃ => J (i + 1) (acc ++ [u]) σ₃) (J (i + 1) acc σ₂))
    (he : ∀ acc σ, J vs.length acc σ → Q (.ref σ.length) (σ ++ [.list acc])) : compJ X wt wf we sg lc Q vs σ := by unfold compJ; exact ⟨J, h0, hs, ht, he⟩
theorem compJ_un {X : Ex} {wt : WA} {wf : WB} {we : WE} {sg : Sgo} {lc : List V} {Q : V → Hp → Prop} {vs : List V} {σ : Hp} (h0 : sgP sg σ) (h : compU X wt wf we sg lc Q vs [] σ) : compJ X wt wf we sg lc Q vs σ := by
  refine compJ_of (fun i acc σ => sgC sg σ (compU X wt wf we sg lc Q (vs.drop i) acc σ)) ?_ (fun i l σ h => (of_sgC h).1) (fun i v l σ hv hj => ?_) (fun l σ hj => ?_)
  · cases sg with
    | none => exact h
    | some p => exact ⟨h0, h⟩
  · have := (of_sgC hj).2
    rw [List.drop_eq_getElem_cons (List.getElem?_eq_some_iff.mp hv).1, (List.getElem?_eq_some_iff.mp hv).2] at this
    exact this
  · have := (of_sgC hj).2
    rw [List.drop_length] at this
    exact this
def compW (sl : List (Option Nat)) (wt : WA) (wi : WE) (wf : WB) (we : WE) : WE := fun X l σ Q => slotK sl l fun lc => wi X l σ fun v σ₁ => opIter X v σ₁ fun vs sg => chk (vs.length ≤ 1000000) (match X.run with
  | true => compU X wt wf we sg lc Q vs [] σ₁
  | false => compJ X wt wf we sg lc Q vs σ₁)
def CBt (c : Cx) (env : Env) (ns : List Str) (ifs : List Expr) (w : WB) : Prop :=
  ∀ X : Ex, X.c = c → XOk X → ∀ l σ Q, l.length = ns.length → w X l σ Q → EB c env X.D (testsOf ifs env) (ns.zip l) σ Q
theorem cbt_nil : CBt c env ns [] (litB true) := fun X ec ok l σ Q hl h => eb_tests0 h
theorem cbt_one {t : Expr} {w : WB} (h : CB c env ns t w) : CBt c env ns [t] w := fun X ec ok l σ Q hl h1 => eb_tests1 (h X ec ok l σ Q hl h1)
theorem ce_comp {elt target iter : Expr} {ifs : List Expr} {scope : Scope} {cl : List (Str × Addr)} {xs : List Str} {sl : List (Option Nat)} {wt : WA} {wi : WE} {wf : WB} {we : WE}
    (hclos : closureFor scope env = pure cl) (hcell : ∀ y ∈ scope.names, y.2 ≠ .cell) (hkind : scope.kind = .function) (hnames : ∀ y ∈ scope.names, y.2 = .local → scope.names.lookup y.1 = some .local) (hnd : xs.Nodup)
    (hsl : CSlots env scope cl ns xs sl) (hi : CE c env ns iter wi) (ht : ∀ C env', env' = compEnvC scope cl C env → CAs c env' xs target wt) (hf : ∀ C env', env' = compEnvC scope cl C env → CBt c env' xs ifs wf) (he : ∀ C env', env' = compEnvC scope cl C env → CE c env' xs elt we)
    (hs : ∀ x, foldedSetIterable iter env x = pure x := by (subst_vars; intro _; kernel_rfl)) : CE c env ns (.ListComp elt [⟨target, iter, ifs, 0⟩] scope pos) (compW sl wt wi wf we) := fun X ec ok l σ Q hl h1 => by
  subst ec
  obtain ⟨lc, h5, h6, h7⟩ := slotK_inv hl hsl h1
  refine ev_compO hclos hcell hkind hnames h6 (by rw [List.map_fst_zip (by omega)]; exact hnd) (eit_of ((hi X rfl ok l σ _ hl h7).mono fun v σ₁ h2 => ?_)) hs
  obtain ⟨vs, sg, hI, hg, h3⟩ := opIter_ok ok h2
  obtain ⟨hz, h4⟩ := of_chk h3
  have h8 : compJ X wt wf we sg lc Q vs σ₁ := by
    split at h4
    · exact compJ_un hg h4
    · exact h4
  unfold compJ at h8
  obtain ⟨J, j0, js, jt, je⟩ := h8
  refine ⟨vs, sgP sg, hI, hg, hz, J, j0, js, fun C i v acc σ₂ hv hj => ?_, je⟩
  refine (ht C _ rfl X rfl ok v lc σ₂ _ h5 (jt i v acc σ₂ hv hj)).mono fun L τ h9 => ?_
  obtain ⟨l', hl', rfl, h10⟩ := h9
  exact (hf C _ rfl X rfl ok l' τ _ hl' h10).mono fun b σ₃ h11 => ⟨fun e => he C _ rfl X rfl ok l' σ₃ _ hl' ((of_br h11).1 e), (of_br h11).2⟩
-- all(x in SIGNS for x in bytes)
def allB (signs : List UInt8) (v : V) (σ : Hp) (Q : V → Hp → Prop) : Prop := match v with
  | .bytes data => Q (.bool (data.all fun o => signs.contains o)) σ
  | _ => False
def allW (signs : List UInt8) (wi : WE) : WE := fun X l σ Q => wi X l σ fun v σ₁ => allB signs v σ₁ Q
theorem ce_allG {iter : Expr} {x y : Str} {p1 p2 p3 px gpos p0 : Pos} {scope : Scope} {cc P : Addr} {signs : Array UInt8} {t : Tok} {wi : WE}
    (e0 : nsIn c.K mainGlobals "all" = some none) (e : nsIn c.K mainGlobals y = some (some (.bytes signs t))) (hi : CE c env ns iter wi)
    (hgi : ∃ ps, ∀ a, c.gi a ↔ PIN ps a) (hcode : env.code = .ref cc) (htt : (cc, P) ∈ c.tt) (hu : ∀ t ∈ c.tt, t.2 = P → t = (cc, P))
    (hclos : closureFor scope env = pure []) (hcell : ∀ y ∈ scope.names, y.2 ≠ .cell) (h0 : scope.names.lookup (".0" : Str) = some NameKind.local) (hx : scope.names.lookup x = some .local) (hy : scope.names.lookup y = some .globalImplicit)
    (hco : scope.isCoroutine = false) (hkind : scope.kind = .function) (hdx : (x == ("__debug__" : Str)) = false) (hdy : (y == ("__debug__" : Str)) = false) (hk0 : env.kindOf ("all" : Str) = some .globalImplicit) (hs : ∀ y, genFold iter env y = pure y) :
    CE c env ns (.Call (.Name ("all" : Str) p0) [.GeneratorExp (.Compare (.Name x p1) [.In] [.Name y p2] p3) [⟨.Name x px, iter, [], 0⟩] scope gpos] [] pos) (allW signs.toList wi) := fun X ec ok l σ Q hl h1 => by
  subst ec
  refine ev_all (fun o => signs.contains o) hgi hcode htt hu hco hclos hcell h0 hx hkind (ev_bltn e0 Boot.all ⟨rfl, rfl⟩ hk0) ((hi X rfl ok l σ _ hl h1).mono fun v σ₁ h2 => ?_) hs
  unfold allB at h2
  split at h2
  · rename_i data
    refine ⟨data, rfl, hel_glob hkind hx hy e hdx hdy, ?_⟩
    simpa using h2
  · exact h2.elim
end
end
section
open PySem PySem.W PyProof.Rows PySem.Calls
def celL (n : Nat) : List Str → List V
  | [] => []
  | _ :: r => .cell n :: celL (n + 1) r
theorem celL_zip : ∀ (cn : List Str) (n k : Nat), cn.zip (celL (n + k) cn) = (cn.zipIdx k).map fun p => (p.1, V.cell (n + p.2))
  | [], _, _ => rfl
  | x :: cn, n, k => by
    simp only [celL, List.zip_cons_cons, List.zipIdx_cons, List.map_cons]
    rw [Nat.add_assoc, celL_zip cn n (k + 1)]
theorem celL_len : ∀ (cn : List Str) (n : Nat), (celL n cn).length = cn.length
  | [], _ => rfl
  | _ :: cn, n => by simp [celL, celL_len cn (n + 1)]
/-- a def some of whose names live in cells: lo the parameters that do not, un the other locals, cn the names in cells -/
structure DefC (c : Cx) (f : Addr) (bn lo un cn : List Str) (pk co : List V → List V) (sh : Shape) (w : WX) : Prop where
  x : ∃ (fd : FuncData) (body : List Stmt) (oc : Value) (od : Option Addr) (osl : Array (Option Value)), c.K.lookup f = some ⟨oc, od, .func fd, osl⟩ ∧ fd.body = .stmts body ∧ codeIn c.K fd.code fd.qualname = true ∧
    ((∀ n, cellsFrom n fd.scope.names [] = (cn.zipIdx.map fun p => (p.1, n + p.2)).reverse) ∧ cn.Nodup ∧ (∀ x ∈ bn, fd.scope.names.lookup x = some .local ∨ (fd.scope.names.lookup x = some .cell ∧ x ∈ cn)) ∧ (∀ x ∈ cn, fd.scope.names.lookup x = some .cell) ∧ bn.Nodup ∧ (lo ++ un ++ cn).Nodup) ∧
    (fd.closure = [] ∧ fd.globals = mainGlobals ∧ fd.builtins = builtinsNs ∧ fd.scope.isCoroutine = false ∧ fd.scope.isGenerator = false ∧ fd.scope.kind = .function) ∧
    (∀ vals : List V, vals.length = bn.length → (bn.zip vals).filter (fun p => fd.scope.names.lookup p.1 == some .local) = lo.zip (pk vals) ∧ (pk vals).length = lo.length ∧ cn.map (fun x => ((bn.zip vals).lookup x).getD .unb) = co vals) ∧
    (∀ args kw vals, sh args kw vals → BindA c fd args kw (bn.zip vals) ∧ vals.length = bn.length) ∧ ∀ L env, env = callEnvC fd L f → CXs c env (lo ++ un ++ cn) body w
theorem DefC.fc {c : Cx} {f : Addr} {bn lo un cn : List Str} {pk co : List V → List V} {sh : Shape} {w : WX} (d : DefC c f bn lo un cn pk co sh w) (X : Ex) (hX : X.c = c) (ok : XOk X) {args vals : List V} {kw : List (Str × V)} {σ : Hp} {Q : V → Hp → Prop} (hs : sh args kw vals)
    (h : argK (pk vals) un fun ls => w X (ls ++ celL σ.length cn) (σ ++ (co vals).map AO.cell) (pst Q)) : FC c (X.D + 1) (.val (.ref f)) args kw σ Q := by
  obtain ⟨fd, body, oc, od, osl, h1, h2, h3, ⟨k1, k2, k3, k4, k5, k6⟩, ⟨h7, h8, h9, h10, h11, h12⟩, h13, h14, h15⟩ := d.x
  obtain ⟨hb, hn⟩ := h14 _ _ _ hs
  obtain ⟨e1, e2, e3⟩ := h13 vals hn
  have h := argK_inv h
  have ez : (lo ++ un ++ cn).zip ((pk vals ++ un.map fun _ => V.unb) ++ celL σ.length cn) = lo.zip (pk vals) ++ un.map (fun x => (x, V.unb)) ++ cn.zipIdx.map fun p => (p.1, V.cell (σ.length + p.2)) := by
    rw [zip_app (by simp [e2]), zip_app e2, zip_unb]
    congr 1
    exact celL_zip cn σ.length 0
  have hlen : ((pk vals ++ un.map fun _ => V.unb) ++ celL σ.length cn).length = (lo ++ un ++ cn).length := by simp [e2, celL_len]
  have hbn : (bn.zip vals).map (·.1) = bn := by rw [List.map_fst_zip]; omega
  subst hX
  refine fc_cells (bs := bn.zip vals) (un := un) (cn := cn) (l := lo.zip (pk vals) ++ un.map (fun x => (x, V.unb)) ++ cn.zipIdx.map fun p => (p.1, V.cell (σ.length + p.2))) (os := (co vals).map AO.cell) h1 h2 h3 hb k1 k2 (fun x hx => k3 x.1 (by rw [← hbn]; exact List.mem_map_of_mem hx)) k4
    (by rw [hbn]; exact k5) (by rw [e1]) (by rw [← e3]; simp) (by
      rw [← ez, List.map_fst_zip (by omega)]; exact k6) (fun L => ?_) h7 h8 h9 h10 h11 h12
  rw [← ez]
  refine (h15 L _ rfl X rfl ok _ _ _ hlen h).mono fun fl L' τ h16 => ?_
  obtain ⟨l', _, rfl, h17⟩ := h16
  cases fl with
  | next => exact h17
  | brk => exact h17
  | cont => exact h17
  | ret v => exact h17

-- A CLASS IS CALLED
theorem FC.cls {c : Cx} {D : Nat} {C fI : Addr} {args : List V} {kw : List (Str × V)} {σ : Hp} {Q : V → Hp → Prop} (hm : makesIn c.K C = true ∧ findIn c.K (.ref C) "__init__" = some (some (.ref fI)) ∧ typeIn c.K (.ref fI) = some (.type "function"))
    (h : FC c D (.val (.ref fI)) (.ref σ.length :: args) kw (σ ++ [.inst C []]) fun v σ' => v = .none ∧ Q (.ref σ.length) σ') : FC c (D + 1) (.val (.ref C)) args kw σ Q := fc_class hm.1 hm.2.1 hm.2.2 h
/-- what is made is kept as it is, and nothing else of what the call made is left -/
theorem FC.keepOne {c : Cx} {D : Nat} {f : V} {args : List V} {kw : List (Str × V)} {σ : Hp} {Q : V → Hp → Prop}
    (h : FC c D f args kw σ fun v σ' => ∃ o v' τ, v = .ref σ.length ∧ σ' = σ ++ o :: τ ∧ Fz o v' ∧ v'.bl σ.length ∧ Q v' σ) : FC c D f args kw σ Q := by
  refine FC.wf fun hb _ => FC.gc (FC.freeze (h.mono fun v σ' hh => ?_))
  obtain ⟨o, v', τ, rfl, rfl, hz, hv, hq⟩ := hh
  refine ⟨σ.length, o, v', rfl, by simp, hz, ?_⟩
  refine ⟨σ, .dead :: τ, by simp, Nat.le_refl _, hv, hb, hq⟩
end
section
open PySem PySem.W PyProof.Rows PySem.Calls
def clsGet : List (Addr × Nat × CA) → Addr → Nat → CA
  | [], _, _ => .bad
  | e :: r, C, k => match e.1.beq C with
    | true => match e.2.1.beq k with
      | true => e.2.2
      | false => clsGet r C k
    | false => clsGet r C k
theorem clsGet_ok {c : Cx} : ∀ {L : List (Addr × Nat × CA)}, (∀ e ∈ L, CAok c e.1 e.2.1 e.2.2) → ∀ C k, CAok c C k (clsGet L C k)
  | [], _, _, _ => trivial
  | e :: r, h, C, k => by
    unfold clsGet
    split
    · rename_i h1
      split
      · rename_i h2
        have e1 := Nat.eq_of_beq_eq_true h1
        have e2 := Nat.eq_of_beq_eq_true h2
        rw [← e1, ← e2]; exact h e (.head _)
      · exact clsGet_ok (fun e he => h e (.tail _ he)) C k
    · exact clsGet_ok (fun e he => h e (.tail _ he)) C k
def kvGet : List (Addr × V) → Addr → Option V
  | [], _ => none
  | e :: r, a => match e.1.beq a with
    | true => some e.2
    | false => kvGet r a
theorem kvGet_ok {c : Cx} : ∀ {L : List (Addr × V)}, (∀ e ∈ L, ∃ n, kvOf c.kz n (.ref e.1) = e.2) → ∀ a v, kvGet L a = some v → ∀ (z : Led) (ρ : List Addr), (∀ p ∈ c.kz, p ∈ z) → VR z ρ v (.ref a)
  | [], _, _, _, h, _, _, _ => by cases h
  | e :: r, h, a, v, hg, z, ρ, hz => by
    unfold kvGet at hg
    split at hg
    · rename_i h1
      have e1 := Nat.eq_of_beq_eq_true h1
      cases hg
      obtain ⟨n, hn⟩ := h e (.head _)
      rw [← e1, ← hn]
      exact kvOf_is (p₀ := c.prog) (w₀ := c.w) ρ hz n _
    · exact kvGet_ok (fun e he => h e (.tail _ he)) a v hg z ρ hz
theorem mem_nil {α : Type} {P : α → Prop} : ∀ e ∈ ([] : List α), P e := fun _ h => (nomatch h)
theorem mem_cons {α : Type} {P : α → Prop} {a : α} {l : List α} (h : P a) (h' : ∀ e ∈ l, P e) : ∀ e ∈ a :: l, P e := fun e he => by
  rcases List.mem_cons.mp he with rfl | he
  · exact h
  · exact h' e he
/-- arguments with defaults -/
theorem bindD {c : Cx} {fd : FuncData} {T : Addr} {o : Obj} {items : Array Value} {n : Nat} (ho : c.K.lookup T = some o) (hd : fd.defaults = .ref T) (hs : o.data = .seq items n) {args : List V} {kw : List (Str × V)} {bs : List (Str × V)}
    (h : ∀ ws kws : List Value, ws.length = args.length → kws.length = kw.length → ∃ k binds, bindArgs fd ⟨ws, (kw.map (·.1)).zip kws⟩ = seqItems? fd.defaults >>= k ∧ k (some items) = pure binds ∧
      ∀ (z : Led) (ρ : List Addr), VRL z ρ args ws → VRL z ρ (kw.map (·.2)) kws → binds.map (·.1) = bs.map (·.1) ∧ VRL z ρ (bs.map (·.2)) (binds.map (·.2))) : BindA c fd args kw bs := by
  intro z ρ ws kws s X rl rk
  obtain ⟨k, binds, h1, h2, h3⟩ := h ws kws rl.length.symm (by have := rk.length; simpa using this.symm)
  obtain ⟨h4, h5⟩ := h3 z ρ rl rk
  exact ⟨binds, BindsTo.of_defaults hd (X _ _ ho) hs h1 h2, h4, h5⟩
theorem vrl1 {z : Led} {ρ : List Addr} {a : V} {w : Value} (h : VRL z ρ [a] [w]) : VR z ρ a w := by cases h; assumption
theorem vrl2 {z : Led} {ρ : List Addr} {a b : V} {w x : Value} (h : VRL z ρ [a, b] [w, x]) : VR z ρ a w ∧ VR z ρ b x := by cases h with | cons h1 h => cases h with | cons h2 h => exact ⟨h1, h2⟩
theorem vrl3 {z : Led} {ρ : List Addr} {a b d : V} {w x y : Value} (h : VRL z ρ [a, b, d] [w, x, y]) : VR z ρ a w ∧ VR z ρ b x ∧ VR z ρ d y := by cases h with | cons h1 h => cases h with | cons h2 h => cases h with | cons h3 h => exact ⟨h1, h2, h3⟩
theorem len0 {α : Type} {l : List α} (h : l.length = 0) : l = [] := List.length_eq_zero_iff.mp h
theorem len1 {α : Type} {l : List α} (h : l.length = 1) : ∃ a, l = [a] := List.length_eq_one_iff.mp h
theorem len2 {α : Type} {l : List α} (h : l.length = 2) : ∃ a b, l = [a, b] := match l, h with | [a, b], _ => ⟨a, b, rfl⟩
theorem len3 {α : Type} {l : List α} (h : l.length = 3) : ∃ a b d, l = [a, b, d] := match l, h with | [a, b, d], _ => ⟨a, b, d, rfl⟩
section
variable {c : Cx} {env : Env} {ns : List Str} {pos : Pos}
theorem ce_globi {x : Str} {n : Int} {t : Tok} (e : nsIn c.K mainGlobals x = some (some (.int n t))) (hx : env.kindOf x = some .globalImplicit := by (subst_vars; kernel_rfl)) (hd : (x == ("__debug__" : Str)) = false := by decide +kernel) : CE c env ns (.Name x pos) (cstW (.int n)) := fun X ec _ l σ Q _ h => by subst ec; exact ev_glob_i e h hx hd
theorem ce_globr {x : Str} {a : Addr} (e : nsIn c.K mainGlobals x = some (some (.ref a))) (hx : env.kindOf x = some .globalImplicit := by (subst_vars; kernel_rfl)) (hd : (x == ("__debug__" : Str)) = false := by decide +kernel) : CE c env ns (.Name x pos) (cstW (.val (.ref a))) := fun X ec _ l σ Q _ h => by subst ec; exact ev_glob_r e h hx hd
theorem ce_globy {x : Str} {b : Array UInt8} {t : Tok} (e : nsIn c.K mainGlobals x = some (some (.bytes b t))) (hx : env.kindOf x = some .globalImplicit := by (subst_vars; kernel_rfl)) (hd : (x == ("__debug__" : Str)) = false := by decide +kernel) : CE c env ns (.Name x pos) (cstW (.bytes b.toList)) := fun X ec _ l σ Q _ h => by subst ec; exact ev_glob_y e h hx hd
theorem ce_bltt {x : Str} {n : String} (e : nsIn c.K mainGlobals x = some none) (hv : bootBuiltins x = some (.type n)) (hx : env.kindOf x = some .globalImplicit := by (subst_vars; kernel_rfl)) (hn : x ≠ "__name__" := by decide +kernel) (hd : (x == ("__debug__" : Str)) = false := by decide +kernel) :
    CE c env ns (.Name x pos) (cstW (.val (.type n))) := fun X ec _ l σ Q _ h => by subst ec; exact ev_bltn_t e hv h hx hn hd
/-- what is never reached -/
def badX : WX := fun _ _ _ _ => False
theorem cx_bad {s : Stmt} : CX c env ns s badX := fun _ _ _ _ _ _ _ h => h.elim
end
end
section
open PySem PySem.W PyProof.Rows PySem.Calls
theorem vrl_of_ints {z : Led} {ρ : List Addr} : ∀ {ns : List Int} {ws : List Value}, IntsAre ws ns → VRL z ρ (ns.map V.int) ws
  | _, _, .nil => .nil
  | _, _, .cons _ _ h => .cons (.int _ _) (vrl_of_ints h)
/-- from the top's facts to a first state: nothing owned, the script as it is -/
theorem bridge {prog : Program} {w : World} {Kf : Params → Frag} {mg mb : Str → Option Value} {p : Program} {loose : List Str} {mean : ExcName → Option Value} {s₁ : Shared} {kz : Led} {tt : List (Addr × Addr)} {l fa : Addr} {vs : List Value} {ns : List Int} {n D : Nat} {A : Around} {Q' E' : Value → Shared → Prop}
    (T : Top p loose mean mg mb s₁.heap) (KX : (Kf w.params).In s₁.heap) (hg : s₁.gens = #[]) (hkz : ∀ q ∈ kz, (q.1, q.2) ∈ Kf w.params ∧ (Kf w.params).lookup q.1 = some q.2) (htt : ∀ t ∈ tt, s₁.heap.IsCode t.1 t.2 #[] ∧ s₁.heap.TableAt t.1 t.2 #[])
    (hK : ∀ q ∈ Kf w.params, q.1 ∉ tt.map (·.2)) (hl : s₁.heap.get? l = some (listOf vs.toArray n)) (hI : IntsAre vs ns) (ok : Ok A D)
    (h : FN (⟨prog, w, Kf, mg, mb, s₁.os, s₁.drawn, s₁.heap, tt, kz, AllBare⟩ : Cx) D (.val (.ref fa)) [.lst (ns.map V.int)] [] [] fun v _ => v = .bool true)
    (q : ∀ s', OldK s₁.heap s'.heap → s'.os = s₁.os → AllBare s'.gens → Q' (.bool true) s') : wpAny (model prog w) A (call (.ref fa) [.ref l]) Q' E' s₁ := by
  let c : Cx := ⟨prog, w, Kf, mg, mb, s₁.os, s₁.drawn, s₁.heap, tt, kz, AllBare⟩
  let tk := tt.map (·.2)
  have atP : ∀ a ∈ tk, s₁.heap.get? a = some { cls := .none, data := .fields #[] } := fun a ha => by
    obtain ⟨t, ht, rfl⟩ := List.mem_map.mp ha
    exact (htt t ht).2.2
  have nP : ∀ {a : Addr} {o : Obj}, s₁.heap.get? a = some o → (o.cls ≠ .none ∨ ∀ vs, o.data ≠ .fields vs) → a ∉ tk := fun {a o} e hd hm => by
    rw [atP a hm] at e; cases e
    rcases hd with h | h
    · exact h rfl
    · exact h _ rfl
  have nsP : ∀ {a : Addr} {m : Str → Option Value}, s₁.heap.Ns a m → a ∉ tk := fun {a m} hn hm => by
    obtain ⟨o, es, ep, e, r⟩ := hn
    rw [atP a hm] at e; cases e
    simp at r
  have up : ∀ x o, s₁.heap.get? x = some o → x ∉ tk → (hideAll s₁.heap tk).get? x = some o := fun x o e hx => hideAll_get _ e hx
  have nsUp : ∀ {a : Addr} {m : Str → Option Value}, s₁.heap.Ns a m → (hideAll s₁.heap tk).Ns a m := fun {a m} hn => by
    have h1 := nsP hn
    obtain ⟨o, es, ep, e, r⟩ := hn
    exact ⟨o, es, ep, up _ _ e h1, r⟩
  obtain ⟨bm, ob, b1, b2, b3, b4, b5, b6⟩ := T.bmain
  have B : Base c (hideAll s₁.heap tk) := by
    refine ⟨fun a o ha => up a o (KX a o ha) (hK (a, o) ?_), nsUp T.g, nsUp T.b, ?_, T.builtins, fun t ht => ?_, ⟨bm, ob, b1, b2, up _ _ b3 (nP b3 (.inl (by rw [b4]; simp))), b4, b5, b6⟩⟩
    · exact assoc_mem ha
    · obtain ⟨m, hn, r⟩ := T.nolimit
      exact ⟨m, nsUp hn, r⟩
    · obtain ⟨⟨o, vs, a1, a2, _⟩, _⟩ := (htt t ht).2
      exact ⟨o, up _ _ a1 (nP a1 (.inl (by rw [a2]; simp)))⟩
  have hlP : l ∉ tk := nP hl (.inl (by simp))
  have R : Rp c (hideAll s₁.heap tk) [] [] ((l, listOf vs.toArray n) :: kz) [] s₁ := by
    refine ⟨B, fun b o e => of_hideAll _ e, ⟨[], .nil, by simp, by simp⟩, fun q hq => ?_, fun a ha => ?_, fun t ht => ⟨#[], htt t ht⟩, rfl, rfl, hg ▸ AllBare.empty, fun p hp => .tail _ hp⟩
    · rcases List.mem_cons.mp hq with rfl | hq
      · exact ⟨hl, fun hm => hlP (by simpa [c, tk, Cx.tk] using hm)⟩
      · exact ⟨KX _ _ (hkz q hq).2, fun hm => hK _ (hkz q hq).1 (by simpa [c, tk, Cx.tk] using hm)⟩
    · have ha' : a ∈ tk := by simpa [c, tk, Cx.tk] using ha
      exact ⟨hideAll_none _ ha', _, atP a ha'⟩
  refine h A (hideAll s₁.heap tk) [] _ s₁ Q' E' (.ref fa) [.ref l] [] ok R (.val _) (.cons (.lst (.head _) (vrl_of_ints hI)) .nil) .nil fun v w' σ' ρ' z' s' hv R' G' r' => ?_
  subst hv
  cases r'
  refine q s' ⟨fun b o e => ?_, fun b o e => ?_⟩ R'.os R'.gens
  · by_cases hb : b ∈ tk
    · obtain ⟨t, ht, rfl⟩ := List.mem_map.mp hb
      obtain ⟨ps, _, hta⟩ := R'.tabs t ht
      rw [atP _ hb] at e; cases e
      exact .inr (.inl ⟨(htt t ht).2.isCodeTable, rfl, #[], ps, rfl, by rw [hta.2]; simp⟩)
    · exact .inl (R'.keep _ _ (up _ _ e hb))
  · by_cases hb : b ∈ tk
    · obtain ⟨t, ht, rfl⟩ := List.mem_map.mp hb
      obtain ⟨ps, _, hta⟩ := R'.tabs t ht
      exact ⟨_, hta.2⟩
    · exact ⟨o, R'.keep _ _ (up _ _ e hb)⟩
end
section
open PySem PySem.W PyProof.Rows PySem.Calls
-- PLAIN FACTS FOR WALKS
theorem getVI {ns : List Int} {i : Nat} {K : V → Prop} (h : i < ns.length) (k : K (.int (ns.getD i 0))) : getV (ns.map V.int) i K := by
  refine getV_of (v := .int (ns.getD i 0)) ?_ k
  rw [List.getElem?_map, List.getElem?_eq_getElem h]
  simp [List.getD_eq_getElem?_getD, List.getElem?_eq_getElem h]
theorem fdivN (n k : Nat) : (n : Int).fdiv k = ((n / k : Nat) : Int) := by rw [Int.fdiv_eq_ediv_of_nonneg _ (by omega)]; exact (Int.natCast_ediv n k).symm
theorem fmodN (n k : Nat) : (n : Int).fmod k = ((n % k : Nat) : Int) := by rw [Int.fmod_eq_emod_of_nonneg _ (by omega)]; exact (Int.natCast_emod n k).symm
def padB (ns : List Int) (n : Nat) : List Int := if ns.length ≤ n / 8 then ns ++ [0] else ns
def putB (ns : List Int) (n : Nat) (b : Bool) : List Int := if b then (padB ns n).set (n / 8) (Builtin.bitOr ((padB ns n).getD (n / 8) 0) (128 / 2 ^ (n % 8))) else padB ns n
abbrev Buf := List Int × Nat
def pbit (p : Buf) (b : Bool) : Buf := (putB p.1 p.2 b, p.2 + 1)
def BOk (p : Buf) : Prop := p.2 / 8 ≤ p.1.length ∧ p.1.length ≤ p.2 / 8 + 1 ∧ p.2 ≤ 100000
theorem putB_len (ns : List Int) (n : Nat) (b : Bool) : (putB ns n b).length = (padB ns n).length := by
  unfold putB; split <;> simp
theorem padB_len {ns : List Int} {n : Nat} (h : n / 8 ≤ ns.length) (h2 : ns.length ≤ n / 8 + 1) : (padB ns n).length = n / 8 + 1 := by
  unfold padB
  split
  · rw [List.length_append, List.length_singleton]; omega
  · omega
theorem pbit_ok {p : Buf} (h : BOk p) (h2 : p.2 + 1 ≤ 100000) (b : Bool) : BOk (pbit p b) := by
  obtain ⟨h0, h1, _⟩ := h
  unfold pbit BOk
  rw [putB_len, padB_len h0 h1]
  simp only
  omega
def bitsOf (num : Int) (len : Nat) : List Bool := (List.range len).map fun k => Builtin.bitAnd (num.fdiv (2 ^ (len - k - 1))) 1 == 1
def pbits (p : Buf) (bs : List Bool) : Buf := bs.foldl pbit p
theorem pbits_n (p : Buf) (bs : List Bool) : (pbits p bs).2 = p.2 + bs.length := by
  unfold pbits
  induction bs generalizing p with
  | nil => rfl
  | cons b bs ih => rw [List.foldl_cons, ih]; simp [pbit]; omega
theorem pbits_ok {p : Buf} (h : BOk p) {bs : List Bool} (h2 : p.2 + bs.length ≤ 100000) : BOk (pbits p bs) := by
  unfold pbits
  induction bs generalizing p with
  | nil => exact h
  | cons b bs ih =>
    rw [List.foldl_cons]
    simp only [List.length_cons] at h2
    exact ih (pbit_ok h (by omega) b) (by simp [pbit]; omega)
theorem pbits_append (p : Buf) (a b : List Bool) : pbits p (a ++ b) = pbits (pbits p a) b := by unfold pbits; rw [List.foldl_append]
theorem rng_get1 {a : Int} {n k : Nat} {v : V} (h : (rngVs a 1 n)[k]? = some v) : k < n ∧ v = .int (a + k) := by
  unfold rngVs at h
  obtain ⟨h1, h2⟩ := List.getElem?_eq_some_iff.mp h
  have h3 : k < n := by simpa using h1
  refine ⟨h3, ?_⟩
  rw [← h2]
  simp
theorem mapApp (ns : List Int) (a : Int) : ns.map V.int ++ [V.int a] = (ns ++ [a]).map V.int := by simp
theorem mapSet (ns : List Int) (k : Nat) (a : Int) : (ns.map V.int).set k (V.int a) = (ns.set k a).map V.int := by simp
/-- the buffer, in the heap -/
def bufH (C : Addr) (σ : Hp) (i j : Nat) (p : Buf) : Hp := (σ.set j (.list (p.1.map V.int))).set i (.inst C [(6, .ref j), (7, .int p.2)])
def IsBuf (C : Addr) (σ : Hp) (i j : Nat) (p : Buf) : Prop := σ[i]? = some (.inst C [(6, .ref j), (7, .int p.2)]) ∧ σ[j]? = some (.list (p.1.map V.int)) ∧ BOk p
theorem IsBuf.ne {C : Addr} {σ : Hp} {i j : Nat} {p : Buf} (h : IsBuf C σ i j p) : i ≠ j := at_ne h.1 h.2.1 (by simp)
theorem IsBuf.self {C : Addr} {σ : Hp} {i j : Nat} {p : Buf} (h : IsBuf C σ i j p) : bufH C σ i j p = σ := by
  unfold bufH; rw [Mine.set_same h.2.1, Mine.set_same h.1]
theorem bufH_twice {C : Addr} {σ : Hp} {i j : Nat} {p q : Buf} (hij : i ≠ j) : bufH C (bufH C σ i j p) i j q = bufH C σ i j q := by
  unfold bufH
  rw [List.set_comm _ _ hij, List.set_set, List.set_set]
theorem IsBuf.buf {C : Addr} {σ : Hp} {i j : Nat} {p q : Buf} (h : IsBuf C σ i j p) (hq : BOk q) : IsBuf C (bufH C σ i j q) i j q :=
  ⟨at_same (at_other h.ne.symm h.1), at_other h.ne (at_same h.2.1), hq⟩
theorem bufH_len {C : Addr} {σ : Hp} {i j : Nat} {p : Buf} : (bufH C σ i j p).length = σ.length := by simp [bufH]
theorem bufH_at {C : Addr} {σ : Hp} {i j k : Nat} {p : Buf} {o : AO} (h : σ[k]? = some o) (h1 : i ≠ k) (h2 : j ≠ k) : (bufH C σ i j p)[k]? = some o := at_other h1 (at_other h2 h)
theorem bitsOf_len (num : Int) (len : Nat) : (bitsOf num len).length = len := by simp [bitsOf]
theorem bitsOf_get {num : Int} {len k : Nat} (h : k < len) : (bitsOf num len)[k]? = some (Builtin.bitAnd (num.fdiv (2 ^ (len - k - 1))) 1 == 1) := by
  unfold bitsOf
  rw [List.getElem?_map, List.getElem?_range h]
  rfl
theorem take_get {α : Type} {l : List α} {k : Nat} {x : α} (h : l[k]? = some x) : l.take (k + 1) = l.take k ++ [x] := by
  rw [List.take_add_one, h]; rfl
end
section
open PySem PySem.W PyProof.Rows PySem.Calls PySem.W.X

section
variable {prog : Program} {w : World} {A : Around} {c : Code} {fs : List Frame} {P : End → Shared → Prop} {s : Shared}
theorem sx_wrap {α : Type} {m : Sem α} {K : α → Sem Fin} {H : Value → Sem Fin} {gd : Bool → Bool} {lv : List Value → List Value}
    (h : wpAny (model prog w) (A.over c fs) m (fun a s' => SegX (model prog w) A c (K a) fs s' P) (fun x s' => SegX (model prog w) A c (H x) fs s' P) s) :
    SegX (model prog w) A c (m.wrap K H gd lv) fs s P := by
  rintro Γ p rfl hΓ
  obtain ⟨e, s', hr, hq⟩ := runs_wrap_of_wp (Φ := fun e s' => e.quiet = true ∧ P e s') K H gd lv m (h (Γ.over fs) p (hΓ.over fs)) (fun a p' s' h' => h' Γ p' rfl hΓ) (fun x p' s' h' => h' Γ p' rfl hΓ)
  exact ⟨e, s', hr, hq⟩
theorem sx_at {p' : Pos} {k : Unit → Sem Fin} (h : SegX (model prog w) A c (k ()) fs s P) : SegX (model prog w) A c (.at p' k) fs s P :=
  sx_wrap (m := standAt p') (K := k) (H := .raise) (gd := id) (lv := id) (wpAny_standAt h)
theorem sx_point {l : List Value} {k : Unit → Sem Fin} (h : SegX (model prog w) A c (k ()) fs s P) : SegX (model prog w) A c (.point l k) fs s P :=
  sx_wrap (m := point) (K := k) (H := .raise) (gd := id) (lv := fun _ => l) (wpAny_point h)
theorem sx_quiet (h : SegX (model prog w) A c t fs s P) : SegX (model prog w) A c t fs s (fun e s' => e.quiet = true ∧ P e s') := fun Γ p hc hΓ => by
  obtain ⟨e, s', hr, hq, hp⟩ := h Γ p hc hΓ
  exact ⟨e, s', hr, hq, hq, hp⟩
end

/-- the slots that are left alone -/
def pinsBut (Ys : List Nat) (a : Array GenState) : List (Nat × GenState) := (a.toList.zipIdx.filter fun p => !Ys.contains p.2).map fun p => (p.2, p.1)
theorem mem_pinsBut {Ys : List Nat} {a : Array GenState} {p : Nat × GenState} : p ∈ pinsBut Ys a ↔ a[p.1]? = some p.2 ∧ p.1 ∉ Ys := by
  unfold pinsBut
  rw [List.mem_map]
  constructor
  · rintro ⟨q, hq, rfl⟩
    rw [List.mem_filter] at hq
    have h1 := List.mem_zipIdx_iff_getElem?.mp hq.1
    exact ⟨by simpa using h1, by simpa using hq.2⟩
  · rintro ⟨h1, h2⟩
    refine ⟨(p.2, p.1), ?_, rfl⟩
    rw [List.mem_filter]
    exact ⟨List.mem_zipIdx_iff_getElem?.mpr (by simpa using h1), by simpa using h2⟩
theorem PIN.but {Ys : List Nat} {a : Array GenState} (h : AllBare a) : PIN (pinsBut Ys a) a := ⟨fun p hp => (mem_pinsBut.mp hp).1, h⟩

@[reducible] def Cx.pin (c : Cx) (ps : List (Nat × GenState)) : Cx := { c with gi := PIN ps }
theorem Base.pin {c : Cx} {g : Heap} (B : Base c g) (ps : List (Nat × GenState)) : Base (c.pin ps) g := ⟨B.X, B.gl, B.bl, B.nolimit, B.builtins, B.codes, B.bmod⟩
theorem Base.unpin {c : Cx} {g : Heap} {ps : List (Nat × GenState)} (B : Base (c.pin ps) g) : Base c g := ⟨B.X, B.gl, B.bl, B.nolimit, B.builtins, B.codes, B.bmod⟩
theorem Base.repin {c : Cx} {g : Heap} {ps ps' : List (Nat × GenState)} (B : Base (c.pin ps) g) : Base (c.pin ps') g := ⟨B.X, B.gl, B.bl, B.nolimit, B.builtins, B.codes, B.bmod⟩
theorem Rp.pin {c : Cx} {g X ρ z σ} {s : Shared} (R : Rp c g X ρ z σ s) {ps : List (Nat × GenState)} (h : PIN ps s.gens) : Rp (c.pin ps) g X ρ z σ s :=
  ⟨R.base.pin ps, R.keep, R.own, R.frz, R.off, R.tabs, R.os, R.dr, h, R.kz⟩
theorem Rp.repin {c : Cx} {ps : List (Nat × GenState)} {g X ρ z σ} {s : Shared} (R : Rp (c.pin ps) g X ρ z σ s) {ps' : List (Nat × GenState)} (h : PIN ps' s.gens) : Rp (c.pin ps') g X ρ z σ s :=
  ⟨R.base.repin, R.keep, R.own, R.frz, R.off, R.tabs, R.os, R.dr, h, R.kz⟩
theorem Rp.unpin {c : Cx} {ps : List (Nat × GenState)} {g X ρ z σ} {s : Shared} (R : Rp (c.pin ps) g X ρ z σ s) (h : c.gi s.gens) : Rp c g X ρ z σ s :=
  ⟨R.base.unpin, R.keep, R.own, R.frz, R.off, R.tabs, R.os, R.dr, h, R.kz⟩

structure OkS (A : Around) (D : Nat) : Prop where
  h : A.handled = none
  d : A.depth + 3 * D + 60 < recursionLimit
  u : A.units + 20 * D + 400 < cLine

/-- a generator's segment, from where it waits -/
def SegG (c : Cx) (A : Around) (gs : GenState) (s : Shared) (P : End → Shared → Prop) : Prop :=
  ∃ c₀ t₀ fs₀, ((gs = .fresh c₀ ∧ t₀ = denote table c₀ ∧ fs₀ = []) ∨ ∃ k₀ l₀ p₀ cl, gs = .suspended k₀ l₀ c₀ p₀ fs₀ cl ∧ t₀ = k₀ (.send .none)) ∧ SegX c.M A c₀ t₀ fs₀ s P
/-- what is a generator's own is as it was -/
def Agr (Xs : List Addr) (Ys : List Nat) (s s' : Shared) : Prop := (∀ x ∈ Xs, ∀ o, s.heap.get? x = some o → s'.heap.get? x = some o) ∧ ∀ j ∈ Ys, ∀ x, s.gens[j]? = some x → s'.gens[j]? = some x
theorem Agr.trans {Xs : List Addr} {Ys : List Nat} {s s' s'' : Shared} (a : Agr Xs Ys s s') (b : Agr Xs Ys s' s'') : Agr Xs Ys s s'' :=
  ⟨fun x hx o e => b.1 x hx o (a.1 x hx o e), fun j hj x e => b.2 j hj x (a.2 j hj x e)⟩
theorem Agr.sub {Xs Xs' : List Addr} {Ys Ys' : List Nat} {s s' : Shared} (a : Agr Xs Ys s s') (h : ∀ x ∈ Xs', x ∈ Xs) (k : ∀ y ∈ Ys', y ∈ Ys) : Agr Xs' Ys' s s' :=
  ⟨fun x hx => a.1 x (h x hx), fun j hj => a.2 j (k j hj)⟩
def offP (Ys : List Nat) (ps : List (Nat × GenState)) : Prop := ∀ p ∈ ps, p.1 ∉ Ys

def GOKB (c : Cx) (D : Nat) (Pst : Heap → List (Nat × GenState) → Led → List Addr → End → Shared → Prop) (gs : GenState) (Xs : List Addr) (Ys : List Nat) (zg : Led) (s : Shared) : Prop :=
  ∀ (A : Around) (g : Heap) (ps : List (Nat × GenState)) (s' : Shared), OkS A D → Rp (c.pin ps) g Xs [] zg [] s' → Agr Xs Ys s s' → offP Ys ps → SegG c A gs s' (Pst g ps zg Xs)
/-- how a segment of a generator ends that has yet to give the values vs -/
def POST (c : Cx) (D : Nat) : List V → Heap → List (Nat × GenState) → Led → List Addr → End → Shared → Prop
  | [], g, ps, zg, Xd, e, s₁ => (∀ x ∈ Xd, ∃ o, s₁.heap.get? x = some o) ∧ e = .ret (.ok (.ret .none)) ∧ ∃ Xs' zg', Rp (c.pin ps) g Xs' [] zg' [] s₁ ∧ (∀ p ∈ zg, p ∈ zg') ∧ (∀ p ∈ zg', p ∈ zg ∨ g.get? p.1 = none)
  | v :: vs, g, ps, zg, Xd, e, s₁ => (∀ x ∈ Xd, ∃ o, s₁.heap.get? x = some o) ∧ (∃ w g₁ l₁ k₁ c₁ p₁ fs₁, e = .susp w g₁ l₁ k₁ c₁ p₁ fs₁ ∧ ∃ Xs' Ys' zg', Rp (c.pin ps) g Xs' [] zg' [] s₁ ∧ VR zg' [] v w ∧ (∀ p ∈ zg, p ∈ zg') ∧ (∀ p ∈ zg', p ∈ zg ∨ g.get? p.1 = none) ∧
      offP Ys' ps ∧ (∀ x ∈ Xs', x ∉ c.tk) ∧ (∀ j ∈ Ys', ∃ y, s₁.gens[j]? = some y) ∧ GOKB c D (POST c D vs) e.genState Xs' Ys' zg' s₁)
@[reducible] def GOK (c : Cx) (D : Nat) (vs : List V) := GOKB c D (POST c D vs)
theorem GOK.agr {c : Cx} {D : Nat} {vs : List V} {gs : GenState} {Xs : List Addr} {Ys : List Nat} {zg : Led} {s s' : Shared} (h : GOK c D vs gs Xs Ys zg s) (a : Agr Xs Ys s s') : GOK c D vs gs Xs Ys zg s' :=
  fun A g ps s'' ok R b off => h A g ps s'' ok R (a.trans b) off

theorem wp_resumeG {c : Cx} {A : Around} {α : Type} {Q : α → Shared → Prop} {E : Value → Shared → Prop} {s : Shared} {k : Nat} {gs : GenState} {l : List Value} {kk : GenResult → Sem α} (hgs : s.gens[k]? = some gs)
    (x : SegG c A gs (s.setGen k .running) (fun e s₁ => e.quiet = true → wpAny c.M A (kk e.result) Q E (s₁.setGen k e.genState))) : wpAny c.M A (.resume k (.send .none) l kk) Q E s := by
  obtain ⟨c₀, t₀, fs₀, hs, hx⟩ := x
  have hs' : (gs = .fresh c₀ ∧ (Resume.send Value.none) = .send .none ∧ t₀ = denote table c₀ ∧ fs₀ = []) ∨ (∃ k₀ l₀ p₀ cl, gs = .suspended k₀ l₀ c₀ p₀ fs₀ cl ∧ t₀ = k₀ (.send .none)) := hs.imp (fun h => ⟨h.1, rfl, h.2⟩) id
  exact fun Γ p hΓ => wake_any α c.prog c.w hgs hs' (fun Γ => Γ.In A) (fun _ h => h) ((sx_quiet hx).mono fun e s₁ h Γ p hC => h.2 h.1 Γ p hC) Γ p hΓ
end
section
open PySem PySem.W PyProof.Rows PySem.Calls PySem.W.X

/-- a generator that a frame holds: its object, its slot, what is its own, and what it has yet to give -/
structure Gn (c : Cx) (D : Nat) (ps : List (Nat × GenState)) (a : Addr) (k : Nat) (vs : List V) (Xs : List Addr) (Ys : List Nat) (zg : Led) (s : Shared) : Prop where
  gen : s.heap.IsGen a k
  ok : ∃ gs, s.gens[k]? = some gs ∧ GOK c D vs gs Xs Ys zg s
  na : a ∉ Xs
  nk : k ∉ Ys
  off : ∀ p ∈ ps, p.1 ≠ k ∧ p.1 ∉ Ys
  kz : ∀ p ∈ c.kz, p ∈ zg
theorem Gn.agr {c : Cx} {D : Nat} {ps : List (Nat × GenState)} {a : Addr} {k : Nat} {vs : List V} {Xs : List Addr} {Ys : List Nat} {zg : Led} {s s' : Shared} (h : Gn c D ps a k vs Xs Ys zg s) (b : Agr (a :: Xs) (k :: Ys) s s') : Gn c D ps a k vs Xs Ys zg s' :=
  ⟨let ⟨o, nm, qn, ho, r⟩ := h.gen; ⟨o, nm, qn, b.1 a (.head _) o ho, r⟩, let ⟨gs, e, g⟩ := h.ok; ⟨gs, b.2 k (.head _) gs e, g.agr (b.sub (fun _ h => .tail _ h) fun _ h => .tail _ h)⟩, h.na, h.nk, h.off, h.kz⟩
theorem Gn.repin {c : Cx} {D : Nat} {ps ps' : List (Nat × GenState)} {a : Addr} {k : Nat} {vs : List V} {Xs : List Addr} {Ys : List Nat} {zg : Led} {s : Shared} (h : Gn c D ps a k vs Xs Ys zg s) (b : ∀ p ∈ ps', p.1 ≠ k ∧ p.1 ∉ Ys) : Gn c D ps' a k vs Xs Ys zg s :=
  ⟨h.gen, h.ok, h.na, h.nk, b, h.kz⟩

/-- from the world of the one that waits to the generator's own -/
theorem Rp.into {c : Cx} {g : Heap} {Xs X0 ρ z σ} {s : Shared} {zg : Led} {ps : List (Nat × GenState)} (R : Rp c g (Xs ++ X0) ρ z σ s) (hz : ∀ p ∈ zg, p ∈ z) (hkz : ∀ p ∈ c.kz, p ∈ zg) {gs : Array GenState} (hp : PIN ps gs) :
    Rp (c.pin ps) (hideAll s.heap (Xs ++ c.tk)) Xs [] zg [] { s with gens := gs } := by
  have up : ∀ x o, g.get? x = some o → (hideAll s.heap (Xs ++ c.tk)).get? x = some o := fun x o e => hideAll_get _ (R.keep x o e) fun q => by
    have : x ∈ (Xs ++ X0) ++ c.tk := by simp only [List.mem_append] at q ⊢; rcases q with h | h <;> simp [h]
    rw [(R.off x this).1] at e; cases e
  refine ⟨(R.base.keeps up).pin ps, fun b o e => of_hideAll _ e, ⟨[], .nil, by simp, by simp⟩, fun q hq => ⟨(R.frz q (hz q hq)).1, fun h => (R.frz q (hz q hq)).2 (by simp only [List.mem_append] at h ⊢; rcases h with h | h; exact .inl (.inl h); exact .inr h)⟩, fun x hx => ⟨hideAll_none _ hx, ?_⟩, R.tabs, R.os, R.dr, hp, hkz⟩
  exact (R.off x (by simp only [List.mem_append] at hx ⊢; rcases hx with h | h; exact .inl (.inl h); exact .inr h)).2
/-- and back -/
theorem Rp.outof {c : Cx} {g : Heap} {Xs X0 ρ z σ} {s : Shared} {zg : Led} {ps : List (Nat × GenState)} (R : Rp c g (Xs ++ X0) ρ z σ s) (hd : ∀ x ∈ X0, x ∉ Xs ++ c.tk) (hz : ∀ p ∈ zg, p ∈ z)
    {Xs' : List Addr} {zg' : Led} {s₁ : Shared} (R1 : Rp (c.pin ps) (hideAll s.heap (Xs ++ c.tk)) Xs' [] zg' [] s₁) (hx : ∀ p ∈ zg', p ∈ zg ∨ (hideAll s.heap (Xs ++ c.tk)).get? p.1 = none) {gs : Array GenState} (hgs : c.gi gs) (hdm : ∀ x ∈ Xs, ∃ o, s₁.heap.get? x = some o) :
    Rp c g (Xs' ++ X0) ρ (zg' ++ z) σ { s₁ with gens := gs } ∧ Go g ρ z s ρ (zg' ++ z) { s₁ with gens := gs } ∧ (∀ b o, b ∉ Xs ++ c.tk → s.heap.get? b = some o → s₁.heap.get? b = some o) := by
  have inh : ∀ b o, b ∉ Xs ++ c.tk → s.heap.get? b = some o → (hideAll s.heap (Xs ++ c.tk)).get? b = some o := fun b o hb e => hideAll_get _ e hb
  have up : ∀ x o, g.get? x = some o → (hideAll s.heap (Xs ++ c.tk)).get? x = some o := fun x o e => inh x o (fun q => by
    have : x ∈ (Xs ++ X0) ++ c.tk := by simp only [List.mem_append] at q ⊢; rcases q with h | h <;> simp [h]
    rw [(R.off x this).1] at e; cases e) (R.keep x o e)
  have kk : ∀ b o, b ∉ Xs ++ c.tk → s.heap.get? b = some o → s₁.heap.get? b = some o := fun b o hb e => R1.keep b o (inh b o hb e)
  have down : ∀ x, (hideAll s.heap (Xs ++ c.tk)).get? x = none → g.get? x = none := fun x e => by
    cases q : g.get? x with
    | none => rfl
    | some o => rw [up x o q] at e; cases e
  have nX0 : ∀ x ∈ X0, ∃ o, s.heap.get? x = some o ∧ (hideAll s.heap (Xs ++ c.tk)).get? x = some o := fun x hx => by
    obtain ⟨o, e⟩ := (R.off x (by simp [hx])).2
    exact ⟨o, e, inh x o (hd x hx) e⟩
  have hX' : ∀ x ∈ Xs', (hideAll s.heap (Xs ++ c.tk)).get? x = none ∧ ∃ o, s₁.heap.get? x = some o := fun x hx => R1.off x (List.mem_append_left _ hx)
  have hT : ∀ x ∈ c.tk, (hideAll s.heap (Xs ++ c.tk)).get? x = none ∧ ∃ o, s₁.heap.get? x = some o := fun x hx => R1.off x (List.mem_append_right _ hx)
  obtain ⟨led, a, b, d⟩ := R.own
  have inS : ∀ x, x ∉ (Xs ++ X0) ++ c.tk → x ∉ Xs ++ c.tk := fun x h k => h (by simp only [List.mem_append] at k ⊢; rcases k with k | k; exact .inl (.inl k); exact .inr k)
  refine ⟨⟨R.base, fun x o e => R1.keep x o (up x o e), ⟨led, a.mono ⟨fun _ _ h => h, fun p h => List.mem_append_right _ h⟩, b, fun p hp => ?_⟩, fun q hq => ?_, fun x hx => ?_, R1.tabs, R1.os, R1.dr, hgs, fun p hp => List.mem_append_right _ (R.kz p hp)⟩, ⟨⟨fun _ _ h => h, fun p h => List.mem_append_right _ h⟩, fun x o e => ?_, fun p hp => ?_⟩, kk⟩
  · have ph := inh p.1 p.2 (inS _ (d p hp).2.2.1) (d p hp).1
    refine ⟨R1.keep _ _ ph, (d p hp).2.1, fun hm => ?_, fun q hq => ?_⟩
    · rcases List.mem_append.mp hm with h | h
      · rcases List.mem_append.mp h with h | h
        · rw [(hX' _ h).1] at ph; cases ph
        · exact (d p hp).2.2.1 (by simp [h])
      · exact (d p hp).2.2.1 (by simp [h])
    · rcases List.mem_append.mp hq with h | h
      · rcases hx q h with h | h
        · exact (d p hp).2.2.2 q (hz q h)
        · intro e; rw [e, ph] at h; cases h
      · exact (d p hp).2.2.2 q h
  · rcases List.mem_append.mp hq with h | h
    · refine ⟨(R1.frz q h).1, fun hm => ?_⟩
      rcases List.mem_append.mp hm with hm | hm
      · rcases List.mem_append.mp hm with hm | hm
        · exact (R1.frz q h).2 (List.mem_append_left _ hm)
        · rcases hx q h with h' | h'
          · exact (R.frz q (hz q h')).2 (by simp [hm])
          · obtain ⟨o, _, e⟩ := nX0 _ hm
            rw [h'] at e; cases e
      · exact (R1.frz q h).2 (List.mem_append_right _ hm)
    · have ph := inh q.1 q.2 (inS _ (R.frz q h).2) (R.frz q h).1
      refine ⟨R1.keep _ _ ph, fun hm => ?_⟩
      rcases List.mem_append.mp hm with hm | hm
      · rcases List.mem_append.mp hm with hm | hm
        · rw [(hX' _ hm).1] at ph; cases ph
        · exact (R.frz q h).2 (by simp [hm])
      · exact (R.frz q h).2 (by simp [hm])
  · rcases List.mem_append.mp hx with hm | hm
    · rcases List.mem_append.mp hm with hm | hm
      · exact ⟨down _ (hX' x hm).1, (hX' x hm).2⟩
      · obtain ⟨o, _, e⟩ := nX0 _ hm
        exact ⟨(R.off x (by simp [hm])).1, o, R1.keep _ _ e⟩
    · exact ⟨down _ (hT x hm).1, (hT x hm).2⟩
  · by_cases hb : x ∈ Xs ++ c.tk
    · rcases List.mem_append.mp hb with h | h
      · exact hdm x h
      · exact (hT x h).2
    · exact ⟨o, kk x o hb e⟩
  · rcases List.mem_append.mp hp with h | h
    · rcases hx p h with h' | h'
      · exact .inl (hz p h')
      · exact .inr (down _ h')
    · exact .inl h

/-- the generator is asked for its next value -/
theorem gn_next {c : Cx} {D : Nat} {ps : List (Nat × GenState)} {A : Around} {g : Heap} {a : Addr} {k : Nat} {vs : List V} {Xs X0 ρ z σ} {Ys : List Nat} {zg : Led} {s : Shared} {Q : Option Value → Shared → Prop} {E : Value → Shared → Prop}
    (hh : A.handled = none) (hroom : A.depth < recursionLimit) (hok : OkS A.in1 D) (R : Rp (c.pin ps) g (a :: Xs ++ X0) ρ z σ s) (hd : ∀ x ∈ X0, x ∉ a :: Xs) (htk : ∀ x ∈ a :: X0, x ∉ c.tk) (G : Gn c D ps a k vs Xs Ys zg s) (hz : ∀ p ∈ zg, p ∈ z)
    (hsome : ∀ v vs', vs = v :: vs' → ∀ w Xs' Ys' zg' z' s', (∀ p ∈ zg', p ∈ z') → Rp (c.pin ps) g (a :: Xs' ++ X0) ρ z' σ s' → Go g ρ z s ρ z' s' → (∀ b o, b ∉ Xs ++ c.tk → s.heap.get? b = some o → s'.heap.get? b = some o) → VR z' ρ v w → Gn c D ps a k vs' Xs' Ys' zg' s' →
      (∀ x ∈ X0, x ∉ a :: Xs') → (∀ j x, j ≠ k → j ∉ Ys → s.gens[j]? = some x → s'.gens[j]? = some x) → (∀ j ∈ Ys', j ∈ Ys ∨ s.gens.size ≤ j) → (∀ x ∈ Xs', x ∉ c.tk) → (∀ j ∈ Ys', ∃ y, s'.gens[j]? = some y) → Q (some w) s')
    (hnone : vs = [] → ∀ z' s', (∀ p ∈ z, p ∈ z') → Rp (c.pin ps) g X0 ρ z' σ s' → Go g ρ z s ρ z' s' → (∀ b o, b ∉ Xs ++ c.tk → s.heap.get? b = some o → s'.heap.get? b = some o) → (∀ j x, j ≠ k → j ∉ Ys → s.gens[j]? = some x → s'.gens[j]? = some x) → Q none s') :
    wpAny c.M A (pyNext (.ref a)) Q E s := by
  obtain ⟨hg, ⟨gs, hgs, hG⟩, na, nk, hoff, hkz⟩ := G
  have hp0 : PIN ps s.gens := R.gens
  have hl : s.heap.NoLimit := R.base.nolimit.keeps R.keep
  have R' : Rp (c.pin ps) g (Xs ++ (a :: X0)) ρ z σ s := R.perm fun x hx => by simp only [List.mem_append, List.mem_cons] at hx ⊢; rcases hx with h | h | h <;> simp [h]
  have hd' : ∀ x ∈ a :: X0, x ∉ Xs ++ c.tk := fun x hx hm => by
    rcases List.mem_append.mp hm with h | h
    · rcases List.mem_cons.mp hx with rfl | hx
      · exact na h
      · exact hd x hx (.tail _ h)
    · exact htk x hx h
  have hbare : AllBare (s.setGen k .running).gens := hp0.2.moved ((.inr ⟨GenOnly.setGen s k .running, fun x hx => by rw [setGen_self hgs] at hx; cases hx; rfl⟩))
  have R1 := R'.into (zg := zg) hz hkz (PIN.but (Ys := Ys) hbare)
  have sg := hG A.in1 _ _ (s.setGen k .running) hok R1 ⟨fun x hx o e => e, fun j hj x e => ((GenOnly.setGen s k .running).2 j (fun q => nk (q ▸ hj))).trans e⟩ (fun p hp hm => (mem_pinsBut.mp hp).2 hm)
  have run : ∀ s₁ : Shared, PIN (pinsBut Ys (s.setGen k .running).gens) s₁.gens → ∀ gs' : GenState, gs'.bare = true → PIN ps (s₁.setGen k gs').gens ∧ (∀ j x, j ≠ k → j ∉ Ys → s.gens[j]? = some x → (s₁.setGen k gs').gens[j]? = some x) ∧ (s₁.setGen k gs').gens[k]? = some gs' := fun s₁ h1 gs' hb => by
    have other : ∀ j x, j ≠ k → j ∉ Ys → s.gens[j]? = some x → (s₁.setGen k gs').gens[j]? = some x := fun j x hj hY e => by
      rw [(GenOnly.setGen s₁ k gs').2 j hj]
      exact h1.1 (j, x) (mem_pinsBut.mpr ⟨((GenOnly.setGen s k .running).2 j hj).trans e, hY⟩)
    have hk1 : s₁.gens[k]? = some .running := h1.1 (k, .running) (mem_pinsBut.mpr ⟨setGen_self hgs, nk⟩)
    have hk2 : (s₁.setGen k gs').gens[k]? = some gs' := setGen_self hk1
    refine ⟨⟨fun p hp => other p.1 p.2 (hoff p hp).1 (hoff p hp).2 (hp0.1 p hp), h1.2.moved (.inr ⟨GenOnly.setGen s₁ k gs', fun x hx => by rw [hk2] at hx; cases hx; exact hb⟩)⟩, other, hk2⟩
  unfold pyNext
  refine wpAny_bind (wpAny_attempt (wpAny_callSpecial?_slot (name := Str.ofString "__next__") hg.typeIs slot_gen_next
    (wpAny_call_entry slot_gen_next hg.typeIs entry_gen_next ?_ (args_gen_next _))))
  show wpAny _ A.in1 (Builtin.Generator.genWake (.ref a) (.send .none)) _ _ s
  unfold Builtin.Generator.genWake
  refine wpAny_bind (wpAny_holding (wpAny_genNumber hg (wpAny_bind (wpAny_genState hgs ?_))))
  have key : ∀ (kk : GenResult → Sem Fin) (Q' : Fin → Shared → Prop) (E' : Value → Shared → Prop), (∀ e s₁, POST c D vs (hideAll s.heap (Xs ++ c.tk)) (pinsBut Ys (s.setGen k .running).gens) zg Xs e s₁ → e.quiet = true → wpAny c.M A.in1 (kk e.result) Q' E' (s₁.setGen k e.genState)) → wpAny c.M A.in1 (.resume k (.send .none) [] kk) Q' E' s := fun kk Q' E' h => by
    refine wp_resumeG hgs ?_
    obtain ⟨c₀, t₀, fs₀, x, y⟩ := sg
    exact ⟨c₀, t₀, fs₀, x, y.mono h⟩
  have st : gs.status ≠ .running ∧ gs.status ≠ .finished := by
    obtain ⟨c₀, t₀, fs₀, x, y⟩ := sg
    rcases x with ⟨rfl, _⟩ | ⟨_, _, _, _, rfl, _⟩ <;> exact ⟨fun h => (nomatch h), fun h => (nomatch h)⟩
  cases hst : gs.status with
  | running => exact absurd hst st.1
  | finished => exact absurd hst st.2
  | _ =>
    refine wpAny_bind (wpAny_roomToWake hl hroom ?_)
    show wpAny _ A.in1 (.resume k (.send .none) [] _) _ _ s
    refine key _ _ _ fun e s₁ hp hq => ?_
    cases vs with
    | nil =>
      obtain ⟨hdm, rfl, Xs', zg', R2, hz1, hz2⟩ := hp
      show wpAny _ A.in1 (newExc (.type "StopIteration") [] >>= _) _ _ _
      refine wpAny_bind ?_
      simp only [newExc, newTuple]
      refine wpAny_bind (wpAny_newObj_type ?_ (by size_fits))
      refine wpAny_bind (m := firstArgMember _ _) (wpAny_of_eq (a := Value.none) (by first | rfl | (simp only [firstArgMember]; rfl)) ?_)
      refine wpAny_newObj_type ?_ (by size_fits)
      simp only [raiseNew]
      refine wpAny_bind (wpAny_bind (wpAny_handled ?_))
      rw [show A.in1.handled = none from hh]
      refine wpAny_throw ?_
      refine wpAny_bind (wpAny_isInstance (T := "StopIteration") (b := true) ⟨_, Heap.get?_push_size _ rfl, rfl⟩ isSubtype_stop ?_)
      refine wpAny_pure ?_
      have hr := run s₁ R2.gens .finished rfl
      obtain ⟨R3, G3, k3⟩ := R'.outof hd' hz R2 hz2 (gs := (s₁.setGen k .finished).gens) hr.1 hdm
      have grown : ∀ h' tk, (∀ b o, s₁.heap.get? b = some o → h'.get? b = some o) → Q none ⟨h', (s₁.setGen k .finished).gens, s₁.drawn, tk, s₁.os⟩ := fun h' tk kh => by
        have R4 := R3.grow (s' := ⟨h', (s₁.setGen k .finished).gens, s₁.drawn, tk, s₁.os⟩) kh
        refine hnone rfl (zg' ++ z) _ (fun p hp => List.mem_append_right _ hp) (R4.perm fun x hx => by simp [hx]) (G3.trans (Go.same _ _ _ _ _ kh)) (fun b o hb e => kh _ _ (k3 b o hb e)) hr.2.1
      exact grown _ _ (fun b o e => Heap.get?_push_of_some _ (Heap.get?_push_of_some _ e))
    | cons v vs' =>
      obtain ⟨hdm, w, g₁, l₁, k₁, c₁, p₁, fs₁, rfl, Xs', Ys', zg', R2, rv, hz1, hz2, hoff', htk', hyk', hG'⟩ := hp
      refine wpAny_pure ⟨w, rfl, wpAny_pure ?_⟩
      have hr := run s₁ R2.gens (End.susp w g₁ l₁ k₁ c₁ p₁ fs₁).genState (End.bare_of_quiet hq)
      obtain ⟨R3, G3, k3⟩ := R'.outof hd' hz R2 hz2 (gs := (s₁.setGen k (End.susp w g₁ l₁ k₁ c₁ p₁ fs₁).genState).gens) hr.1 hdm
      have hX' : ∀ x ∈ Xs', (hideAll s.heap (Xs ++ c.tk)).get? x = none := fun x hx => (R2.off x (List.mem_append_left _ hx)).1
      have inX : ∀ x ∈ a :: X0, x ∉ Xs' := fun x hx hm => by
        obtain ⟨o, e⟩ := (R'.off x (by simp only [List.mem_append]; exact .inl (.inr hx))).2
        have := hX' x hm
        rw [hideAll_get _ e (hd' x hx)] at this; cases this
      have eg : ∃ o nm qn, s.heap.get? a = some o ∧ o.cls = .type "generator" ∧ o.data = .fields #[.int k 0, nm, qn] ∧ o.slots = #[] := hg
      have hk' : ∀ j ∈ Ys', j ∈ Ys ∨ s.gens.size ≤ j := fun j hj => by
        by_cases h1 : j ∈ Ys
        · exact .inl h1
        · refine .inr (Nat.le_of_not_lt fun hlt => ?_)
          have hsz : j < (s.setGen k .running).gens.size := by rw [(GenOnly.setGen s k .running).1]; exact hlt
          exact hoff' (j, (s.setGen k .running).gens[j]) (mem_pinsBut.mpr ⟨Array.getElem?_eq_getElem hsz, h1⟩) hj
      have na' : a ∉ Xs' := inX a (.head _)
      have hkY' : k ∉ Ys' := fun hm => by
        rcases hk' k hm with h | h
        · exact nk h
        · exact Nat.lt_irrefl _ (Nat.lt_of_lt_of_le (Array.getElem?_eq_some_iff.mp hgs).1 h)
      have agr : ∀ j ∈ Ys', ∀ x, s₁.gens[j]? = some x → (s₁.setGen k (End.susp w g₁ l₁ k₁ c₁ p₁ fs₁).genState).gens[j]? = some x := fun j hj x e => ((GenOnly.setGen s₁ k _).2 j (fun q => hkY' (q ▸ hj))).trans e
      refine hsome v vs' rfl w Xs' Ys' zg' (zg' ++ z) _ (fun p hp => List.mem_append_left _ hp) (R3.perm fun x hx => by simp only [List.mem_append, List.mem_cons] at hx ⊢; rcases hx with (h | h) | h <;> simp [h]) G3 k3 (rv.mono ⟨fun i x h => by simp at h, fun p h => List.mem_append_left _ h⟩)
        ⟨?_, ⟨_, hr.2.2, GOK.agr hG' ⟨fun x hx o e => e, agr⟩⟩, na', hkY', fun p hp => ⟨(hoff p hp).1, fun hm => ?_⟩, fun p hp => hz1 p (hkz p hp)⟩ (fun x hx hm => ?_) hr.2.1 hk' htk' (fun j hj => let ⟨y, e⟩ := hyk' j hj; ⟨y, agr j hj y e⟩)
      · obtain ⟨o, nm, qn, e, r⟩ := eg
        exact ⟨o, nm, qn, k3 a o (hd' a (.head _)) e, r⟩
      · rcases hk' p.1 hm with h | h
        · exact (hoff p hp).2 h
        · exact Nat.lt_irrefl _ (Nat.lt_of_lt_of_le (Array.getElem?_eq_some_iff.mp (hp0.1 p hp)).1 h)
      · rcases List.mem_cons.mp hm with rfl | h
        · exact hd x hx (.head _)
        · exact inX x (.tail _ hx) h
end
section
open PySem PySem.W PyProof.Rows PySem.Calls PySem.W.X

/-- a generator's own frame while it runs -/
structure RX (c : Cx) (env : Env) (g : Heap) (Xi : List Addr) (zg : Led) (l : Loc) (s : Shared) : Prop extends Rp c g (env.locals :: Xi) [] zg [] s where
  ns : ∃ m, s.heap.Ns env.locals m ∧ ∀ p ∈ l, NR env [] zg m p
  nd : (l.map (·.1)).Nodup
  kind : env.scope.kind = .function
  glob : env.globals = mainGlobals
  bltn : env.builtins = builtinsNs
  lt : env.locals ∉ c.tk
  dj : env.locals ∉ Xi
  xk : ∀ x ∈ Xi, x ∉ c.tk
abbrev INN := List Addr → List Nat → Led → Shared → Prop
def Stab (Inn : INN) : Prop := ∀ Xi Yi zg zg' s s', Inn Xi Yi zg s → (∀ p ∈ zg, p ∈ zg') → Agr Xi Yi s s' → Inn Xi Yi zg' s'
structure GAt (c : Cx) (D : Nat) (env : Env) (Inn : INN) (A : Around) (g : Heap) (ps : List (Nat × GenState)) (Xi : List Addr) (Yi : List Nat) (zg zs : Led) (Xd : List Addr) (l : Loc) (s : Shared) : Prop where
  ok : OkS A D
  rx : RX (c.pin ps) env g Xi zg l s
  inn : Inn Xi Yi zg s
  off : offP Yi ps
  yk : ∀ j ∈ Yi, ∃ y, s.gens[j]? = some y
  z1 : ∀ p ∈ zs, p ∈ zg
  z2 : ∀ p ∈ zg, p ∈ zs ∨ g.get? p.1 = none
  xd : ∀ x ∈ Xd, ∃ o, s.heap.get? x = some o
/-- from here on the generator gives the values vs, and ends -/
def GoOn (c : Cx) (D : Nat) (env : Env) (Inn : INN) (vs : List V) (l : Loc) (t : Sem Fin) (cd : Code) (fs : List Frame) : Prop :=
  ∀ (A : Around) (g : Heap) (ps : List (Nat × GenState)) (Xi : List Addr) (Yi : List Nat) (zg zs : Led) (Xd : List Addr) (s : Shared), GAt c D env Inn A g ps Xi Yi zg zs Xd l s → SegX c.M A cd t fs s (POST c D vs g ps zs Xd)
def OkF (D : Nat) (cd : Code) (fs : List Frame) : Prop := ∀ A, OkS A D → Ok (A.over cd fs) D

/-- what a step of a frame of the module's own leaves behind -/
structure Stp (c : Cx) (env : Env) (g : Heap) (ps : List (Nat × GenState)) (Xi : List Addr) (zg : Led) (s : Shared) (l' : Loc) (zg' : Led) (s' : Shared) : Prop where
  rx : RX (c.pin ps) env g Xi zg' l' s'
  gens : ∀ (j : Nat) (x : GenState), s.gens[j]? = some x → s'.gens[j]? = some x
  keep : ∀ x ∈ Xi, ∀ o, s.heap.get? x = some o → s'.heap.get? x = some o
  go : Go g [] zg s [] zg' s'
theorem GAt.step {c : Cx} {D : Nat} {env : Env} {Inn : INN} {A : Around} {g : Heap} {ps : List (Nat × GenState)} {Xi : List Addr} {Yi : List Nat} {zg zs : Led} {Xd : List Addr} {l : Loc} {s : Shared} (a : GAt c D env Inn A g ps Xi Yi zg zs Xd l s) (hS : Stab Inn)
    {l' : Loc} {zg' : Led} {s' : Shared} (t : Stp c env g ps Xi zg s l' zg' s') : GAt c D env Inn A g ps Xi Yi zg' zs Xd l' s' :=
  ⟨a.ok, t.rx, hS _ _ _ _ _ _ a.inn t.go.zz ⟨t.keep, fun j _ x e => t.gens j x e⟩, a.off, fun j hj => let ⟨y, e⟩ := a.yk j hj; ⟨y, t.gens j y e⟩, fun p hp => t.go.zz p (a.z1 p hp), fun p hp => (t.go.fr p hp).elim (a.z2 p) .inr, fun x hx => let ⟨o, e⟩ := a.xd x hx; t.go.dom x o e⟩

section
variable {c : Cx} {D : Nat} {env : Env} {Inn : INN} {A : Around} {g : Heap} {ps : List (Nat × GenState)} {Xi : List Addr} {Yi : List Nat} {zg zs : Led} {Xd : List Addr} {l : Loc} {s : Shared}
/-- the frame's own world, its generators left alone -/
theorem RX.inner (R : RX (c.pin ps) env g Xi zg l s) :
    ∃ g1 ps1, Rep (c.pin ps1) env g1 [] zg [] l s ∧ ∀ l' ρ' z' s', Rep (c.pin ps1) env g1 ρ' z' [] l' s' → Go g1 [] zg s ρ' z' s' → ρ' = [] ∧ Stp c env g ps Xi zg s l' z' s' := by
  have hb : AllBare s.gens := R.gens.2
  have P : Rp (c.pin (pinsBut [] s.gens)) g ([env.locals] ++ Xi) [] zg [] s := R.toRp.repin (PIN.but hb)
  obtain ⟨g1, Rg, back⟩ := P.inner fun x hx => ⟨fun h => R.dj (List.mem_singleton.mp h ▸ hx), R.xk x hx⟩
  refine ⟨g1, _, ⟨Rg, R.ns, R.nd, R.kind, R.glob, R.bltn, R.lt⟩, fun l' ρ' z' s' R' G' => ?_⟩
  have hρ : ρ' = [] := by
    obtain ⟨led, a, _⟩ := R'.own
    have := a.length
    exact List.length_eq_zero_iff.mp this.symm
  subst hρ
  obtain ⟨PB, GB, kO⟩ := back _ _ _ _ R'.toRp G'
  have hg : ∀ (j : Nat) (x : GenState), s.gens[j]? = some x → s'.gens[j]? = some x := fun j x e => PB.gens.1 (j, x) (mem_pinsBut.mpr ⟨e, by simp⟩)
  have P2 : Rp (c.pin ps) g (env.locals :: Xi) [] z' [] s' := PB.repin ⟨fun p hp => hg p.1 p.2 (R.gens.1 p hp), PB.gens.2⟩
  exact ⟨rfl, ⟨P2, R'.ns, R'.nd, R'.kind, R'.glob, R'.bltn, R'.lt, R.dj, R.xk⟩, hg, kO, GB⟩
theorem rx_ex {t : Sem Flow} {Q : Fl → Loc → Hp → Prop} {Q' : Flow → Shared → Prop} {E' : Value → Shared → Prop} (R : RX (c.pin ps) env g Xi zg l s) (ok : Ok A D) (h : ∀ ps, EX (c.pin ps) env D t l [] Q) (hσ : ∀ f l' σ', Q f l' σ' → σ' = [])
    (q : ∀ f fw l' zg' s', Q f l' [] → Stp c env g ps Xi zg s l' zg' s' → FR zg' [] f fw → Q' fw s') : wpAny c.M A t Q' E' s := by
  obtain ⟨g1, ps1, R1, back⟩ := R.inner
  refine h ps1 A g1 [] zg s Q' E' ok R1 fun f fw l' σ' ρ' z' s' hq R' G' r => ?_
  have e := hσ _ _ _ hq
  subst e
  obtain ⟨rfl, st⟩ := back _ _ _ _ R' G'
  exact q _ _ _ _ _ hq st r
theorem rx_ev {t : Sem Value} {Q : V → Hp → Prop} {Q' : Value → Shared → Prop} {E' : Value → Shared → Prop} (R : RX (c.pin ps) env g Xi zg l s) (ok : Ok A D) (h : ∀ ps, EV (c.pin ps) env D t l [] Q) (hσ : ∀ f σ', Q f σ' → σ' = [])
    (q : ∀ v w zg' s', Q v [] → Stp c env g ps Xi zg s l zg' s' → VR zg' [] v w → Q' w s') : wpAny c.M A t Q' E' s := by
  obtain ⟨g1, ps1, R1, back⟩ := R.inner
  refine h ps1 A g1 [] zg s Q' E' ok R1 fun v w σ' ρ' z' s' hq R' G' r => ?_
  have e := hσ _ _ hq
  subst e
  obtain ⟨rfl, st⟩ := back _ _ _ _ R' G'
  exact q _ _ _ _ hq st r
theorem rx_eb {t : Sem Bool} {Q : Bool → Hp → Prop} {Q' : Bool → Shared → Prop} {E' : Value → Shared → Prop} (R : RX (c.pin ps) env g Xi zg l s) (ok : Ok A D) (h : ∀ ps, EB (c.pin ps) env D t l [] Q) (hσ : ∀ f σ', Q f σ' → σ' = [])
    (q : ∀ b zg' s', Q b [] → Stp c env g ps Xi zg s l zg' s' → Q' b s') : wpAny c.M A t Q' E' s := by
  obtain ⟨g1, ps1, R1, back⟩ := R.inner
  refine h ps1 A g1 [] zg s Q' E' ok R1 fun b σ' ρ' z' s' hq R' G' => ?_
  have e := hσ _ _ hq
  subst e
  obtain ⟨rfl, st⟩ := back _ _ _ _ R' G'
  exact q _ _ _ hq st
theorem rx_ea {t : Expr} {v : V} {w : Value} {Q : Loc → Hp → Prop} {Q' : Unit → Shared → Prop} {E' : Value → Shared → Prop} (R : RX (c.pin ps) env g Xi zg l s) (ok : Ok A D) (r : VR zg [] v w) (h : ∀ ps, EA (c.pin ps) env D t v l [] Q) (hσ : ∀ f σ', Q f σ' → σ' = [])
    (q : ∀ l' zg' s', Q l' [] → Stp c env g ps Xi zg s l' zg' s' → Q' () s') : wpAny c.M A (assign t env w) Q' E' s := by
  obtain ⟨g1, ps1, R1, back⟩ := R.inner
  refine h ps1 A g1 [] zg s Q' E' w ok R1 r fun l' σ' ρ' z' s' hq R' G' => ?_
  have e := hσ _ _ hq
  subst e
  obtain ⟨rfl, st⟩ := back _ _ _ _ R' G'
  exact q _ _ _ hq st
end

section
variable {c : Cx} {D : Nat} {env : Env} {Inn : INN} {vs : List V} {l : Loc} {cd : Code} {fs : List Frame} {K : Flow → Sem Fin} {H : Value → Sem Fin} {gd : Bool → Bool} {lv : List Value → List Value}
theorem GoOn.eq {t t' : Sem Fin} (e : t = t') (h : GoOn c D env Inn vs l t' cd fs) : GoOn c D env Inn vs l t cd fs := e ▸ h
theorem go_at {p : Pos} {k : Unit → Sem Fin} (h : GoOn c D env Inn vs l (k ()) cd fs) : GoOn c D env Inn vs l (.at p k) cd fs := fun A g ps Xi Yi zg zs Xd s a => sx_at (h A g ps Xi Yi zg zs Xd s a)
/-- a statement that gives nothing -/
theorem go_ex {t : Sem Flow} {Q : Fl → Loc → Hp → Prop} (hS : Stab Inn) (hF : OkF D cd fs) (h : ∀ ps, EX (c.pin ps) env D t l [] Q)
    (hQ : ∀ f l' σ', Q f l' σ' → σ' = [] ∧ match f with | .next => GoOn c D env Inn vs l' (K .next) cd fs | .brk => GoOn c D env Inn vs l' (K .brk) cd fs | .cont => GoOn c D env Inn vs l' (K .cont) cd fs | .ret _ => False) : GoOn c D env Inn vs l (t.wrap K H gd lv) cd fs := by
  intro A g ps Xi Yi zg zs Xd s a
  refine sx_wrap (rx_ex a.rx (hF A a.ok) h (fun f l' σ' hq => (hQ f l' σ' hq).1) fun f fw l' zg' s' hq st r => ?_)
  have := (hQ _ _ _ hq).2
  cases r with
  | next => exact this A g ps Xi Yi zg' zs Xd s' (a.step hS st)
  | brk => exact this A g ps Xi Yi zg' zs Xd s' (a.step hS st)
  | cont => exact this A g ps Xi Yi zg' zs Xd s' (a.step hS st)
  | ret r => exact this.elim
theorem go_nil (h : GoOn c D env Inn vs l (K .next) cd fs) : GoOn c D env Inn vs l ((execs [] env).wrap K H gd lv) cd fs := h
theorem go_cons {st : Stmt} {rest : List Stmt} (h : GoOn c D env Inn vs l ((exec st env).wrap (fun f => match f with | .next => (execs rest env).wrap K H gd lv | f => K f) H gd lv) cd fs) :
    GoOn c D env Inn vs l ((execs (st :: rest) env).wrap K H gd lv) cd fs := by rw [execs_cons_wrap]; exact h
/-- if -/
theorem go_if {test : Expr} {body orelse : List Stmt} {pos : Pos} {Q : Bool → Hp → Prop} (hS : Stab Inn) (hF : OkF D cd fs) (h : ∀ ps, EB (c.pin ps) env D (isTrue test env (eval test env)) l [] Q)
    (hQ : ∀ b σ', Q b σ' → σ' = [] ∧ (b = true → GoOn c D env Inn vs l ((execs body env).wrap K H gd lv) cd fs) ∧ (b = false → GoOn c D env Inn vs l ((execs orelse env).wrap K H gd lv) cd fs)) :
    GoOn c D env Inn vs l ((exec (.If test body orelse pos) env).wrap K H gd lv) cd fs := by
  rw [exec_If]
  show GoOn c D env Inn vs l (.at pos fun _ => (isTrue test env (eval test env) >>= fun b => if b = true then execs body env else execs orelse env).wrap K H gd lv) cd fs
  refine go_at ?_
  rw [Sem.bind_eq_wrap', Sem.wrap_wrap]
  intro A g ps Xi Yi zg zs Xd s a
  refine sx_wrap (rx_eb a.rx (hF A a.ok) h (fun f σ' hq => (hQ f σ' hq).1) fun b zg' s' hq st => ?_)
  have := (hQ _ _ hq).2
  cases b with
  | true => exact this.1 rfl A g ps Xi Yi zg' zs Xd s' (a.step hS st)
  | false => exact this.2 rfl A g ps Xi Yi zg' zs Xd s' (a.step hS st)
/-- the generator gives a value -/
theorem go_yield {e : Expr} {ypos pos : Pos} {v : V} {Q : V → Hp → Prop} (hS : Stab Inn) (hF : OkF D cd fs) (hfs : splitAtGen fs = none) (hgd : gd false = false) (hfg : fs.any Frame.guarded = false) (h : ∀ ps, EV (c.pin ps) env D (eval e env) l [] Q) (hQ : ∀ u σ', Q u σ' → σ' = [] ∧ u = v)
    (k : GoOn c D env Inn vs l (K .next) cd fs) (hco : env.scope.isCoroutine = false := by rfl) (hi : interactive env = false := by rfl) :
    GoOn c D env Inn (v :: vs) l ((exec (.Expr (.Yield (some e) ypos) pos) env).wrap K H gd lv) cd fs := by
  rw [exec_Expr env _ pos hi rfl]
  show GoOn c D env Inn (v :: vs) l (.at pos fun _ => ((eval e env >>= fun v => (standAt ypos >>= fun _ => yieldOut env v)) >>= fun x =>
    dropValue (.Yield (some e) ypos) pos x).wrap K H gd lv) cd fs
  have hy : ∀ v, yieldOut env v = yieldValue v := fun v => by simp only [yieldOut, hco, Bool.false_eq_true, if_false]
  simp only [hy]
  refine go_at ?_
  rw [Sem.bind_eq_wrap', Sem.bind_eq_wrap', Sem.wrap_wrap, Sem.wrap_wrap]
  intro A g ps Xi Yi zg zs Xd s a
  refine sx_wrap (rx_ev a.rx (hF A a.ok) h (fun f σ' hq => (hQ f σ' hq).1) fun u w zg' s' hq st r => ?_)
  obtain rfl := (hQ _ _ hq).2
  have a' := a.step hS st
  refine sx_at ?_
  show SegX c.M A cd (.yield w (gd false) _ _) fs s' _
  rw [hgd]
  refine s_yield c.prog c.w A cd fs _ s' w _ _ hfs hfg fun p => ⟨a'.xd, w, false, _, _, cd, p, fs, rfl, env.locals :: Xi, Yi, zg', a'.rx.toRp, r, a'.z1, a'.z2, a'.off, fun x hx => ?_, a'.yk, ?_⟩
  · rcases List.mem_cons.mp hx with rfl | hx
    · exact a'.rx.lt
    · exact a'.rx.xk x hx
  · intro A2 g2 ps2 s2 ok2 R2 ag off2
    refine ⟨cd, _, fs, .inr ⟨_, _, _, _, rfl, rfl⟩, ?_⟩
    obtain ⟨m, hm, hl⟩ := a'.rx.ns
    refine k A2 g2 ps2 Xi Yi zg' zg' (env.locals :: Xi) s2 ⟨ok2, ⟨R2, ⟨m, hm.at' fun o e => ag.1 _ (.head _) o e, hl⟩, a'.rx.nd, a'.rx.kind, a'.rx.glob, a'.rx.bltn, a'.rx.lt, a'.rx.dj, a'.rx.xk⟩, hS _ _ _ _ _ _ a'.inn (fun _ h => h) (ag.sub (fun _ h => .tail _ h) fun _ h => h), off2, fun j hj => let ⟨y, e⟩ := a'.yk j hj; ⟨y, ag.2 j hj y e⟩, fun _ h => h, fun _ h => .inl h, fun x hx => (R2.off x (List.mem_append_left _ hx)).2⟩
end
end
section
open PySem PySem.W PyProof.Rows PySem.Calls PySem.W.X

/-- what a frame of the machine does with what a loop of its own hands back -/
def frK (env : Env) (K : Flow → Sem Fin) (H : Value → Sem Fin) (gd : Bool → Bool) (lv : List Value → List Value) : Result → Sem Fin := fun r => ((match r with | .ok f => (.pure f : Sem Flow) | .error e => .raise e).onRaise fun (x : Value) => do
        if (← field x 1) == Value.none then unsupported "frame.own-activation:exception-without-traceback"
        setFlight x env.frame).wrap K H gd lv
def loopK (cd : Code) : Flow → Sem Fin := fun f => match f with
  | .next | .cont => .pure (.again cd)
  | .brk => .pure (.done .next)
  | .ret v => .pure (.done (.ret v))
def loopH (env : Env) : Value → Sem Fin := fun e => (do noteFrame e env; theTreesLotGoes e : Sem Unit).wrap (fun _ => .raise e) .raise id id

section
variable {c : Cx} {D : Nat} {env : Env} {Inn : INN} {vs : List V} {l : Loc} {cd : Code} {fs : List Frame} {K : Flow → Sem Fin} {H : Value → Sem Fin} {gd : Bool → Bool} {lv : List Value → List Value}
theorem go_while {test : Expr} {body : List Stmt} {pos : Pos}
    (h : ∀ p, GoOn c D env Inn vs l (denote table (.whileLoop test body [] env)) (.whileLoop test body [] env) (.ret (frK env K H gd lv) none (gd false) (lv []) cd p [] :: fs)) :
    GoOn c D env Inn vs l ((exec (.While test body [] pos) env).wrap K H gd lv) cd fs :=
  fun A g ps Xi Yi zg zs Xd s a => sx_at (s_call c.prog c.w A cd fs _ s (.whileLoop test body [] env) none (gd false) (lv []) (frK env K H gd lv) fun p => h p A g ps Xi Yi zg zs Xd s a)
theorem go_pop {cd' : Code} {f : Flow} {hd : Option Value} {g : Bool} {lv' : List Value} {p : Pos} {kp : List Value} (h : GoOn c D env Inn vs l (K f) cd fs) :
    GoOn c D env Inn vs l (.pure (.done f)) cd' (.ret (frK env K H gd lv) hd g lv' cd p kp :: fs) :=
  fun A g ps Xi Yi zg zs Xd s a => s_pop c.prog c.w A cd' fs _ s (.ok f) _ rfl _ _ _ _ _ _ _ (h A g ps Xi Yi zg zs Xd s a)
theorem go_again {cd' : Code} (hq : cd'.quiet = true) (h : GoOn c D env Inn vs l (denote table cd') cd' fs) : GoOn c D env Inn vs l (.pure (.again cd')) cd fs :=
  fun A g ps Xi Yi zg zs Xd s a => s_again c.prog c.w A cd fs _ s cd' hq (h A g ps Xi Yi zg zs Xd s a)
theorem go_end : GoOn c D env Inn [] l (.pure (.done (.ret .none))) cd [] := fun A g ps Xi Yi zg zs Xd s a =>
  s_end c.prog c.w A cd _ s (.ok (.ret .none)) _ rfl ⟨a.xd, rfl, _, zg, a.rx.toRp, a.z1, a.z2⟩
theorem go_whileTurn {test : Expr} {body : List Stmt} {Q : Bool → Hp → Prop} (hS : Stab Inn) (hF : OkF D cd fs) (h : ∀ ps, EB (c.pin ps) env D (isTrue test env (eval test env)) l [] Q)
    (hQ : ∀ b σ', Q b σ' → σ' = [] ∧ (b = true → GoOn c D env Inn vs l ((execs body env).wrap (loopK (.whileLoop test body [] env)) (loopH env) id id) cd fs) ∧ (b = false → GoOn c D env Inn vs l (.pure (.done .next)) cd fs)) :
    GoOn c D env Inn vs l (denote table (.whileLoop test body [] env)) cd fs := by
  show GoOn c D env Inn vs l ((whileTurn test body [] env).onRaise (fun x => do noteFrame x env; theTreesLotGoes x)) cd fs
  unfold whileTurn
  rw [Sem.onRaise_eq_wrap, Sem.bind_eq_wrap', Sem.wrap_wrap]
  intro A g ps Xi Yi zg zs Xd s a
  refine sx_wrap (rx_eb a.rx (hF A a.ok) h (fun f σ' hq => (hQ f σ' hq).1) fun b zg' s' hq st => ?_)
  have hb := (hQ _ _ hq).2
  have a' := a.step hS st
  cases b with
  | true =>
    have := hb.1 rfl A g ps Xi Yi zg' zs Xd s' a'
    show SegX _ A cd (Sem.wrap _ _ _ _ (if true = true then _ else _)) fs s' _
    rw [if_pos rfl, Sem.bind_eq_wrap', Sem.wrap_wrap]
    rw [Sem.wrap_congr (execs body env) _ _ (K' := loopK (.whileLoop test body [] env)) (H' := loopH env)
      (fun f => by cases f <;> rfl)
      (fun e => by first | exact Sem.bind_eq_wrap _ _ | (show (do noteFrame e env; theTreesLotGoes e : Sem Unit).bind (fun _ => .raise e) = _; rw [Sem.bind_eq_wrap]; rfl))]
    exact this
  | false => exact hb.2 rfl A g ps Xi Yi zg' zs Xd s' a'

/-- the inner generator, beside what was there -/
def withG (c : Cx) (D : Nat) (Inn : INN) (a : Addr) (k : Nat) (us : List V) : INN := fun Xi Yi zg s => ∃ Xs Ys X0 Y0 zi, Xi = a :: Xs ++ X0 ∧ Yi = k :: Ys ++ Y0 ∧ Inn X0 Y0 zg s ∧ Gn c D [] a k us Xs Ys zi s ∧ (∀ p ∈ zi, p ∈ zg) ∧ (∀ x ∈ X0, x ∉ a :: Xs) ∧ (∀ j ∈ Y0, j ≠ k ∧ j ∉ Ys)
theorem withG_stab {a : Addr} {k : Nat} {us : List V} (hS : Stab Inn) : Stab (withG c D Inn a k us) := by
  rintro Xi Yi zg zg' s s' ⟨Xs, Ys, X0, Y0, zi, rfl, rfl, h1, h2, h3, h4, h5⟩ hz ag
  exact ⟨Xs, Ys, X0, Y0, zi, rfl, rfl, hS _ _ _ _ _ _ h1 hz (ag.sub (fun x hx => by simp [hx]) fun y hy => by simp [hy]), h2.agr (ag.sub (fun x hx => List.mem_append_left _ hx) fun y hy => List.mem_append_left _ hy), fun p hp => hz p (h3 p hp), h4, h5⟩

/-- a turn of a loop over an inner generator -/
theorem go_forTurn {target : Expr} {body : List Stmt} {a : Addr} {k : Nat} {us : List V} {Qa : Loc → Hp → Prop} (hS : Stab Inn) (hF : OkF D' cd fs) (hF2 : ∀ A, OkS A D' → OkS (A.over cd fs).in1 D)
    (hnone : us = [] → GoOn c D' env Inn vs l (denote table (.block [] env)) (.block [] env) fs)
    (hsome : ∀ u us', us = u :: us' → (∀ ps, EA (c.pin ps) env D' target u l [] Qa) ∧ ∀ l' σ', Qa l' σ' → σ' = [] ∧ GoOn c D' env (withG c D Inn a k us') vs l' ((execs body env).wrap (loopK (.forLoop target (.ref a) body [] env)) (loopH env) id id) cd fs) :
    GoOn c D' env (withG c D Inn a k us) vs l (denote table (.forLoop target (.ref a) body [] env)) cd fs := by
  show GoOn c D' env _ vs l ((forTurn target (.ref a) body [] env).onRaise (fun x => do noteFrame x env; theTreesLotGoes x)) cd fs
  unfold forTurn
  rw [Sem.onRaise_eq_wrap, Sem.bind_eq_wrap', Sem.wrap_wrap]
  intro A g ps Xi Yi zg zs Xd s a'
  have ok := hF A a'.ok
  obtain ⟨Xs, Ys, X0, Y0, zi, rfl, rfl, i1, i2, i3, i4, i5⟩ := a'.inn
  have R := a'.rx
  refine sx_wrap (wpAny_standAt ?_)
  rw [Sem.bind_eq_wrap', Sem.wrap_wrap]
  have RR : Rp (c.pin ps) g (a :: Xs ++ (env.locals :: X0)) [] zg [] s := R.toRp.perm fun x hx => by simp only [List.mem_append, List.mem_cons] at hx ⊢; rcases hx with (h | h) | h | h <;> simp [h]
  have hd : ∀ x ∈ env.locals :: X0, x ∉ a :: Xs := fun x hx => by
    rcases List.mem_cons.mp hx with rfl | hx
    · exact fun h => R.dj (List.mem_append_left _ h)
    · exact i4 x hx
  have htk : ∀ x ∈ a :: env.locals :: X0, x ∉ c.tk := fun x hx => by
    rcases List.mem_cons.mp hx with rfl | hx
    · exact R.xk _ (by simp)
    · rcases List.mem_cons.mp hx with rfl | hx
      · exact R.lt
      · exact R.xk _ (by simp [hx])
  have nL : env.locals ∉ Xs ++ c.tk := fun h => by
    rcases List.mem_append.mp h with h | h
    · exact R.dj (by simp [h])
    · exact R.lt h
  have nX : ∀ x ∈ X0, x ∉ Xs ++ c.tk := fun x hx h => by
    rcases List.mem_append.mp h with h | h
    · exact i4 x hx (.tail _ h)
    · exact R.xk x (by simp [hx]) h
  have G' : Gn c D ps a k us Xs Ys zi s := i2.repin fun p hp => ⟨fun h => a'.off p hp (by simp [h]), fun h => a'.off p hp (by simp [h])⟩
  refine sx_wrap (wpAny_onRaise (gn_next ok.h (by have := ok.d; omega) (hF2 A a'.ok) RR hd htk G' i3 ?_ ?_))
  · intro u us' hu w Xs' Ys' zg' z' s' hz' R' G k' rv Gn' hd' go hY htk' hyk
    have rx : RX (c.pin ps) env g (a :: Xs' ++ X0) z' l s' := by
      obtain ⟨m, hm, hl⟩ := R.ns
      refine ⟨R'.perm fun x hx => ?_, ⟨m, hm.at' fun o e => k' _ o nL e, fun p hp => (hl p hp).mono G.toExt⟩, R.nd, R.kind, R.glob, R.bltn, R.lt, fun h => ?_, fun x hx => ?_⟩
      · simp only [List.mem_append, List.mem_cons] at hx ⊢; rcases hx with h | (h | h) | h <;> simp [h]
      · rcases List.mem_append.mp h with h | h
        · exact hd' _ (.head _) h
        · exact R.dj (List.mem_append_right _ h)
      · rcases List.mem_append.mp hx with h | h
        · rcases List.mem_cons.mp h with rfl | h
          · exact htk _ (.head _)
          · exact htk' x h
        · exact R.xk x (List.mem_append_right _ h)
    have at1 : GAt c D' env (withG c D Inn a k us') A g ps (a :: Xs' ++ X0) (k :: Ys' ++ Y0) z' zs Xd l s' := by
      refine ⟨a'.ok, rx, ⟨Xs', Ys', X0, Y0, zg', rfl, rfl, hS _ _ _ _ _ _ i1 G.zz ⟨fun x hx o e => k' x o (nX x hx) e, fun j hj x e => go j x (i5 j hj).1 (i5 j hj).2 e⟩, Gn'.repin (fun p hp => (nomatch hp)), hz', fun x hx => hd' x (.tail _ hx), fun j hj => ⟨(i5 j hj).1, fun h => ?_⟩⟩, fun p hp h => ?_, fun j hj => ?_, fun p hp => G.zz p (a'.z1 p hp), fun p hp => (G.fr p hp).elim (a'.z2 p) .inr, fun x hx => let ⟨o, e⟩ := a'.xd x hx; G.dom x o e⟩
      · rcases hY j h with h | h
        · exact (i5 j hj).2 h
        · obtain ⟨y, e⟩ := a'.yk j (by simp [hj])
          exact Nat.lt_irrefl _ (Nat.lt_of_lt_of_le (Array.getElem?_eq_some_iff.mp e).1 h)
      · rcases List.mem_append.mp h with h | h
        · rcases List.mem_cons.mp h with h | h
          · exact (Gn'.off p hp).1 h
          · exact (Gn'.off p hp).2 h
        · exact a'.off p hp (List.mem_append_right _ h)
      · rcases List.mem_append.mp hj with h | h
        · rcases List.mem_cons.mp h with rfl | h
          · exact let ⟨gs, e, _⟩ := Gn'.ok; ⟨gs, e⟩
          · exact hyk j h
        · obtain ⟨y, e⟩ := a'.yk j (List.mem_append_right _ h)
          exact ⟨y, go j y (i5 j h).1 (i5 j h).2 e⟩
    obtain ⟨h1, h2⟩ := hsome u us' hu
    show SegX c.M A cd (Sem.wrap _ _ _ _ (letOwnedTupleGo target (.ref a) w >>= _)) fs s' _
    rw [Sem.bind_eq_wrap', Sem.wrap_wrap]
    obtain ⟨o, nm, qn, eo, ec, _⟩ := Gn'.gen
    refine sx_wrap (lg_plain eo ec (by decide) ?_)
    rw [Sem.bind_eq_wrap', Sem.wrap_wrap]
    refine sx_wrap (rx_ea rx ok rv h1 (fun l' σ' hq => (h2 _ _ hq).1) fun l' zg2 s2 hq st => ?_)
    rw [Sem.bind_eq_wrap', Sem.wrap_wrap]
    have := (h2 _ _ hq).2 A g ps _ _ zg2 zs Xd s2 (at1.step (withG_stab hS) st)
    rw [Sem.wrap_congr (execs body env) _ _ (K' := loopK (.forLoop target (.ref a) body [] env)) (H' := loopH env)
      (fun f => by cases f <;> rfl)
      (fun e => by first | exact Sem.bind_eq_wrap _ _ | (show (do noteFrame e env; theTreesLotGoes e : Sem Unit).bind (fun _ => .raise e) = _; rw [Sem.bind_eq_wrap]; rfl))]
    exact this
  · intro hu z' s' hz R' G k' go
    show SegX c.M A cd (.pure (.again (.block [] env))) fs s' _
    refine s_again c.prog c.w A cd fs _ s' _ rfl ?_
    refine hnone hu A g ps X0 Y0 z' zs Xd s' ⟨a'.ok, ?_, hS _ _ _ _ _ _ i1 G.zz ⟨fun x hx o e => k' x o (nX x hx) e, fun j hj x e => go j x (i5 j hj).1 (i5 j hj).2 e⟩, fun p hp h => a'.off p hp (List.mem_append_right _ h), fun j hj => ?_, fun p hp => G.zz p (a'.z1 p hp), fun p hp => (G.fr p hp).elim (a'.z2 p) .inr, fun x hx => let ⟨o, e⟩ := a'.xd x hx; G.dom x o e⟩
    · obtain ⟨m, hm, hl⟩ := R.ns
      exact ⟨R', ⟨m, hm.at' fun o e => k' _ o nL e, fun p hp => (hl p hp).mono G.toExt⟩, R.nd, R.kind, R.glob, R.bltn, R.lt, fun h => R.dj (List.mem_append_right _ h), fun x hx => R.xk x (List.mem_append_right _ hx)⟩
    · obtain ⟨y, e⟩ := a'.yk j (List.mem_append_right _ hj)
      exact ⟨y, go j y (i5 j hj).1 (i5 j hj).2 e⟩
end
end
section
open PySem PySem.W PyProof.Rows PySem.Calls PySem.W.X
/-- nothing beside -/
def noG : INN := fun Xi Yi _ _ => Xi = [] ∧ Yi = []
theorem noG_stab : Stab noG := fun _ _ _ _ _ _ h _ _ => h
def funK : Flow → Sem Fin := fun f => .pure (.done (.ret (match f with | .ret v => v | _ => .none)))
def funH (env : Env) : Value → Sem Fin := fun e => (leaving env e).wrap (fun _ => .raise e) .raise id id

/-- a new generator stands -/
structure NewG (c : Cx) (Di : Nat) (ps : List (Nat × GenState)) (z : Led) (vs : List V) (a : Addr) (k : Nat) (L : Addr) (s s' : Shared) : Prop where
  keep : ∀ b o, s.heap.get? b = some o → s'.heap.get? b = some o
  os : s'.os = s.os
  dr : s'.drawn = s.drawn
  gens : ∃ y : GenState, y.bare = true ∧ s'.gens = s.gens.push y
  ks : k = s.gens.size
  fa : s.heap.get? a = none
  fL : s.heap.get? L = none
  ne : a ≠ L
  eL : ∃ o, s'.heap.get? L = some o
  gn : Gn c Di ps a k vs [L] [] z s'
/-- the call of a def that yields, by what its generator gives -/
def GFn (c : Cx) (Di : Nat) (f : V) (args : List V) (kw : List (Str × V)) (vs : List V) : Prop :=
  ∀ (ps : List (Nat × GenState)) (A : Around) (g : Heap) (X ρ : List Addr) (z : Led) (σ : Hp) (s : Shared) (R : Result → Shared → Prop) (wf : Value) (ws kws : List Value), A.depth < recursionLimit → Rp (c.pin ps) g X ρ z σ s → VR z ρ f wf → VRL z ρ args ws → VRL z ρ (kw.map (·.2)) kws →
    (∀ a k L s', NewG c Di ps z vs a k L s s' → R (.ok (.ret (.ref a))) s') → codeAny c.M A (.call wf ⟨ws, (kw.map (·.1)).zip kws⟩) R s
theorem fg_def {c : Cx} {D : Nat} {f : Addr} {fd : FuncData} {body : List Stmt} {oc : Value} {od : Option Addr} {osl : Array (Option Value)} {args : List V} {kw : List (Str × V)} {bs : List (Str × V)} {un : List Str} {vs : List V}
    (ho : c.K.lookup f = some ⟨oc, od, .func fd, osl⟩) (hbody : fd.body = .stmts body) (hcd : codeIn c.K fd.code fd.qualname = true) (hbind : BindA c fd args kw bs)
    (hnd : ((bs ++ un.map fun x => (x, V.unb)).map (·.1)).Nodup) (hloc : ∀ x ∈ bs, fd.scope.names.lookup x.1 = some .local) (hfl : ∀ z ρ ws, VRL z ρ (bs.map (·.2)) ws → VRL z [] (bs.map (·.2)) ws)
    (h : ∀ L, GoOn c D (callEnv fd L f) noG vs (bs ++ un.map fun x => (x, V.unb)) ((execs body (callEnv fd L f)).wrap funK (funH (callEnv fd L f)) id id) (.func body (callEnv fd L f)) [])
    (hcell : ∀ x ∈ fd.scope.names, x.2 ≠ .cell) (hgl : fd.globals = mainGlobals) (hbl : fd.builtins = builtinsNs)
    (hco : fd.scope.isCoroutine = false := by rfl) (hgen : fd.scope.isGenerator = true := by rfl) (hk : fd.scope.kind = .function := by rfl) : GFn c D (.val (.ref f)) args kw vs := by
  intro ps A g X ρ z σ s RR wf ws kws hroom R rf rl rk q
  cases rf
  have Xk : c.K.In s.heap := R.base.X.keeps R.keep
  obtain ⟨binds, hb, e1, e2⟩ := hbind z ρ ws kws s Xk rl rk
  have hbl' : ∀ x ∈ binds, fd.scope.names.lookup x.1 = some .local := fun x hx => by
    have : x.1 ∈ bs.map (·.1) := e1 ▸ List.mem_map_of_mem hx
    obtain ⟨y, hy, e⟩ := List.mem_map.mp this
    rw [← e]; exact hloc y hy
  refine codeAny_call_generator hroom (Xk _ _ ho) rfl hco hgen hbody (codeRec_of Xk hcd) (hb _ _ _ _ ?_)
  have hlim : s.heap.NoLimit := R.base.nolimit.keeps R.keep
  refine wpAny_newFunctionEnv hcell hbl' (fun h₀ hns hsb => ⟨hlim.fresh _ hsb, ?_⟩) hk
  have hk₀ : ∀ b o, s.heap.get? b = some o → h₀.get? b = some o := fun b o e => hsb.extBut b o (Nat.ne_of_lt (Heap.lt_size e)) (Heap.get?_push_of_some _ e)
  have hL : s.heap.get? s.heap.objs.size = none := fresh_at (Nat.le_refl _)
  have hsz : h₀.objs.size = s.heap.objs.size + 1 := by rw [hsb.1, Heap.size_push]
  have lt : s.heap.objs.size ∉ c.tk := fun hm => let ⟨_, e⟩ := (R.off _ (List.mem_append_right _ hm)).2; Nat.lt_irrefl _ (Heap.lt_size e)
  have nd : (bs.map (·.1)).Nodup := by rw [List.map_append, List.nodup_append] at hnd; exact hnd.1
  refine q h₀.objs.size s.gens.size s.heap.objs.size _ ⟨fun b o e => Heap.get?_push_of_some _ (hk₀ b o e), rfl, rfl, ⟨_, rfl, rfl⟩, rfl, fresh_at (by rw [hsz]; exact Nat.le_succ _), hL, (fun e => absurd (hsz.symm.trans e) (Nat.succ_ne_self _)), ?_, ⟨⟨_, _, _, Heap.get?_push_size _ rfl, rfl, rfl, rfl⟩, ⟨_, Array.getElem?_push_size .., ?_⟩, fun hm => absurd (hsz.symm.trans (List.mem_singleton.mp hm)) (Nat.succ_ne_self _), by simp, fun p hp => ⟨?_, by simp⟩, R.kz⟩⟩
  · obtain ⟨o, _, _, e, _⟩ := hns
    exact ⟨o, Heap.get?_push_of_some _ e⟩
  · intro A2 g2 ps2 s2 ok2 R2 ag off2
    refine ⟨_, _, [], .inl ⟨rfl, rfl, rfl⟩, ?_⟩
    show SegX c.M A2 _ (.point [] fun _ => ((execs body (callEnv fd s.heap.objs.size f)).onRaise (leaving (callEnv fd s.heap.objs.size f))) >>= _) [] s2 _
    refine sx_point ?_
    rw [Sem.onRaise_eq_wrap, Sem.bind_eq_wrap', Sem.wrap_wrap]
    rw [Sem.wrap_congr (execs body (callEnv fd s.heap.objs.size f)) _ _ (K' := funK) (H' := funH (callEnv fd s.heap.objs.size f)) (fun f => by cases f <;> rfl)
      (fun e => by rw [Sem.bind_eq_wrap, Sem.wrap_wrap]; rfl)]
    have eL : ∀ o, h₀.get? s.heap.objs.size = some o → s2.heap.get? s.heap.objs.size = some o := fun o e => ag.1 _ (.head _) o (Heap.get?_push_of_some _ e)
    refine h s.heap.objs.size A2 g2 ps2 [] [] z z _ s2 ⟨ok2, ⟨R2, ⟨_, hns.at' eL, fun p hp => ?_⟩, hnd, hk, hgl, hbl, lt, by simp, by simp⟩, ⟨rfl, rfl⟩, off2, by simp, fun _ h => h, fun _ h => .inl h, fun x hx => (R2.off x (List.mem_append_left _ hx)).2⟩
    rcases List.mem_append.mp hp with h | h
    · obtain ⟨w, h1, h2⟩ := vrl_lookup e1 (hfl _ _ _ e2) nd h
      exact .inr (.inr ⟨hloc p h, w, h1, h2⟩)
    · obtain ⟨x, _, rfl⟩ := List.mem_map.mp h; exact .inl rfl
  · exact Nat.ne_of_lt (Array.getElem?_eq_some_iff.mp (R.gens.1 p hp)).1

/-- the new generator joins the frame's own -/
theorem NewG.add {c : Cx} {Di : Nat} {ps : List (Nat × GenState)} {z : Led} {vs : List V} {a : Addr} {k : Nat} {L : Addr} {s s' : Shared} {g X ρ z' σ} {ps' : List (Nat × GenState)} (n : NewG c Di ps z vs a k L s s') (R : Rp (c.pin ps') g X ρ z' σ s) : Rp (c.pin ps') g ([a, L] ++ X) ρ z' σ s' := by
  have ea : ∃ o, s'.heap.get? a = some o := let ⟨o, _, _, e, _⟩ := n.gn.gen; ⟨o, e⟩
  obtain ⟨y, hy, eg⟩ := n.gens
  have R1 : Rp (c.pin ps') g ([a, L] ++ X) ρ z' σ { s' with gens := s.gens } := R.addXs (s' := { s' with gens := s.gens }) n.keep (fun x hx => by
    rcases List.mem_cons.mp hx with rfl | hx
    · exact n.fa
    · rw [List.mem_singleton.mp hx]; exact n.fL) (fun x hx => by
    rcases List.mem_cons.mp hx with rfl | hx
    · exact ea
    · rw [List.mem_singleton.mp hx]; exact n.eL) n.os n.dr rfl
  have := R1.gensCh (gs := s'.gens) (by rw [eg]; exact R.gens.push hy)
  exact this
theorem NewG.go {c : Cx} {Di : Nat} {ps : List (Nat × GenState)} {z : Led} {vs : List V} {a : Addr} {k : Nat} {L : Addr} {s s' : Shared} {g ρ z'} (n : NewG c Di ps z vs a k L s s') : Go g ρ z' s ρ z' s' := Go.same _ _ _ _ _ n.keep
theorem NewG.slots {c : Cx} {Di : Nat} {ps : List (Nat × GenState)} {z : Led} {vs : List V} {a : Addr} {k : Nat} {L : Addr} {s s' : Shared} (n : NewG c Di ps z vs a k L s s') : ∀ (j : Nat) (x : GenState), s.gens[j]? = some x → s'.gens[j]? = some x := fun j x e => by
  obtain ⟨y, hy, eg⟩ := n.gens
  have hlt := (Array.getElem?_eq_some_iff.mp e).1
  rw [eg, Array.getElem?_push_lt hlt]
  rw [Array.getElem?_eq_getElem hlt] at e; exact e
end
section
open PySem PySem.W PyProof.Rows PySem.Calls PySem.W.X
section
variable {c : Cx} {D Di : Nat} {env : Env} {Inn : INN} {vs us : List V} {l : Loc} {cd : Code} {fs : List Frame} {K : Flow → Sem Fin} {H : Value → Sem Fin} {gd : Bool → Bool} {lv : List Value → List Value} {pos : Pos}
/-- the call of a def that yields -/
theorem evg_call {ps : List (Nat × GenState)} {σ : Hp} {func : Expr} {args : List Expr} {kws : List Keyword} (hkw : (backToKw pos (keywordEach kws env)).all (·.1.isSome) = true)
    (h : EV (c.pin ps) env D (eval func env) l σ fun vf σ₁ => KeepOk (c.pin ps) vf ∧ EL (c.pin ps) env D pos args l σ₁ fun xs σ₂ => EK (c.pin ps) env D pos kws l σ₂ fun ks σ₃ => GFn c Di vf xs ks us ∧ σ₃ = σ)
    (he : eval (.Call func args kws pos) env = (do callWith pos (← eval func env) [] (backTo pos (starEach args env)) (backToKw pos (keywordEach kws env))))
    {A : Around} {g : Heap} {ρ : List Addr} {z : Led} {s : Shared} {Q' E' : Value → Shared → Prop} (ok : Ok A D) (R : Rep (c.pin ps) env g ρ z σ l s)
    (q : ∀ a k L ρ2 z2 s2 s', Rep (c.pin ps) env g ρ2 z2 σ l s2 → Go g ρ z s ρ2 z2 s2 → NewG c Di ps z2 us a k L s2 s' → Q' (.ref a) s') : wpAny c.M A (eval (.Call func args kws pos) env) Q' E' s := by
  rw [he]
  refine wpAny_bind (h A g ρ z s _ _ ok R fun vf wf σ0 ρ0 z0 s0 h0 R0 G0 rf => ?_)
  obtain ⟨hk, h⟩ := h0
  have hplain : ((backTo pos (starEach args env)).any (·.1) || (backToKw pos (keywordEach kws env)).any (·.1.isNone)) = false := by
    rw [h.1, Bool.false_or, List.any_eq_false]
    intro x hx
    have := List.all_eq_true.mp hkw x hx
    cases hx1 : x.1 <;> simp_all
  refine callWith_of (P := fun h => c.K.In h) hplain (fun h X => keepOk_looks hk rf h X) (evalArgs_gen h.1 hkw ?_)
  refine h.2 A g ρ0 z0 s0 _ _ ok R0 fun vs ws σ1 ρ1 z1 s1 h1 R1 G1 r1 => ?_
  refine h1.2 A g ρ1 z1 s1 _ _ ok R1 fun ks wk σ2 ρ2 z2 s2 h2 hm R2 G2 r2 => ?_
  refine ⟨R2.base.X.keeps R2.keep, ?_⟩
  obtain ⟨h2, rfl⟩ := h2
  rw [← hm]
  have := h2 ps A g [env.locals] ρ2 z2 σ2 s2 (fun r s' => match r with | .ok (.ret w) => Q' w s' | .ok _ => False | .error e => E' e s') wf ws wk (by have := ok.d; omega) R2.toRp (rf.mono (G1.trans G2).toExt) (r1.mono G2.toExt) r2 fun a k L s' n => q a k L ρ2 z2 s2 s' R2 ((G0.trans G1).trans G2) n
  refine wpAny_call (codeAny_mono this fun r s' hr => ?_)
  exact hr

theorem GAt.addG {A : Around} {g : Heap} {ps ps1 : List (Nat × GenState)} {Xi : List Addr} {Yi : List Nat} {zg zs : Led} {Xd : List Addr} {s s' : Shared} {a : Addr} {k : Nat} {L : Addr} (t : GAt c D env Inn A g ps Xi Yi zg zs Xd l s) (hS : Stab Inn) (n : NewG c Di ps1 zg us a k L s s') :
    GAt c D env (withG c Di Inn a k us) A g ps (a :: [L] ++ Xi) (k :: [] ++ Yi) zg zs Xd l s' := by
  have R := t.rx
  have R' := n.add R.toRp
  have ex : ∀ x, (∃ o, s.heap.get? x = some o) → x ≠ a ∧ x ≠ L := by
    rintro x ⟨o, e⟩
    exact ⟨fun q => by (rw [q, n.fa] at e; cases e), fun q => by (rw [q, n.fL] at e; cases e)⟩
  have exX : ∀ x ∈ Xi, x ≠ a ∧ x ≠ L := fun x hx => ex x (R.off x (by simp [hx])).2
  have exL := ex env.locals (R.off env.locals (by simp)).2
  have exT : ∀ x ∈ c.tk, x ≠ a ∧ x ≠ L := fun x hx => ex x (R.off x (List.mem_append_right _ hx)).2
  obtain ⟨m, hm, hl⟩ := R.ns
  refine ⟨t.ok, ⟨R'.perm fun x hx => ?_, ⟨m, hm.keeps n.keep, hl⟩, R.nd, R.kind, R.glob, R.bltn, R.lt, fun h => ?_, fun x hx hT => ?_⟩,
    ⟨[L], [], Xi, Yi, zg, rfl, rfl, hS _ _ _ _ _ _ t.inn (fun _ h => h) ⟨fun x hx o e => n.keep x o e, fun j hj x e => n.slots j x e⟩, n.gn.repin (fun p hp => (nomatch hp)), fun _ h => h, fun x hx hm => ?_, fun j hj => ⟨fun e => ?_, by simp⟩⟩, fun p hp h => ?_, fun j hj => ?_, t.z1, t.z2, fun x hx => let ⟨o, e⟩ := t.xd x hx; ⟨o, n.keep x o e⟩⟩
  · simp only [List.mem_append, List.mem_cons] at hx ⊢
    rcases hx with rfl | (rfl | h) | h
    · simp
    · simp
    · rcases h with rfl | h
      · simp
      · simp at h
    · simp [h]
  · have h' : env.locals = a ∨ env.locals = L ∨ env.locals ∈ Xi := by simpa using h
    rcases h' with h | h | h
    · exact exL.1 h
    · exact exL.2 h
    · exact R.dj h
  · have h' : x = a ∨ x = L ∨ x ∈ Xi := by simpa using hx
    rcases h' with h | h | h
    · exact (exT x hT).1 h
    · exact (exT x hT).2 h
    · exact R.xk x h hT
  · have h' : x = a ∨ x = L := by simpa using hm
    rcases h' with h | h
    · exact (exX x hx).1 h
    · exact (exX x hx).2 h
  · obtain ⟨y, ey⟩ := t.yk j hj
    rw [e, n.ks] at ey
    simp at ey
  · have h' : p.1 = k ∨ p.1 ∈ Yi := by simpa using h
    rcases h' with h | h
    · have := R.gens.1 p hp
      rw [h, n.ks] at this
      simp at this
    · exact t.off p hp h
  · have h' : j = k ∨ j ∈ Yi := by simpa using hj
    rcases h' with rfl | h
    · exact let ⟨gs, e, _⟩ := n.gn.ok; ⟨gs, e⟩
    · obtain ⟨y, e⟩ := t.yk j h
      exact ⟨y, n.slots j y e⟩

/-- in a generator's frame: what is evaluated is the call of another -/
theorem rx_call {ps : List (Nat × GenState)} {A A' : Around} {g : Heap} {Xi : List Addr} {Yi : List Nat} {zg zs : Led} {Xd : List Addr} {s : Shared} {func : Expr} {args : List Expr} {kws : List Keyword} {Q' E' : Value → Shared → Prop} (hS : Stab Inn) (hkw : (backToKw pos (keywordEach kws env)).all (·.1.isSome) = true)
    (h : ∀ ps, EV (c.pin ps) env D (eval func env) l [] fun vf σ₁ => KeepOk (c.pin ps) vf ∧ EL (c.pin ps) env D pos args l σ₁ fun xs σ₂ => EK (c.pin ps) env D pos kws l σ₂ fun ks σ₃ => GFn c Di vf xs ks us ∧ σ₃ = [])
    (he : eval (.Call func args kws pos) env = (do callWith pos (← eval func env) [] (backTo pos (starEach args env)) (backToKw pos (keywordEach kws env))))
    (ok : Ok A' D) (t : GAt c D env Inn A g ps Xi Yi zg zs Xd l s)
    (q : ∀ a k Xi' Yi' zg' s', GAt c D env (withG c Di Inn a k us) A g ps Xi' Yi' zg' zs Xd l s' → Q' (.ref a) s') : wpAny c.M A' (eval (.Call func args kws pos) env) Q' E' s := by
  obtain ⟨g1, ps1, R1, back⟩ := t.rx.inner
  refine evg_call hkw (h ps1) he ok R1 fun a k L ρ2 z2 s2 s' R2 G2 n => ?_
  obtain ⟨rfl, st⟩ := back _ _ _ _ R2 G2
  exact q a k _ _ _ s' ((t.step hS st).addG hS n)
/-- x = f(..), a generator -/
theorem go_asgG {x : Str} {xp : Pos} {func : Expr} {args : List Expr} {kws : List Keyword} {p : Pos} (hS : Stab Inn) (hF : OkF D cd fs) (hkw : (backToKw pos (keywordEach kws env)).all (·.1.isSome) = true)
    (h : ∀ ps, EV (c.pin ps) env D (eval func env) l [] fun vf σ₁ => KeepOk (c.pin ps) vf ∧ EL (c.pin ps) env D pos args l σ₁ fun xs σ₂ => EK (c.pin ps) env D pos kws l σ₂ fun ks σ₃ => GFn c Di vf xs ks us ∧ σ₃ = [])
    (he : eval (.Call func args kws pos) env = (do callWith pos (← eval func env) [] (backTo pos (starEach args env)) (backToKw pos (keywordEach kws env))))
    (hk : env.kindOf x = some .local) (lf : Addr → Loc) (hu : ∀ a, Up x (.val (.ref a)) l (lf a)) (k : ∀ a k, GoOn c D env (withG c Di Inn a k us) vs (lf a) (K .next) cd fs)
    (hs : swapsWith (.Call func args kws pos) (some (.Name x xp)) p.line env = pure false := by rfl) :
    GoOn c D env Inn vs l ((exec (.Assign [.Name x xp] (.Call func args kws pos) p) env).wrap K H gd lv) cd fs := by
  intro A g ps Xi Yi zg zs Xd s t
  have ok := hF A t.ok
  refine sx_wrap (wpAny_Assign_Name (rx_call hS hkw h he ok t fun a kk Xi' Yi' zg' s' t' => ?_) hs)
  obtain ⟨g1, ps1, R1, back⟩ := t'.rx.inner
  refine store_local (c := c.pin ps1) R1 (.val _) hk (hu a) fun s2 R2 G2 => ?_
  obtain ⟨_, st⟩ := back _ _ _ _ R2 G2
  exact k a kk A g ps Xi' Yi' zg' zs Xd s2 (t'.step (withG_stab hS) st)

/-- for .. in a generator -/
theorem go_forG {Inn' : INN} {target iter : Expr} {body : List Stmt} {p0 : Pos}
    (hE : ∀ A g ps Xi Yi zg zs Xd s, GAt c D env Inn A g ps Xi Yi zg zs Xd l s → ∀ (Q E : Value → Shared → Prop), (∀ a k Xi' Yi' zg' s', GAt c D env (withG c Di Inn' a k us) A g ps Xi' Yi' zg' zs Xd l s' → Q (.ref a) s') →
      wpAny c.M (A.over cd fs) (eval iter env) (fun w s₁ => wpAny c.M (A.over cd fs) (pyIter w) Q E s₁) E s)
    (h : ∀ a k p, GoOn c D env (withG c Di Inn' a k us) vs l (denote table (.forLoop target (.ref a) body [] env)) (.forLoop target (.ref a) body [] env) (.ret (frK env K H gd lv) none (gd false) (lv []) cd p [] :: fs))
    (hs : ∀ x, foldedSetIterable iter env x = pure x) : GoOn c D env Inn vs l ((exec (.For target iter body [] p0) env).wrap K H gd lv) cd fs := by
  rw [exec_For]
  intro A g ps Xi Yi zg zs Xd s t
  refine sx_at ?_
  show SegX c.M A cd (Sem.wrap K H gd lv (eval iter env >>= _)) fs s _
  rw [Sem.bind_eq_wrap', Sem.wrap_wrap]
  refine sx_wrap (wpAny_mono (hE A g ps Xi Yi zg zs Xd s t (fun w s' => SegX c.M A cd (Sem.wrap K H gd lv (runOwn (.forLoop target w body [] env) env)) fs s' (POST c D vs g ps zs Xd)) (fun x s' => SegX c.M A cd (H x) fs s' (POST c D vs g ps zs Xd)) ?_) ?_ ?_)
  · intro a k Xi' Yi' zg' s' t'
    exact s_call c.prog c.w A cd fs _ s' (.forLoop target (.ref a) body [] env) none (gd false) (lv []) (frK env K H gd lv) fun p => h a k p A g ps Xi' Yi' zg' zs Xd s' t'
  · intro v s1 h1
    rw [hs, Sem.bind_eq_wrap', Sem.wrap_wrap]
    refine sx_wrap (wpAny_pure ?_)
    rw [Sem.bind_eq_wrap', Sem.wrap_wrap]
    refine sx_wrap (wpAny_standAt ?_)
    rw [Sem.bind_eq_wrap', Sem.wrap_wrap]
    refine sx_wrap (wpAny_holding (wpAny_mono h1 (fun w s2 h2 => h2) fun _ _ e => e))
  · intro x s1 h1
    exact h1
end
end
section
open PySem PySem.W PyProof.Rows PySem.Calls PySem.W.X
theorem Rep.pin {c : Cx} {env g ρ z σ l} {s : Shared} {ps : List (Nat × GenState)} (h : ∀ a, c.gi a ↔ PIN ps a) (R : Rep c env g ρ z σ l s) : Rep (c.pin ps) env g ρ z σ l s := ⟨R.toRp.pin ((h _).mp R.gens), R.ns, R.nd, R.kind, R.glob, R.bltn, R.lt⟩
theorem Rep.unpin {c : Cx} {env g ρ z σ l} {s : Shared} {ps : List (Nat × GenState)} (h : ∀ a, c.gi a ↔ PIN ps a) (R : Rep (c.pin ps) env g ρ z σ l s) : Rep c env g ρ z σ l s := ⟨R.toRp.unpin ((h _).mpr R.gens), R.ns, R.nd, R.kind, R.glob, R.bltn, R.lt⟩
theorem EV.of_pin {c : Cx} {env : Env} {D : Nat} {t : Sem Value} {l : Loc} {σ : Hp} {Q : V → Hp → Prop} (hgi : ∃ ps, ∀ a, c.gi a ↔ PIN ps a) (h : ∀ ps, EV (c.pin ps) env D t l σ Q) : EV c env D t l σ Q := by
  obtain ⟨ps, hp⟩ := hgi
  exact fun A g ρ z s Q' E' ok R q => h ps A g ρ z s Q' E' ok (R.pin hp) fun v w σ' ρ' z' s' hq R' G' r => q v w σ' ρ' z' s' hq (R'.unpin hp) G' r

/-- what a loop's turn does to a waiting frame: all but its own is left alone -/
theorem Rp.turnIn {c : Cx} {ps : List (Nat × GenState)} {g : Heap} {C : Addr} {Xo ρ z σ} {s : Shared} (P : Rp (c.pin ps) g (C :: Xo) ρ z σ s) (ho : ∀ x ∈ Xo, x ≠ C ∧ x ∉ c.tk) :
    ∃ g1 ps1, Rp (c.pin ps1) g1 [C] ρ z σ s ∧ ∀ ρ' z' σ' s', Rp (c.pin ps1) g1 [C] ρ' z' σ' s' → Go g1 ρ z s ρ' z' s' → Rp (c.pin ps) g (C :: Xo) ρ' z' σ' s' ∧ Go g ρ z s ρ' z' s' ∧ (∀ x ∈ Xo, ∀ o, s.heap.get? x = some o → s'.heap.get? x = some o) ∧ ∀ (j : Nat) (x : GenState), s.gens[j]? = some x → s'.gens[j]? = some x := by
  have hb : AllBare s.gens := P.gens.2
  have P0 : Rp (c.pin (pinsBut [] s.gens)) g ([C] ++ Xo) ρ z σ s := P.repin (PIN.but hb)
  obtain ⟨g1, Rg, back⟩ := P0.inner fun x hx => ⟨fun h => (ho x hx).1 (List.mem_singleton.mp h), (ho x hx).2⟩
  refine ⟨g1, _, Rg, fun ρ' z' σ' s' R' G' => ?_⟩
  obtain ⟨PB, GB, kO⟩ := back _ _ _ _ R' G'
  have hg : ∀ (j : Nat) (x : GenState), s.gens[j]? = some x → s'.gens[j]? = some x := fun j x e => PB.gens.1 (j, x) (mem_pinsBut.mpr ⟨e, by simp⟩)
  exact ⟨PB.repin ⟨fun p hp => hg p.1 p.2 (P.gens.1 p hp), PB.gens.2⟩, GB, kO, hg⟩

/-- an expression that gives a new generator -/
def EVG (c : Cx) (ps : List (Nat × GenState)) (env : Env) (D Di : Nat) (l : Loc) (σ : Hp) (e : Expr) (Qg : List V → Prop) : Prop :=
  ∀ (A : Around) (g : Heap) (ρ : List Addr) (z : Led) (s : Shared) (Q' E' : Value → Shared → Prop), Ok A D → Rep (c.pin ps) env g ρ z σ l s →
    (∀ us a k L ρ2 z2 s2 s', Qg us → Rep (c.pin ps) env g ρ2 z2 σ l s2 → Go g ρ z s ρ2 z2 s2 → NewG c Di ps z2 us a k L s2 s' → Q' (.ref a) s') → wpAny c.M A (eval e env) Q' E' s
theorem evgC {c : Cx} {env : Env} {D Di : Nat} {l : Loc} {σ : Hp} {pos : Pos} {ps : List (Nat × GenState)} {func : Expr} {args : List Expr} {kws : List Keyword} {Qg : List V → Prop} (hp : ∀ a, c.gi a ↔ PIN ps a) (hkw : (backToKw pos (keywordEach kws env)).all (·.1.isSome) = true)
    (h : EV c env D (eval func env) l σ fun vf σ₁ => KeepOk c vf ∧ EL c env D pos args l σ₁ fun xs σ₂ => EK c env D pos kws l σ₂ fun ks σ₃ => σ₃ = σ ∧ ∃ us, GFn c Di vf xs ks us ∧ Qg us)
    (he : eval (.Call func args kws pos) env = (do callWith pos (← eval func env) [] (backTo pos (starEach args env)) (backToKw pos (keywordEach kws env)))) : EVG c ps env D Di l σ (.Call func args kws pos) Qg := by
  intro A g ρ z s Q' E' ok R0 q
  have R := R0.unpin hp
  rw [he]
  refine wpAny_bind (h A g ρ z s _ _ ok R fun vf wf σ0 ρ0 z0 s0 h0 R0 G0 rf => ?_)
  obtain ⟨hk, h⟩ := h0
  have hplain : ((backTo pos (starEach args env)).any (·.1) || (backToKw pos (keywordEach kws env)).any (·.1.isNone)) = false := by
    rw [h.1, Bool.false_or, List.any_eq_false]
    intro x hx
    have := List.all_eq_true.mp hkw x hx
    cases hx1 : x.1 <;> simp_all
  refine callWith_of (P := fun h => c.K.In h) hplain (fun h X => keepOk_looks hk rf h X) (evalArgs_gen h.1 hkw ?_)
  refine h.2 A g ρ0 z0 s0 _ _ ok R0 fun vs ws σ1 ρ1 z1 s1 h1 R1 G1 r1 => ?_
  refine h1.2 A g ρ1 z1 s1 _ _ ok R1 fun ks wk σ2 ρ2 z2 s2 h2 hm R2 G2 r2 => ?_
  refine ⟨R2.base.X.keeps R2.keep, ?_⟩
  obtain ⟨rfl, us, h2, hq⟩ := h2
  rw [← hm]
  have R2' := R2.pin hp
  have := h2 ps A g [env.locals] ρ2 z2 σ2 s2 (fun r s' => match r with | .ok (.ret w) => Q' w s' | .ok _ => False | .error e => E' e s') wf ws wk (by have := ok.d; omega) R2'.toRp (rf.mono (G1.trans G2).toExt) (r1.mono G2.toExt) r2 fun a k L s' n => q us a k L ρ2 z2 s2 s' hq R2' ((G0.trans G1).trans G2) n
  refine wpAny_call (codeAny_mono this fun r s' hr => ?_)
  exact hr

section
variable {c : Cx} {env : Env} {D Di : Nat} {l : Loc} {σ : Hp}
/-- [elt for target in f(..)], where f yields -/
theorem ev_compG {elt target iter : Expr} {scope : Scope} {pos : Pos} {cl : List (Str × Addr)} {lc : Loc} {f : V → V} {Q : V → Hp → Prop} {ps : List (Nat × GenState)}
    (hclos : closureFor scope env = pure cl) (hcell : ∀ y ∈ scope.names, y.2 ≠ .cell) (hkind : scope.kind = .function) (hnames : ∀ y ∈ scope.names, y.2 = .local → scope.names.lookup y.1 = some .local) (hlc : CompLoc env scope cl l lc) (hnd : (lc.map (·.1)).Nodup)
    (hDi : Di + 40 ≤ D)
    (h : EVG c ps env D Di l σ iter fun us => us.length ≤ 1000000 ∧ (∀ ps C v, v ∈ us → EA (c.pin ps) (compEnvC scope cl C env) D target v lc σ fun l₂ σ₂ => EV (c.pin ps) (compEnvC scope cl C env) D (eval elt (compEnvC scope cl C env)) l₂ σ₂ fun u σ₃ => u = f v ∧ σ₃ = σ) ∧ Q (.ref σ.length) (σ ++ [.list (us.map f)]))
    (hs : ∀ x, foldedSetIterable iter env x = pure x) : EV (c.pin ps) env D (eval (.ListComp elt [⟨target, iter, [], 0⟩] scope pos) env) l σ Q := by
  intro A g ρ z s Q' E' ok R q
  rw [eval_ListComp]
  have hroom : A.depth < recursionLimit := by have := ok.d; omega
  have okS : OkS A.in1 Di := ⟨ok.h, by have := ok.d; show A.depth + 3 * Di + 60 < _; omega, by have := ok.u; show A.units + 1 + 20 * Di + 400 < _; omega⟩
  refine wpAny_comprehension_free (use := none) rfl hs hclos hkind hnames (h A g ρ z s _ _ ok R fun us a k L ρ1 z1 s1 s2 hQg R1 G1 n => wpAny_pyIter_gen n.gn.gen ?_)
  obtain ⟨hlen, step, fin⟩ := hQg
  have P2 := n.add R1.toRp
  have exL0 : ∃ o, s1.heap.get? env.locals = some o := (R1.off env.locals (by simp)).2
  have gn0 := n.gn
  have k12 := n.keep
  have sl12 := n.slots
  have G2 : Go g ρ z s ρ1 z1 s2 := G1.trans n.go
  have naL : env.locals ≠ a ∧ env.locals ≠ L := by
    obtain ⟨o, e⟩ := exL0
    exact ⟨fun q => by (rw [q, n.fa] at e; cases e), fun q => by (rw [q, n.fL] at e; cases e)⟩
  have naT : ∀ x ∈ [a, L], x ∉ c.tk := fun x hx hT => by
    obtain ⟨o, e⟩ := (R1.off x (List.mem_append_right _ hT)).2
    rcases List.mem_cons.mp hx with rfl | hx
    · rw [n.fa] at e; cases e
    · rw [List.mem_singleton.mp hx, n.fL] at e; cases e
  have exL : ∃ o, s2.heap.get? env.locals = some o := let ⟨o, e⟩ := exL0; ⟨o, k12 _ _ e⟩
  have exAL : ∀ x ∈ [a, L], ∃ o, s2.heap.get? x = some o := fun x hx => (P2.off x (List.mem_append_left _ (List.mem_append_left _ hx))).2
  obtain ⟨mL, hmL, hlL⟩ := R1.ns
  have hmL2 := hmL.keeps k12
  have kG0 : ∀ b o, s.heap.get? b = some o → b ≠ a ∧ b ≠ L := fun b o e => by
    obtain ⟨o1, e1⟩ := G1.dom b o e
    exact ⟨fun q => by (rw [q, n.fa] at e1; cases e1), fun q => by (rw [q, n.fL] at e1; cases e1)⟩
  have neaL := n.ne
  clear n
  obtain ⟨hp2, gens2, dr2, tk2, os2⟩ := s2
  dsimp only at exL exAL hmL2 gn0 ⊢
  refine wpAny_newObj_type (wpAny_newFunctionEnv hcell (by intro y hy; simp at hy) (fun h₁ hns₁ hsb₁ => ?_) hkind)
  dsimp only at hns₁ hsb₁ ⊢
  generalize hH2 : hp2.push { cls := .type "list", dict := none, data := .seq ([] : List Value).toArray } = H2 at hns₁ hsb₁ ⊢
  have hD2 : H2.get? hp2.objs.size = some (listOf #[] 0) := by rw [← hH2]; exact Heap.get?_push_size _ rfl
  have nD2 : hp2.get? hp2.objs.size = none := fresh_at (Nat.le_refl _)
  have k23 : ∀ b o, hp2.get? b = some o → H2.get? b = some o := fun b o e => by rw [← hH2]; exact Heap.get?_push_of_some _ e
  have nC2 : H2.get? H2.objs.size = none := fresh_at (Nat.le_refl _)
  have k3 : ∀ b o, H2.get? b = some o → h₁.get? b = some o := fun b o e => (hsb₁.2 b (Nat.ne_of_lt (Heap.lt_size e))).trans (Heap.get?_push_of_some _ e)
  have eC : ∃ o, h₁.get? H2.objs.size = some o := let ⟨o, _, _, e, _⟩ := hns₁; ⟨o, e⟩
  generalize hp2.objs.size = Da at hD2 nD2 ⊢
  generalize H2.objs.size = C at nC2 hns₁ hsb₁ eC ⊢
  have P3 : Rp (c.pin ps) g (Da :: ([a, L] ++ [env.locals])) ρ1 z1 σ ⟨H2, gens2, dr2, tk2, os2⟩ := P2.addX' (s' := ⟨H2, gens2, dr2, tk2, os2⟩) k23 nD2 ⟨_, hD2⟩
  have P4 : Rp (c.pin ps) g (C :: Da :: ([a, L] ++ [env.locals])) ρ1 z1 σ ⟨h₁, gens2, dr2, tk2, os2⟩ := P3.addX' (s' := ⟨h₁, gens2, dr2, tk2, os2⟩) k3 nC2 eC
  have notTk : ∀ {x : Addr} {XX : List Addr} {ss : Shared} {ρρ zz σσ}, Rp (c.pin ps) g XX ρρ zz σσ ss → ss.heap.get? x = none → x ∉ c.tk := fun PP e hm => by
    obtain ⟨_, e'⟩ := (PP.off _ (List.mem_append_right _ hm)).2
    rw [e] at e'; cases e'
  have tD : Da ∉ c.tk := notTk P2 nD2
  have tC : C ∉ c.tk := notTk P3 nC2
  have nDL : Da ≠ env.locals := fun e => by obtain ⟨o, e'⟩ := exL; rw [e, e'] at nD2; cases nD2
  have nDa : ∀ x ∈ [a, L], Da ≠ x := fun x hx e => by obtain ⟨o, e'⟩ := exAL x hx; rw [e, e'] at nD2; cases nD2
  have nCD : C ≠ Da := fun e => by rw [e, hD2] at nC2; cases nC2
  have nCL : C ≠ env.locals := fun e => by obtain ⟨o, e'⟩ := exL; rw [e, k23 _ _ e'] at nC2; cases nC2
  have nCa : ∀ x ∈ [a, L], C ≠ x := fun x hx e => by obtain ⟨o, e'⟩ := exAL x hx; rw [e, k23 _ _ e'] at nC2; cases nC2
  obtain ⟨oL, eL⟩ := exL
  have k13 : ∀ b o, hp2.get? b = some o → h₁.get? b = some o := fun b o e => k3 _ _ (k23 _ _ e)
  have G4 : Go g ρ z s ρ1 z1 ⟨h₁, gens2, dr2, tk2, os2⟩ := G2.trans (Go.same _ _ _ _ _ k13)
  have nrc : ∀ {ρ' z' m'}, Ext ρ1 z1 ρ' z' → ∀ p ∈ lc, NR (compEnvC scope cl C env) ρ' z' m' p := fun {ρ' z' m'} ex p hp => by
    rcases hlc p hp with h | ⟨i, h1, h2, h3, h4⟩
    · exact .inl h
    · rcases hlL p h2 with h5 | ⟨i', a, h5, _, h6, h7⟩ | ⟨h5, w', h6, h7⟩
      · rw [h1] at h5; cases h5
      · rw [h1] at h5; cases h5
        exact .inr (.inl ⟨i, a, h1, h4, h3.trans h6, ex.r _ _ h7⟩)
      · rw [h1] at h7; cases h7
  have loop : ∀ tk, codeAny c.M A (.compLoop (.ListComp elt [⟨target, iter, [], 0⟩] scope pos) 0 (.ref a) (.ref Da) (compEnvC scope cl C env)) (compPost c.M A E' none Q' (.ref Da) C) ⟨h₁, gens2, dr2, tk, os2⟩ := fun tk => by
    refine compLoop_gen (fun kk s' => ∃ i Xs Ys zi ρ' z' ws n, kk = us.length + 1 - i ∧ i ≤ us.length ∧ Rp (c.pin ps) g (a :: Xs ++ [C, Da, env.locals]) ρ' z' σ s' ∧ (∀ x ∈ [C, Da, env.locals], x ∉ a :: Xs) ∧ (∀ x ∈ Xs, x ∉ c.tk) ∧ Gn c Di ps a k (us.drop i) Xs Ys zi s' ∧ (∀ p ∈ zi, p ∈ z') ∧ s'.heap.get? Da = some (listOf ws n) ∧ VRL z' ρ' ((us.take i).map f) ws.toList ∧ (∃ m, s'.heap.Ns C m) ∧ s'.heap.get? env.locals = some oL ∧ Go g ρ z s ρ' z' s' ∧ Ext ρ1 z1 ρ' z') ?_ (us.length + 1)
      ⟨0, [L], [], z1, ρ1, z1, #[], 0, by simp, Nat.zero_le _, (P4.grow (s' := ⟨h₁, gens2, dr2, tk, os2⟩) (fun _ _ e => e)).perm (fun x hx => by simp only [List.mem_append, List.mem_cons, List.not_mem_nil, or_false] at hx ⊢; rcases hx with (h | h) | h | h | h <;> simp [h]), ?_, fun x hx => naT x (.tail _ hx), ?_, fun _ h => h, k3 _ _ hD2, .nil, ⟨_, hns₁⟩, k13 _ _ eL, G4.trans (Go.same _ _ _ _ _ fun _ _ e => e), Ext.refl ..⟩
    · rintro kk s' ⟨i, Xs, Ys, zi, ρ', z', ws, n, rfl, hi, P', hdj, hXt, gn, hzi, hD, hVR, ⟨mC, hmC⟩, hL, G', X'⟩
      have htk : ∀ x ∈ a :: [C, Da, env.locals], x ∉ c.tk := by
        intro x hx
        simp only [List.mem_cons, List.not_mem_nil, or_false] at hx
        rcases hx with rfl | rfl | rfl | rfl
        · exact naT _ (.head _)
        · exact tC
        · exact tD
        · exact R1.lt
      have nX : ∀ x ∈ [C, Da, env.locals], x ∉ Xs ++ c.tk := fun x hx hm => by
        rcases List.mem_append.mp hm with h | h
        · exact hdj x hx (.tail _ h)
        · exact htk x (.tail _ hx) h
      refine gn_next ok.h hroom okS P' hdj htk gn hzi ?_ ?_
      · intro v vs' hv w Xs' Ys' zg' z2 s2' hz2 P₂ G₂ k₂ rv gn₂ hdj₂ sl₂ _ hXt₂ _
        have hlt : i < us.length := by
          rcases Nat.lt_or_ge i us.length with h | h
          · exact h
          · rw [List.drop_eq_nil_of_le h] at hv; cases hv
        have hget : us[i]? = some v := by
          have := congrArg List.head? hv
          rw [List.head?_drop] at this
          simpa using this
        have hdrop : us.drop (i + 1) = vs' := by
          have := congrArg List.tail hv
          rw [List.tail_drop] at this
          simpa using this
        obtain ⟨o, nm, qn, eo, ec, _⟩ := gn₂.gen
        refine lg_plain eo ec (by decide) ?_
        obtain ⟨g1, ps1, Pg, back⟩ := (P₂.perm (Y := C :: ([Da, env.locals] ++ (a :: Xs'))) (fun x hx => by simp only [List.mem_append, List.mem_cons, List.not_mem_nil, or_false] at hx ⊢; rcases hx with h | (h | h) | h | h <;> simp [h])).turnIn (by
          intro x hx
          simp only [List.mem_cons, List.mem_append, List.not_mem_nil, or_false] at hx
          rcases hx with (rfl | rfl) | rfl | hx
          · exact ⟨nCD.symm, tD⟩
          · exact ⟨nCL.symm, R1.lt⟩
          · exact ⟨(nCa _ (.head _)).symm, naT _ (.head _)⟩
          · exact ⟨fun e => hdj₂ C (by simp) (by simp [← e, hx]), hXt₂ x hx⟩)
        have RR : Rep (c.pin ps1) (compEnvC scope cl C env) g1 ρ' z2 σ lc s2' :=
          ⟨Pg, ⟨mC, hmC.at' fun o e => k₂ _ o (nX C (by simp)) e, nrc (X'.trans G₂.toExt)⟩, hnd, hkind, R1.glob, R1.bltn, tC⟩
        refine step ps1 C v (List.mem_of_getElem? hget) A g1 ρ' z2 _ _ _ w ok RR rv fun l3 σ3 ρ3 z3 s3 h3 R3 G3 => ?_
        refine wpAny_tests_nil ?_
        rw [if_pos rfl]
        refine h3 A g1 ρ3 z3 s3 _ _ ok R3 fun u wu σ4 ρ4 z4 s4 h4 R4 G4' r4 => ?_
        obtain ⟨rfl, rfl⟩ := h4
        obtain ⟨PB, GB, kO, kS⟩ := back _ _ _ _ R4.toRp (G3.trans G4')
        have hD4 : s4.heap.get? Da = some (listOf ws n) := kO Da (by simp) _ (k₂ _ _ (nX Da (by simp)) hD)
        have hVR4 := hVR.mono (G₂.trans GB).toExt
        have hws : ws.size ≤ sizeLine := by
          have := hVR.length
          simp only [Array.length_toList, List.length_map, List.length_take] at this
          rw [sizeLine_eq]; omega
        refine wpAny_list_append_plain ⟨n, hD4⟩ (fun h₅ hD5 hs5 => ?_) hws
        obtain ⟨n5, hD5⟩ := hD5
        have P5 : Rp (c.pin ps) g (C :: ([Da, env.locals] ++ (a :: Xs'))) ρ4 z4 σ4 { s4 with heap := h₅ } := PB.atX' (a := Da) (by simp) tD (fun b o hb e => (hs5.2 b hb).trans e) ⟨_, hD5⟩
        have G5 : Go g ρ4 z4 s4 ρ4 z4 { s4 with heap := h₅ } := ⟨Ext.refl .., fun b o e => by
          by_cases hb : b = Da
          · subst hb; exact ⟨_, hD5⟩
          · exact ⟨o, (hs5.2 b hb).trans e⟩, fun _ h => .inl h⟩
        obtain ⟨m4, hm4, _⟩ := R4.ns
        have nDX : ∀ x ∈ a :: Xs', x ≠ Da := fun x hx e => hdj₂ Da (by simp) (e ▸ hx)
        refine ⟨us.length + 1 - (i + 1), by omega, i + 1, Xs', Ys', zg', ρ4, z4, ws.push wu, n5, rfl, hlt, P5.perm (fun x hx => by simp only [List.mem_append, List.mem_cons, List.not_mem_nil, or_false] at hx ⊢; rcases hx with (h | h) | h | h | h <;> simp [h]), hdj₂, hXt₂, hdrop ▸ gn₂.agr ⟨fun x hx o e => ?_, fun j _ x e => kS j x e⟩, fun p hp => GB.zz _ (hz2 p hp), hD5, ?_, ⟨m4, hm4.sameBut hs5 nCD⟩, ?_, (G'.trans G₂).trans (GB.trans G5), X'.trans (G₂.trans (GB.trans G5)).toExt⟩
        · exact (hs5.2 _ (nDX x hx)).trans (kO x (by simp only [List.mem_append]; exact .inr hx) o e)
        · have e1 : us.take (i + 1) = us.take i ++ [v] := by rw [List.take_add_one, hget]; rfl
          rw [e1, List.map_append]
          have := hVR4.append (.cons r4 .nil)
          simpa using this
        · exact (hs5.2 _ nDL.symm).trans (kO env.locals (by simp) _ (k₂ _ _ (nX env.locals (by simp)) hL))
      · intro hv z2 s2' hz2 P₂ G₂ k₂ sl₂
        have hin : i = us.length := by
          have := congrArg List.length hv
          simp only [List.length_drop, List.length_nil] at this
          omega
        subst hin
        rw [List.take_length] at hVR
        refine ⟨mC, hmC.at' fun o e => k₂ _ o (nX C (by simp)) e, fun h₃ hs₃ => ?_⟩
        have kC : ∀ b o, b ≠ C → s2'.heap.get? b = some o → h₃.get? b = some o := fun b o hb e => (hs₃.2 b hb).trans e
        have P8 : Rp (c.pin ps) g [Da, env.locals] ρ' z2 σ { s2' with heap := h₃ } := P₂.offI (s' := { s2' with heap := h₃ }) (by
          simp only [List.mem_append, List.mem_cons, List.not_mem_nil, or_false]
          rintro ((h | h) | h)
          · exact nCD h
          · exact nCL h
          · exact tC h) kC
        obtain ⟨P9, G9, r9⟩ := P8.ownX (a := Da) (ws := ws.toList) (n := n) (hVR.mono G₂.toExt) (by
          simp only [List.mem_append, List.mem_cons, List.not_mem_nil, or_false]
          rintro (h | h)
          · exact nDL h
          · exact tD h) (by simpa using kC _ _ nCD.symm (k₂ _ _ (nX Da (by simp)) hD))
        have hL3 : h₃.get? env.locals = some oL := kC _ _ nCL.symm (k₂ _ _ (nX env.locals (by simp)) hL)
        have G8 : Go g ρ z s ρ' z2 { s2' with heap := h₃ } := ⟨(G'.trans G₂).toExt, fun b o e => by
          obtain ⟨o1, e1⟩ := G2.dom b o e
          obtain ⟨o', e'⟩ := (G'.trans G₂).dom b o e
          exact ⟨o', kC _ _ (fresh_ne (k23 _ _ e1) nC2) e'⟩, (G'.trans G₂).fr⟩
        refine q _ _ _ _ _ _ fin ⟨P9.perm fun x hx => by simpa using hx, ⟨mL, ?_, fun p hp => (hlL p hp).mono ((X'.trans G₂.toExt).trans G9.toExt)⟩, R1.nd, R1.kind, R1.glob, R1.bltn, R1.lt⟩ (G8.trans G9) r9
        obtain ⟨o, es, ep, e, r⟩ := hmL2
        have : o = oL := Option.some.inj (e.symm.trans eL)
        subst this
        exact ⟨o, es, ep, hL3, r⟩
    · intro x hx hm
      simp only [List.mem_cons, List.not_mem_nil, or_false] at hx hm
      rcases hx with rfl | rfl | rfl
      · rcases hm with h | h
        · exact nCa _ (.head _) h
        · exact nCa _ (.tail _ (.head _)) h
      · rcases hm with h | h
        · exact nDa _ (.head _) h
        · exact nDa _ (.tail _ (.head _)) h
      · rcases hm with h | h
        · exact naL.1 h
        · exact naL.2 h
    · exact gn0.agr ⟨fun x hx o e => k13 _ _ e, fun j _ x e => e⟩
  exact codeAny_compStart_list (loop _) (wpAny_pyIter_gen (gn0.agr (s' := ⟨h₁, gens2, dr2, _, os2⟩) ⟨fun x hx o e => k13 _ _ e, fun j _ x e => e⟩).gen (loop _))
end
end
section
open PySem PySem.W PyProof.Rows PySem.Calls PySem.W.X
theorem plain_ext_loop : plainId "list.extend.loop" = true := by decide +kernel
theorem entry_ext_loop : entryFor table "list.extend.loop" = some Builtin.«list.extend.loop» := entryFor_of_tree (by kernel_rfl)
theorem gen_no_len : typeLookup (.type "generator") "__len__" = pure none := by rw [typeLookup_type, builtinLookup_eq_fast]; kernel_rfl
theorem gen_no_hint : typeLookup (.type "generator") "__length_hint__" = pure none := by rw [typeLookup_type, builtinLookup_eq_fast]; kernel_rfl

section
variable {c : Cx} {D Di : Nat} {σ : Hp} {ps : List (Nat × GenState)}
/-- the loop of list.extend over a generator -/
theorem ext_loop {A : Around} {g : Heap} {a la : Addr} {k : Nat} {X0 : List Addr} (hh : A.handled = none) (hroom : A.depth < recursionLimit) (hok : OkS A.in1.in1 Di) (htk : ∀ x ∈ a :: X0, x ∉ c.tk) {R : Result → Shared → Prop} {i : Nat} {ρ0 : List Addr} {z0 : Led} {s0 : Shared} : ∀ (us : List V) (xs : List V) (Xs : List Addr) (Ys : List Nat) (zi : Led) (ρ : List Addr) (z : Led) (σ : Hp) (s : Shared),
    Rp (c.pin ps) g (a :: Xs ++ X0) ρ z σ s → (∀ x ∈ X0, x ∉ a :: Xs) → Gn c Di ps a k us Xs Ys zi s → (∀ p ∈ zi, p ∈ z) → σ[i]? = some (.list xs) → ρ[i]? = some la → xs.length + us.length ≤ 1000000 → Go g ρ0 z0 s0 ρ z s →
    (∀ ρ' z' s', Rp (c.pin ps) g X0 ρ' z' (σ.set i (.list (xs ++ us))) s' → Go g ρ0 z0 s0 ρ' z' s' → (∀ x ∈ X0, ∀ o, s.heap.get? x = some o → s'.heap.get? x = some o) → R (.ok (.ret .none)) s') →
    codeAny c.M A (.builtin "list.extend.loop" ⟨[.ref la, .ref a, .none], []⟩) R s
  | us, xs, Xs, Ys, zi, ρ, z, σ, s, P, hdj, gn, hzi, hi, hr, hz, G, q => by
    refine codeAny_builtin entry_ext_loop ?_
    rw [Around.under_plainId plain_ext_loop _]
    show wpAny c.M A.in1 (pyNext (.ref a) >>= _) _ _ s
    have nX : ∀ x ∈ X0, x ∉ Xs ++ c.tk := fun x hx hm => by
      rcases List.mem_append.mp hm with h | h
      · exact hdj x hx (.tail _ h)
      · exact htk x (.tail _ hx) h
    refine wpAny_bind (gn_next hh hroom hok P hdj htk gn hzi ?_ ?_)
    · intro v us' hv w Xs' Ys' zi' z' s' hzi' P' G' k' rv gn' hdj' _ _ _ _
      subst hv
      obtain ⟨ws, n, h1, h2, h3, h4⟩ := P'.list hi hr
      have hlen : ws.length = xs.length := h2.length.symm
      simp only [List.length_cons] at hz
      refine wpAny_bind (wpAny_updateSeq h1 rfl ?_ (by rw [List.size_toArray, hlen, sizeLine_eq]; omega) (by rw [Array.size_push, List.size_toArray, hlen, sizeLine_eq]; omega))
      have hs : Heap.SameBut la s'.heap (s'.heap.update la (Obj.mapSeq (·.push w))) := Heap.SameBut.update ..
      have he : (s'.heap.update la (Obj.mapSeq (·.push w))).get? la = some (listOf (ws ++ [w]).toArray (n + 1)) := by
        rw [Heap.get?_update_self _ h1 (by rw [Obj.mapSeq_push_plain]; rfl), Obj.mapSeq_push_plain]; simp
      obtain ⟨P2, G2⟩ := P'.setList (s' := { s' with heap := s'.heap.update la (Obj.mapSeq (·.push w)) }) (ws' := ws ++ [w]) (vs' := xs ++ [v]) hi hr hs ⟨_, he⟩ (h2.append (.cons rv .nil))
      have nla : ∀ x ∈ a :: Xs' ++ X0, x ≠ la := fun x hx e => h3 (List.mem_append_left _ (e ▸ hx))
      refine wpAny_pure ⟨plainId_quiet plain_ext_loop _, ?_⟩
      refine ext_loop hh hroom hok htk us' (xs ++ [v]) Xs' Ys' zi' ρ z' _ _ P2 hdj' (gn'.agr ⟨fun x hx o e => (hs.2 x (nla x (List.mem_append_left _ hx))).trans e, fun j _ x e => e⟩) hzi' (by
        have := (List.getElem?_eq_some_iff.mp hi).1
        simp [this]) hr (by simp only [List.length_append, List.length_cons, List.length_nil]; omega) ((G.trans G').trans G2) fun ρ' z2 s2 P3 G3 k3 => ?_
      refine q ρ' z2 s2 ?_ G3 fun x hx o e => k3 x hx o ((hs.2 x (nla x (List.mem_append_right _ hx))).trans (k' x o (nX x hx) e))
      have e1 : (σ.set i (.list (xs ++ [v]))).set i (.list (xs ++ [v] ++ us')) = σ.set i (.list (xs ++ v :: us')) := by rw [List.set_set]; simp
      rw [← e1]; exact P3
    · intro hv z' s' hz' P' G' k' _
      subst hv
      refine wpAny_pure ?_
      refine q ρ z' s' ?_ (G.trans G') fun x hx o e => k' x o (nX x hx) e
      have e1 : σ.set i (.list (xs ++ [])) = σ := by
        rw [List.append_nil]
        apply List.ext_getElem? 
        intro j
        by_cases h : i = j
        · subst h
          have := (List.getElem?_eq_some_iff.mp hi).1
          simp [this]
          have h2 := hi
          rw [List.getElem?_eq_getElem this] at h2
          exact (Option.some.inj h2).symm
        · rw [List.getElem?_set_ne h]
      rw [e1]; exact P'
/-- list.extend of a generator -/
theorem ext_call {A : Around} {g : Heap} {a la : Addr} {k : Nat} {X0 : List Addr} (hh : A.handled = none) (hroom : A.depth < recursionLimit) (hok : OkS A.in1.in1 Di) (htk : ∀ x ∈ a :: X0, x ∉ c.tk) {Q E : Value → Shared → Prop} {i : Nat} {us xs : List V} {Xs : List Addr} {Ys : List Nat} {zi : Led} {ρ : List Addr} {z : Led} {σ : Hp} {s : Shared}
    (P : Rp (c.pin ps) g (a :: Xs ++ X0) ρ z σ s) (hdj : ∀ x ∈ X0, x ∉ a :: Xs) (gn : Gn c Di ps a k us Xs Ys zi s) (hzi : ∀ p ∈ zi, p ∈ z) (hi : σ[i]? = some (.list xs)) (hr : ρ[i]? = some la) (hz : xs.length + us.length ≤ 1000000)
    (q : ∀ ρ' z' s', Rp (c.pin ps) g X0 ρ' z' (σ.set i (.list (xs ++ us))) s' → Go g ρ z s ρ' z' s' → (∀ x ∈ X0, ∀ o, s.heap.get? x = some o → s'.heap.get? x = some o) → Q .none s') : wpAny c.M A (call (.builtin "list.extend") [.ref la, .ref a]) Q E s := by
  obtain ⟨ws, n, h1, h2, h3, h4⟩ := P.list hi hr
  have hT : s.TypeIs (.ref la) "list" := ⟨_, h1, rfl⟩
  have hlen : ws.length = xs.length := h2.length.symm
  have nla : a ≠ la := fun e => h3 (by simp [← e])
  refine wpAny_call (codeAny_call_builtin PySem.F.slot_list_extend.plain PySem.F.entry_list_extend (PySem.F.slot_list_extend.check _ _ _ _ _ _ _ _ hT (PySem.F.args_list_extend_2 _ _) ?_))
  unfold Builtin.«list.extend»
  refine wpAny_bind (m := selfAndOne "list.extend" _) (wpAny_pure ?_)
  show wpAny c.M A.in1 (Builtin.List.listExtendWith (.ref la) (.ref a) .none) _ _ s
  unfold Builtin.List.listExtendWith
  refine wpAny_bind (wpAny_typeOf gn.gen.typeIs ?_)
  have hsame : (Builtin.List.listSameRef (.ref la) (.ref a) || (Value.type "generator") == .type "list" || (Value.type "generator") == .type "tuple") = false := by
    have : (la == a) = false := by rw [beq_eq_false_iff_ne]; exact nla.symm
    show ((la == a) || _ || _) = false
    rw [this]; decide
  simp only [hsame]
  refine wpAny_bind (wpAny_pyIter_gen gn.gen ?_)
  refine wpAny_bind (wpAny_holding ?_)
  unfold Builtin.List.listLengthHint
  refine wpAny_bind (wpAny_specialOf gn.gen.typeIs gen_no_len ?_)
  refine wpAny_bind (wpAny_specialOf gn.gen.typeIs gen_no_hint ?_)
  refine wpAny_pure ?_
  rw [if_pos (by rw [Bool.true_or])]
  refine wpAny_bind (wpAny_rule ?_)
  unfold Builtin.List.listTouch
  refine wpAny_bind (wpAny_bind (m := Builtin.List.listUpdate (.ref la) (·.push .none)) ?_)
  refine wpAny_updateSeq h1 rfl ?_ (by rw [List.size_toArray, hlen, sizeLine_eq]; omega) (by rw [Array.size_push, List.size_toArray, hlen, sizeLine_eq]; omega)
  have hs1 : Heap.SameBut la s.heap (s.heap.update la (Obj.mapSeq (·.push .none))) := Heap.SameBut.update ..
  have he1 : (s.heap.update la (Obj.mapSeq (·.push .none))).get? la = some (listOf (ws.toArray.push .none) (n + 1)) := by
    rw [Heap.get?_update_self _ h1 (by rw [Obj.mapSeq_push_plain]; rfl), Obj.mapSeq_push_plain]
  generalize hH1 : s.heap.update la (Obj.mapSeq (·.push .none)) = H1 at hs1 he1 ⊢
  show wpAny c.M A.in1 (Builtin.List.listUpdate (.ref la) (·.pop)) _ _ _
  have hpop : Obj.mapSeq (·.pop) (listOf (ws.toArray.push .none) (n + 1)) = listOf ws.toArray (n + 2) := by
    simp [Obj.mapSeq]
  refine wpAny_updateSeq (s := { s with heap := H1 }) he1 rfl ?_ (by rw [Array.size_push, List.size_toArray, hlen, sizeLine_eq]; omega) (by rw [Array.size_pop, Array.size_push, List.size_toArray, hlen, sizeLine_eq]; omega)
  have hs2 : Heap.SameBut la H1 (H1.update la (Obj.mapSeq (·.pop))) := Heap.SameBut.update ..
  have he2 : (H1.update la (Obj.mapSeq (·.pop))).get? la = some (listOf ws.toArray (n + 2)) := by
    rw [Heap.get?_update_self _ he1 (by rw [hpop]; rfl), hpop]
  generalize hH2 : H1.update la (Obj.mapSeq (·.pop)) = H2 at hs2 he2 ⊢
  have hs : Heap.SameBut la s.heap H2 := ⟨hs2.1.trans hs1.1, fun b hb => (hs2.2 b hb).trans (hs1.2 b hb)⟩
  obtain ⟨P2, G2⟩ := P.setList (s' := { s with heap := H2 }) (ws' := ws) (vs' := xs) hi hr hs ⟨_, he2⟩ h2
  have nl : ∀ x ∈ a :: Xs ++ X0, x ≠ la := fun x hx e => h3 (List.mem_append_left _ (e ▸ hx))
  have hset : σ.set i (.list xs) = σ := by
    apply List.ext_getElem?
    intro j
    by_cases h : i = j
    · subst h
      have := (List.getElem?_eq_some_iff.mp hi).1
      have h2 := hi
      rw [List.getElem?_eq_getElem this] at h2
      simp [this, ← Option.some.inj h2]
    · rw [List.getElem?_set_ne h]
  rw [hset] at P2
  refine wpAny_pure ⟨plainId_quiet plain_ext_loop _, ?_⟩
  exact ext_loop hh hroom hok htk us xs Xs Ys zi ρ z σ _ P2 hdj (gn.agr ⟨fun x hx o e => (hs.2 x (nl x (List.mem_append_left _ hx))).trans e, fun j _ x e => e⟩) hzi hi hr hz G2 fun ρ' z' s' P3 G3 k3 => q ρ' z' s' P3 G3 fun x hx o e => k3 x hx o ((hs.2 x (nl x (List.mem_append_right _ hx))).trans e)

/-- o.extend(..), where what is handed in is a new generator -/
theorem ev_extG {env : Env} {l : Loc} {o arg : Expr} {pos apos : Pos} {pl : Sem Bool} {Q : V → Hp → Prop} (hDi : Di + 40 ≤ D)
    (h : EV (c.pin ps) env D (eval o env) l σ fun ov σ₁ => ∃ i xs, ov = .ref i ∧ σ₁[i]? = some (.list xs) ∧ EVG c ps env D Di l σ₁ arg fun us => xs.length + us.length ≤ 1000000 ∧ Q .none (σ₁.set i (.list (xs ++ us))))
    (he : eval (.Call (.Attribute o "extend" apos) [arg] [] pos) env = (do
      let ov ← eval o env
      standAt apos.atName
      let (f, first) ← holding [ov] (getMethod ov "extend" pl)
      callWith pos f first (backTo pos (starEach [arg] env)) (backToKw pos (keywordEach [] env))))
    (he2 : starEach [arg] env = [(false, eval arg env)]) : EV (c.pin ps) env D (eval (.Call (.Attribute o "extend" apos) [arg] [] pos) env) l σ Q := by
  intro A g ρ z s Q' E' ok R q
  refine methodCall_KW (h A g ρ z s _ _ ok R fun ov ow σ1 ρ1 z1 s1 h1 R1 G1 r1 => ?_) he
  obtain ⟨i, xs, rfl, hi, hg⟩ := h1
  cases r1 with
  | ref hr =>
    rename_i la
    obtain ⟨ws, n, e1, e2, e3, e4⟩ := R1.toRp.list hi hr
    refine getMethod_list_of PySem.F.slot_list_extend PySem.F.type_list_extend (isList_of e1) ⟨_, e1, rfl⟩ ?_
    have hplain : ((backTo pos (starEach [arg] env)).any (·.1) || (backToKw pos (keywordEach [] env)).any (·.1.isNone)) = false := by rw [he2]; rfl
    refine callWith_of (P := fun h => c.K.In h) hplain (fun h X => keepOk_looks (c := c) (z := z1) (ρ := ρ1) (v := .val (.builtin "list.extend")) trivial (.val _) h X) (evalArgs_gen (by rw [he2]; rfl) rfl ?_)
    refine args_cons (e := arg) (rest := []) (env := env) (pos := pos) ?_ he2
    refine hg A g ρ1 z1 s1 _ _ ok R1 fun us a k L ρ2 z2 s2 s' hQ R2 G2 n => ?_
    obtain ⟨hz, hq⟩ := hQ
    refine args_nil (wpAny_evalAll_nil ⟨(R2.base.X.keeps R2.keep).keeps n.keep, ?_⟩)
    have okS : OkS A.in1.in1 Di := ⟨ok.h, by have := ok.d; show A.depth + 3 * Di + 60 < _; omega, by have := ok.u; show A.units + 1 + 1 + 20 * Di + 400 < _; omega⟩
    have ex : ∀ x, (∃ o, s2.heap.get? x = some o) → x ≠ a ∧ x ≠ L := by
      rintro x ⟨o, e⟩
      exact ⟨fun q => by (rw [q, n.fa] at e; cases e), fun q => by (rw [q, n.fL] at e; cases e)⟩
    have exL := ex env.locals (R2.off env.locals (by simp)).2
    have P2 := n.add R2.toRp
    refine ext_call (c := c) (ps := ps) (X0 := [env.locals]) (Xs := [L]) (xs := xs) (us := us) (i := i) ok.h (by have := ok.d; omega) okS (fun x hx hT => ?_) P2 (fun x hx hm => ?_) n.gn (fun _ h => h) hi (G2.r _ _ hr) hz fun ρ' z' s'' P' G' k' => ?_
    · have h1 : x = a ∨ x = env.locals := by simpa using hx
      rcases h1 with h1 | h1
      · exact (ex x (R2.off x (List.mem_append_right _ hT)).2).1 h1
      · exact R2.lt (h1 ▸ hT)
    · have h1 : x = env.locals := by simpa using hx
      have h2 : x = a ∨ x = L := by simpa using hm
      subst h1
      rcases h2 with h2 | h2
      · exact exL.1 h2
      · exact exL.2 h2
    · refine q _ _ _ _ _ _ hq (R2.mk' P' G'.toExt fun m hm => (hm.keeps n.keep).at' fun o e => k' _ (by simp) o e) (((G1.trans G2).trans n.go).trans G') .none
end
end
section
open PySem PySem.W PyProof.Rows PySem.Calls PySem.W.X
def SmpC (c : Code) : Prop := c.weight ≤ 1 ∧ c.cUnits ≤ 3
theorem smp_func {body : List Stmt} {env : Env} : SmpC (.func body env) := ⟨Nat.le_refl 1, Nat.le_refl 3⟩
theorem smp_while {t : Expr} {b o : List Stmt} {env : Env} : SmpC (.whileLoop t b o env) := ⟨Nat.zero_le 1, Nat.zero_le 3⟩
theorem smp_for {t : Expr} {i : Value} {b o : List Stmt} {env : Env} : SmpC (.forLoop t i b o env) := ⟨Nat.zero_le 1, Nat.zero_le 3⟩
theorem smp_block {b : List Stmt} {env : Env} : SmpC (.block b env) := ⟨Nat.zero_le 1, Nat.zero_le 3⟩
inductive FrsOk : Nat → List Frame → Prop
  | nil {n} : FrsOk n []
  | cons {n k g l c p kp fs} : SmpC c → FrsOk n fs → FrsOk (n + 1) (.ret k none g l c p kp :: fs)
theorem FrsOk.marks : ∀ {n fs}, FrsOk n fs → ∀ x, marksOver fs x = x
  | _, _, .nil, x => rfl
  | _, _, .cons _ h, x => by
    have h1 := h.marks x
    unfold marksOver at h1 ⊢
    rw [List.foldr_cons, h1]
    rfl
theorem FrsOk.count : ∀ {n fs}, FrsOk n fs → frameCount (fs.map Frame.where_) ≤ n ∧ unitsOf (fs.map Frame.where_) ≤ 3 * n
  | _, _, .nil => ⟨Nat.zero_le _, Nat.zero_le _⟩
  | _, _, .cons (n := n) (c := c) hc h => by
    obtain ⟨h1, h2⟩ := h.count
    simp only [List.map_cons, Frame.where_, frameCount_cons, unitsOf_cons]
    have := hc.1; have := hc.2
    omega
theorem FrsOk.over {n : Nat} {cd : Code} {fs : List Frame} (h : FrsOk n fs) (hc : SmpC cd) (A : Around) : (A.over cd fs).handled = A.handled ∧ (A.over cd fs).depth ≤ A.depth + n + 1 ∧ (A.over cd fs).units ≤ A.units + 3 * n + 3 := by
  obtain ⟨h1, h2⟩ := h.count
  have := hc.1; have := hc.2
  refine ⟨?_, ?_, ?_⟩
  · show (marksOver fs (A.handled, A.handled)).1 = _
    rw [h.marks]
  · show A.depth + frameCount (fs.map Frame.where_) + cd.weight ≤ _
    omega
  · show A.units + unitsOf (fs.map Frame.where_) + cd.cUnits ≤ _
    omega
theorem FrsOk.okF {n D : Nat} {cd : Code} {fs : List Frame} (h : FrsOk n fs) (hc : SmpC cd) (hn : n ≤ 10) : OkF D cd fs := fun A a => by
  obtain ⟨h1, h2, h3⟩ := h.over hc A
  exact ⟨h1.trans a.h, by have := a.d; omega, by have := a.u; omega⟩
theorem FrsOk.okF2 {n D D' : Nat} {cd : Code} {fs : List Frame} (h : FrsOk n fs) (hc : SmpC cd) (hn : n ≤ 10) (hD : D + 40 ≤ D') : ∀ A, OkS A D' → OkS (A.over cd fs).in1 D := fun A a => by
  obtain ⟨h1, h2, h3⟩ := h.over hc A
  exact ⟨h1.trans a.h, by have := a.d; show (A.over cd fs).depth + _ + _ < _; omega, by have := a.u; show (A.over cd fs).units + 1 + _ + _ < _; omega⟩
theorem FrsOk.split : ∀ {n fs}, FrsOk n fs → splitAtGen fs = none
  | _, _, .nil => rfl
  | _, _, .cons _ h => by
    have h1 := h.split
    simp only [splitAtGen, h1]
    rfl

section
variable {c : Cx} {D : Nat} {env : Env} {Inn : INN} {vs : List V} {cd : Code} {fs : List Frame} {K : Flow → Sem Fin} {H : Value → Sem Fin} {gd : Bool → Bool} {lv : List Value → List Value} {ns : List Str} {l : List V} {XX : List (Nat × GenState) → Ex}
/-- the walks of a generator's frame are run in the worlds XX -/
def XXok (c : Cx) (D : Nat) (XX : List (Nat × GenState) → Ex) : Prop := ∀ ps, (XX ps).c = c.pin ps ∧ (XX ps).D = D ∧ XOk (XX ps)
theorem go_nat {α : Type} {t : Sem Fin} (vs : α → List V) (l : α → Loc) (m : α → Nat) (step : ∀ x, (∀ y, m y < m x → GoOn c D env Inn (vs y) (l y) t cd fs) → GoOn c D env Inn (vs x) (l x) t cd fs) (x : α) : GoOn c D env Inn (vs x) (l x) t cd fs := by
  generalize hn : m x = n
  induction n using Nat.strongRecOn generalizing x with
  | ind n ih => exact step x fun y hy => ih (m y) (hn ▸ hy) y rfl
/-- a while loop: how it turns, and what comes behind -/
theorem go_whileL {α : Type} {test : Expr} {body : List Stmt} {pos : Pos} (vs : α → List V) (l : α → Loc) (m : α → Nat) (stop : List V → Loc → Prop) (x : α) (after : ∀ vs l, stop vs l → GoOn c D env Inn vs l (K .next) cd fs)
    (turn : ∀ p x, (∀ y, m y < m x → GoOn c D env Inn (vs y) (l y) (denote table (.whileLoop test body [] env)) (.whileLoop test body [] env) (.ret (frK env K H gd lv) none (gd false) (lv []) cd p [] :: fs)) →
      (∀ vs l, stop vs l → GoOn c D env Inn vs l (.pure (.done .next)) (.whileLoop test body [] env) (.ret (frK env K H gd lv) none (gd false) (lv []) cd p [] :: fs)) →
      GoOn c D env Inn (vs x) (l x) (denote table (.whileLoop test body [] env)) (.whileLoop test body [] env) (.ret (frK env K H gd lv) none (gd false) (lv []) cd p [] :: fs)) :
    GoOn c D env Inn (vs x) (l x) ((exec (.While test body [] pos) env).wrap K H gd lv) cd fs :=
  go_while fun p => go_nat vs l m (fun x ih => turn p x ih fun vs l h => go_pop (after vs l h)) x
theorem gw_ex {st : Stmt} {w : WX} (l' : List V) (hS : Stab Inn) (hf : FrsOk 10 fs) (hc : SmpC cd) (hX : XXok c D XX) (hl : l.length = ns.length) (hw : ∀ ps, CX (c.pin ps) env ns st w) (h : ∀ ps, w (XX ps) l [] fun f l₁ σ' => f = .next ∧ l₁ = l' ∧ σ' = [])
    (k : GoOn c D env Inn vs (ns.zip l') (K .next) cd fs) : GoOn c D env Inn vs (ns.zip l) ((exec st env).wrap K H gd lv) cd fs := by
  refine go_ex hS (hf.okF hc (Nat.le_refl _)) (fun ps => ?_) (Q := fun f l₁ σ' => f = .next ∧ l₁ = ns.zip l' ∧ σ' = []) fun f l₁ σ' hq => ?_
  · obtain ⟨e1, e2, e3⟩ := hX ps
    have := hw ps (XX ps) e1 e3 l [] _ hl (h ps)
    rw [e2] at this
    refine this.mono fun f L τ hq => ?_
    obtain ⟨l2, _, rfl, rfl, rfl, rfl⟩ := hq
    exact ⟨rfl, rfl, rfl⟩
  · obtain ⟨rfl, rfl, rfl⟩ := hq
    exact ⟨rfl, k⟩
theorem gw_brk {pos : Pos} (hS : Stab Inn) (hf : FrsOk 10 fs) (hc : SmpC cd) (hX : XXok c D XX) (hl : l.length = ns.length) {w : WX} (hw : ∀ ps, CX (c.pin ps) env ns (.Break pos) w) (h : ∀ ps, w (XX ps) l [] fun f l₁ σ' => f = .brk ∧ l₁ = l ∧ σ' = [])
    (k : GoOn c D env Inn vs (ns.zip l) (K .brk) cd fs) : GoOn c D env Inn vs (ns.zip l) ((exec (.Break pos) env).wrap K H gd lv) cd fs := by
  refine go_ex hS (hf.okF hc (Nat.le_refl _)) (fun ps => ?_) (Q := fun f l₁ σ' => f = .brk ∧ l₁ = ns.zip l ∧ σ' = []) fun f l₁ σ' hq => ?_
  · obtain ⟨e1, e2, e3⟩ := hX ps
    have := hw ps (XX ps) e1 e3 l [] _ hl (h ps)
    rw [e2] at this
    refine this.mono fun f L τ hq => ?_
    obtain ⟨l2, _, rfl, rfl, rfl, rfl⟩ := hq
    exact ⟨rfl, rfl, rfl⟩
  · obtain ⟨rfl, rfl, rfl⟩ := hq
    exact ⟨rfl, k⟩
theorem gw_if {test : Expr} {body orelse : List Stmt} {pos : Pos} {w : WB} (b : Bool) (hS : Stab Inn) (hf : FrsOk 10 fs) (hc : SmpC cd) (hX : XXok c D XX) (hl : l.length = ns.length) (hw : ∀ ps, CB (c.pin ps) env ns test w) (h : ∀ ps, w (XX ps) l [] fun b' σ' => b' = b ∧ σ' = [])
    (k1 : b = true → GoOn c D env Inn vs (ns.zip l) ((execs body env).wrap K H gd lv) cd fs) (k2 : b = false → GoOn c D env Inn vs (ns.zip l) ((execs orelse env).wrap K H gd lv) cd fs) :
    GoOn c D env Inn vs (ns.zip l) ((exec (.If test body orelse pos) env).wrap K H gd lv) cd fs := by
  refine go_if hS (hf.okF hc (Nat.le_refl _)) (fun ps => ?_) (Q := fun b' σ' => b' = b ∧ σ' = []) fun b' σ' hq => ?_
  · obtain ⟨e1, e2, e3⟩ := hX ps
    have := hw ps (XX ps) e1 e3 l [] _ hl (h ps)
    rw [e2] at this
    exact this
  · obtain ⟨rfl, rfl⟩ := hq
    exact ⟨rfl, k1, k2⟩
/-- if, both of whose ways go on alike -/
theorem gw_ifR {test : Expr} {body orelse : List Stmt} {pos : Pos} {w : WB} (b : Bool) (vs' : List V) (hS : Stab Inn) (hf : FrsOk 10 fs) (hc : SmpC cd) (hX : XXok c D XX) (hl : l.length = ns.length) (hw : ∀ ps, CB (c.pin ps) env ns test w) (h : ∀ ps, w (XX ps) l [] fun b' σ' => b' = b ∧ σ' = [])
    (after : GoOn c D env Inn vs' (ns.zip l) (K .next) cd fs) (k1 : b = true → GoOn c D env Inn vs' (ns.zip l) (K .next) cd fs → GoOn c D env Inn vs (ns.zip l) ((execs body env).wrap K H gd lv) cd fs) (k2 : b = false → GoOn c D env Inn vs' (ns.zip l) (K .next) cd fs → GoOn c D env Inn vs (ns.zip l) ((execs orelse env).wrap K H gd lv) cd fs) :
    GoOn c D env Inn vs (ns.zip l) ((exec (.If test body orelse pos) env).wrap K H gd lv) cd fs :=
  gw_if b hS hf hc hX hl hw h (fun e => k1 e after) (fun e => k2 e after)
theorem gw_turn {test : Expr} {body : List Stmt} {w : WB} (b : Bool) (hS : Stab Inn) (hf : FrsOk 10 fs) (hc : SmpC cd) (hX : XXok c D XX) (hl : l.length = ns.length) (hw : ∀ ps, CB (c.pin ps) env ns test w) (h : ∀ ps, w (XX ps) l [] fun b' σ' => b' = b ∧ σ' = [])
    (k1 : b = true → GoOn c D env Inn vs (ns.zip l) ((execs body env).wrap (loopK (.whileLoop test body [] env)) (loopH env) id id) cd fs) (k2 : b = false → GoOn c D env Inn vs (ns.zip l) (.pure (.done .next)) cd fs) :
    GoOn c D env Inn vs (ns.zip l) (denote table (.whileLoop test body [] env)) cd fs := by
  refine go_whileTurn hS (hf.okF hc (Nat.le_refl _)) (fun ps => ?_) (Q := fun b' σ' => b' = b ∧ σ' = []) fun b' σ' hq => ?_
  · obtain ⟨e1, e2, e3⟩ := hX ps
    have := hw ps (XX ps) e1 e3 l [] _ hl (h ps)
    rw [e2] at this
    exact this
  · obtain ⟨rfl, rfl⟩ := hq
    exact ⟨rfl, k1, k2⟩
theorem gw_yield {e : Expr} {ypos pos : Pos} {w : WE} {v : V} (hS : Stab Inn) (hf : FrsOk 10 fs) (hc : SmpC cd) (hX : XXok c D XX) (hl : l.length = ns.length) (hgd : gd false = false) (hfg : fs.any Frame.guarded = false) (hw : ∀ ps, CE (c.pin ps) env ns e w) (h : ∀ ps, w (XX ps) l [] fun u σ' => u = v ∧ σ' = [])
    (hco : env.scope.isCoroutine = false) (hi : interactive env = false) (k : GoOn c D env Inn vs (ns.zip l) (K .next) cd fs) : GoOn c D env Inn (v :: vs) (ns.zip l) ((exec (.Expr (.Yield (some e) ypos) pos) env).wrap K H gd lv) cd fs := by
  refine go_yield hS (hf.okF hc (Nat.le_refl _)) hf.split hgd hfg (fun ps => ?_) (Q := fun u σ' => u = v ∧ σ' = []) (fun u σ' hq => ⟨hq.2, hq.1⟩) k hco hi
  obtain ⟨e1, e2, e3⟩ := hX ps
  have := hw ps (XX ps) e1 e3 l [] _ hl (h ps)
  rw [e2] at this
  exact this
end
/-- a def that yields -/
structure GDef (c : Cx) (D : Nat) (f : Addr) (bn un : List Str) (sh : Shape) (ok : List V → List V → Prop) : Prop where
  x : ∃ (fd : FuncData) (body : List Stmt) (oc : Value) (od : Option Addr) (osl : Array (Option Value)), c.K.lookup f = some ⟨oc, od, .func fd, osl⟩ ∧ fd.body = .stmts body ∧ codeIn c.K fd.code fd.qualname = true ∧
    ((bn ++ un).Nodup ∧ (∀ x ∈ bn, fd.scope.names.lookup x = some .local) ∧ (∀ x ∈ fd.scope.names, x.2 ≠ .cell)) ∧ (fd.globals = mainGlobals ∧ fd.builtins = builtinsNs ∧ fd.scope.isCoroutine = false ∧ fd.scope.isGenerator = true ∧ fd.scope.kind = .function) ∧
    (∀ args kw vals, sh args kw vals → BindA c fd args kw (bn.zip vals) ∧ vals.length = bn.length) ∧ ∀ L env, env = callEnv fd L f → ∀ vals vs, vals.length = bn.length → ok vals vs → GoOn c D env noG vs ((bn ++ un).zip (vals ++ un.map fun _ => V.unb)) ((execs body env).wrap funK (funH env) id id) (.func body env) []
theorem GDef.gfn {c : Cx} {D : Nat} {f : Addr} {bn un : List Str} {sh : Shape} {ok : List V → List V → Prop} (d : GDef c D f bn un sh ok) {args vals : List V} {kw : List (Str × V)} {vs : List V} (hs : sh args kw vals) (hok : ok vals vs) (hfl : ∀ z ρ ws, VRL z ρ vals ws → VRL z [] vals ws) : GFn c D (.val (.ref f)) args kw vs := by
  obtain ⟨fd, body, oc, od, osl, h1, h2, h3, ⟨h4, h5, h6⟩, ⟨h7, h8, h9, h10, h11⟩, h12, h13⟩ := d.x
  obtain ⟨hb, hn⟩ := h12 _ _ _ hs
  have e1 : (bn.zip vals).map (·.1) = bn := by rw [List.map_fst_zip]; omega
  have e2 : (bn.zip vals).map (·.2) = vals := by rw [List.map_snd_zip]; omega
  refine fg_def (bs := bn.zip vals) (un := un) h1 h2 h3 hb ?_ ?_ (by rw [e2]; exact hfl) (fun L => ?_) h6 h7 h8 h9 h10 h11
  · rw [List.map_append, e1, List.map_map]
    have : ((·.1) ∘ fun x : Str => (x, V.unb)) = id := rfl
    rw [this, List.map_id]; exact h4
  · intro x hx
    exact h5 x.1 (by rw [← e1]; exact List.mem_map_of_mem hx)
  · have := h13 L _ rfl vals vs hn hok
    rw [zip_app hn, zip_unb] at this
    exact this
end
section
open PySem PySem.W PyProof.Rows PySem.Calls PySem.W.X
section
variable {c : Cx} {D Di : Nat} {env : Env} {Inn : INN} {vs : List V} {cd : Code} {fs : List Frame} {K : Flow → Sem Fin} {H : Value → Sem Fin} {gd : Bool → Bool} {lv : List Value → List Value} {ns : List Str} {l : List V} {XX : List (Nat × GenState) → Ex}
/-- a for loop over a generator, whole -/
theorem go_forX {α : Type} {Inn' : INN} {target iter : Expr} {body : List Stmt} {p0 : Pos} (emb : α → V) (xs : List α) (VS : List α → List V) (LS : Loc → Prop) {L : Loc} (hS : Stab Inn') (hf : FrsOk 9 fs) (hc : SmpC cd) (hD : Di + 40 ≤ D)
    (hE : ∀ A g ps Xi Yi zg zs Xd s, GAt c D env Inn A g ps Xi Yi zg zs Xd L s → ∀ (Q E : Value → Shared → Prop), (∀ a k Xi' Yi' zg' s', GAt c D env (withG c Di Inn' a k (xs.map emb)) A g ps Xi' Yi' zg' zs Xd L s' → Q (.ref a) s') →
      wpAny c.M (A.over cd fs) (eval iter env) (fun w s₁ => wpAny c.M (A.over cd fs) (pyIter w) Q E s₁) E s)
    (l0 : LS L) (after : ∀ l', LS l' → GoOn c D env Inn' (VS []) l' (K .next) cd fs)
    (turn : ∀ a k p x ys l', x ∈ xs → LS l' → (∀ l₂, LS l₂ → GoOn c D env (withG c Di Inn' a k (ys.map emb)) (VS ys) l₂ (.pure (.again (.forLoop target (.ref a) body [] env))) (.forLoop target (.ref a) body [] env) (.ret (frK env K H gd lv) none (gd false) (lv []) cd p [] :: fs)) →
      ∃ l₃, (∀ ps, EA (c.pin ps) env D target (emb x) l' [] fun l₄ σ' => l₄ = l₃ ∧ σ' = []) ∧ GoOn c D env (withG c Di Inn' a k (ys.map emb)) (VS (x :: ys)) l₃ ((execs body env).wrap (loopK (.forLoop target (.ref a) body [] env)) (loopH env) id id) (.forLoop target (.ref a) body [] env) (.ret (frK env K H gd lv) none (gd false) (lv []) cd p [] :: fs))
    (hs : ∀ x, foldedSetIterable iter env x = pure x) : GoOn c D env Inn (VS xs) L ((exec (.For target iter body [] p0) env).wrap K H gd lv) cd fs := by
  refine go_forG hE (fun a k p => ?_) hs
  have hf' : FrsOk 10 (.ret (frK env K H gd lv) none (gd false) (lv []) cd p [] :: fs) := .cons hc hf
  have loop : ∀ ys l', (∀ y ∈ ys, y ∈ xs) → LS l' → GoOn c D env (withG c Di Inn' a k (ys.map emb)) (VS ys) l' (denote table (.forLoop target (.ref a) body [] env)) (.forLoop target (.ref a) body [] env) (.ret (frK env K H gd lv) none (gd false) (lv []) cd p [] :: fs) := by
    intro ys
    induction ys with
    | nil =>
      intro l' hm hl
      refine go_forTurn (Qa := fun _ _ => False) hS (hf'.okF smp_for (Nat.le_refl _)) (hf'.okF2 smp_for (Nat.le_refl _) hD) (fun _ => ?_) (fun u us' h => (nomatch h))
      exact go_pop (after l' hl)
    | cons x ys ih =>
      intro l' hm hl
      obtain ⟨l₃, h1, h2⟩ := turn a k p x ys l' (hm x (.head _)) hl fun l₂ h₂ => go_again rfl (ih l₂ (fun y hy => hm y (.tail _ hy)) h₂)
      refine go_forTurn (Qa := fun l₄ σ' => l₄ = l₃ ∧ σ' = []) hS (hf'.okF smp_for (Nat.le_refl _)) (hf'.okF2 smp_for (Nat.le_refl _) hD) (fun h => (nomatch h)) (fun u us' h => ?_)
      simp only [List.map_cons, List.cons.injEq] at h
      obtain ⟨rfl, rfl⟩ := h
      exact ⟨h1, fun l' σ' hq => by obtain ⟨rfl, rfl⟩ := hq; exact ⟨rfl, h2⟩⟩
  exact loop xs L (fun _ h => h) l0
/-- the arguments of a generator's call, in a generator's frame -/
theorem argsG {us : List V} {f : Addr} {x : Str} {px pos : Pos} {args : List Expr} {kws : List Keyword} {wl : WL} {wk : WK} {a0 : List V} {k0 : List (Str × V)} (hX : XXok c D XX) (hl : l.length = ns.length) (hG : GFn c Di (.val (.ref f)) a0 k0 us)
    (e : nsIn c.K mainGlobals x = some (some (.ref f))) (hkp : keepIn c.K (.ref f) = true)
    (hwl : ∀ ps, CL (c.pin ps) env ns pos args wl) (hwk : ∀ ps, CK (c.pin ps) env ns pos kws wk) (h : ∀ ps, wl (XX ps) l [] fun xs σ₂ => wk (XX ps) l σ₂ fun ks σ₃ => xs = a0 ∧ ks = k0 ∧ σ₃ = [])
    (hkd : env.kindOf x = some .globalImplicit) (hd : (x == ("__debug__" : Str)) = false) : ∀ ps, EV (c.pin ps) env D (eval (.Name x px) env) (ns.zip l) [] fun vf σ₁ => KeepOk (c.pin ps) vf ∧ EL (c.pin ps) env D pos args (ns.zip l) σ₁ fun xs σ₂ => EK (c.pin ps) env D pos kws (ns.zip l) σ₂ fun ks σ₃ => GFn c Di vf xs ks us ∧ σ₃ = [] := by
  intro ps
  obtain ⟨e1, e2, e3⟩ := hX ps
  refine ev_glob (c := c.pin ps) e ⟨hkp, ?_⟩ hkd hd
  have h1 := (hwl ps).2 (XX ps) e1 e3 l [] _ hl (h ps)
  rw [e2] at h1
  refine h1.mono fun xs σ₂ h2 => ?_
  have h3 := (hwk ps).2 (XX ps) e1 e3 l σ₂ _ hl h2
  rw [e2] at h3
  exact h3.mono fun ks σ₃ h4 => by obtain ⟨rfl, rfl, rfl⟩ := h4; exact ⟨hG, rfl⟩
/-- the iterable is the call of a def that yields -/
theorem hE_call {us : List V} {x : Str} {px pos : Pos} {args : List Expr} {kws : List Keyword} {L : Loc} (hS : Stab Inn) (hf : FrsOk 10 fs) (hc : SmpC cd) (hkw : (backToKw pos (keywordEach kws env)).all (·.1.isSome) = true)
    (h : ∀ ps, EV (c.pin ps) env D (eval (.Name x px) env) L [] fun vf σ₁ => KeepOk (c.pin ps) vf ∧ EL (c.pin ps) env D pos args L σ₁ fun xs σ₂ => EK (c.pin ps) env D pos kws L σ₂ fun ks σ₃ => GFn c Di vf xs ks us ∧ σ₃ = [])
    (he : eval (.Call (.Name x px) args kws pos) env = (do callWith pos (← eval (.Name x px) env) [] (backTo pos (starEach args env)) (backToKw pos (keywordEach kws env)))) :
    ∀ A g ps Xi Yi zg zs Xd s, GAt c D env Inn A g ps Xi Yi zg zs Xd L s → ∀ (Q E : Value → Shared → Prop), (∀ a k Xi' Yi' zg' s', GAt c D env (withG c Di Inn a k us) A g ps Xi' Yi' zg' zs Xd L s' → Q (.ref a) s') →
      wpAny c.M (A.over cd fs) (eval (.Call (.Name x px) args kws pos) env) (fun w s₁ => wpAny c.M (A.over cd fs) (pyIter w) Q E s₁) E s := by
  intro A g ps Xi Yi zg zs Xd s t Q E q
  have ok := hf.okF hc (Nat.le_refl _) A t.ok
  refine rx_call (us := us) (Di := Di) hS hkw h he ok t fun a k Xi' Yi' zg' s' t' => ?_
  have t2 := t'
  obtain ⟨Xs, Ys, X0, Y0, zi, rfl, rfl, i1, i2, _⟩ := t'.inn
  exact wpAny_pyIter_gen i2.gen (q a k _ _ _ _ t2)
/-- the iterable is a local name that holds a generator -/
theorem hE_name {us : List V} {a : Addr} {k : Nat} {e : Expr} {L : Loc} (hS : Stab Inn) (hf : FrsOk 10 fs) (hc : SmpC cd) (h : ∀ ps, EV (c.pin ps) env D (eval e env) L [] fun v σ => v = .val (.ref a) ∧ σ = []) :
    ∀ A g ps Xi Yi zg zs Xd s, GAt c D env (withG c Di Inn a k us) A g ps Xi Yi zg zs Xd L s → ∀ (Q E : Value → Shared → Prop), (∀ a k Xi' Yi' zg' s', GAt c D env (withG c Di Inn a k us) A g ps Xi' Yi' zg' zs Xd L s' → Q (.ref a) s') →
      wpAny c.M (A.over cd fs) (eval e env) (fun w s₁ => wpAny c.M (A.over cd fs) (pyIter w) Q E s₁) E s := by
  intro A g ps Xi Yi zg zs Xd s t Q E q
  refine rx_ev t.rx (hf.okF hc (Nat.le_refl _) A t.ok) h (fun f σ' hq => hq.2) fun v w zg' s' hq st r => ?_
  obtain ⟨rfl, _⟩ := hq
  cases r
  have t2 := t.step (withG_stab hS) st
  have t3 := t2
  obtain ⟨Xs, Ys, X0, Y0, zi, rfl, rfl, i1, i2, _⟩ := t2.inn
  exact wpAny_pyIter_gen i2.gen (q a k _ _ _ _ t3)
theorem hE_loc {us : List V} {a : Addr} {k i : Nat} {x : Str} {p : Pos} (hS : Stab Inn) (hf : FrsOk 10 fs) (hc : SmpC cd) (hX : XXok c D XX) (hl : l.length = ns.length) {w : WE} (hw : ∀ ps, CE (c.pin ps) env ns (.Name x p) w) (h : ∀ ps, w (XX ps) l [] fun v σ => v = .val (.ref a) ∧ σ = []) :
    ∀ A g ps Xi Yi zg zs Xd s, GAt c D env (withG c Di Inn a k us) A g ps Xi Yi zg zs Xd (ns.zip l) s → ∀ (Q E : Value → Shared → Prop), (∀ a k Xi' Yi' zg' s', GAt c D env (withG c Di Inn a k us) A g ps Xi' Yi' zg' zs Xd (ns.zip l) s' → Q (.ref a) s') →
      wpAny c.M (A.over cd fs) (eval (.Name x p) env) (fun w s₁ => wpAny c.M (A.over cd fs) (pyIter w) Q E s₁) E s := by
  refine hE_name hS hf hc fun ps => ?_
  obtain ⟨e1, e2, e3⟩ := hX ps
  have := hw ps (XX ps) e1 e3 l [] _ hl (h ps)
  rw [e2] at this
  exact this
theorem gw_ea {t : Expr} {u : V} {w : WA} (l' : List V) (hX : XXok c D XX) (hl : l.length = ns.length) (hw : ∀ ps, CAs (c.pin ps) env ns t w) (h : ∀ ps, w (XX ps) u l [] fun l₁ σ' => l₁ = l' ∧ σ' = []) : ∀ ps, EA (c.pin ps) env D t u (ns.zip l) [] fun l₄ σ' => l₄ = ns.zip l' ∧ σ' = [] := by
  intro ps
  obtain ⟨e1, e2, e3⟩ := hX ps
  have := hw ps (XX ps) e1 e3 u l [] _ hl (h ps)
  rw [e2] at this
  intro A g ρ z s Q' E' w ok R r q
  exact this A g ρ z s Q' E' w ok R r fun l₄ σ' ρ' z' s' hq => q l₄ σ' ρ' z' s' (by obtain ⟨l2, _, rfl, rfl, rfl⟩ := hq; exact ⟨rfl, rfl⟩)
end
end
section
open PySem PySem.W PyProof.Rows PySem.Calls PySem.W.X
theorem EV.of_pin' {c : Cx} {env : Env} {D : Nat} {t : Sem Value} {l : Loc} {σ : Hp} {Q : V → Hp → Prop} (hgi : ∃ ps, ∀ a, c.gi a ↔ PIN ps a) (h : ∀ ps, (∀ a, c.gi a ↔ PIN ps a) → EV (c.pin ps) env D t l σ Q) : EV c env D t l σ Q := by
  obtain ⟨ps, hp⟩ := hgi
  exact fun A g ρ z s Q' E' ok R q => h ps hp A g ρ z s Q' E' ok (R.pin hp) fun v w σ' ρ' z' s' hq R' G' r => q v w σ' ρ' z' s' hq (R'.unpin hp) G' r
theorem EV.to_pin {c : Cx} {env : Env} {D : Nat} {t : Sem Value} {l : Loc} {σ : Hp} {Q : V → Hp → Prop} {ps : List (Nat × GenState)} (hp : ∀ a, c.gi a ↔ PIN ps a) (h : EV c env D t l σ Q) : EV (c.pin ps) env D t l σ Q :=
  fun A g ρ z s Q' E' ok R q => h A g ρ z s Q' E' ok (R.unpin hp) fun v w σ' ρ' z' s' hq R' G' r => q v w σ' ρ' z' s' hq (R'.pin hp) G' r
@[irreducible] def extO (ov : V) (σ : Hp) (K : Nat → List V → Prop) : Prop := ∃ (i : Nat) (vs : List V), ov = .ref i ∧ σ[i]? = some (.list vs) ∧ K i vs
theorem extO_of {i : Nat} {σ : Hp} {vs : List V} {K : Nat → List V → Prop} (hi : σ[i]? = some (.list vs)) (h : K i vs) : extO (.ref i) σ K := by unfold extO; exact ⟨i, vs, rfl, hi, h⟩
@[irreducible] def extG (X : Ex) (i : Nat) (vs : List V) (σ : Hp) (f : Addr) (xs : List V) (ks : List (Str × V)) (σ₄ : Hp) (Q : V → Hp → Prop) : Prop :=
  ∃ (us : List V), σ₄ = σ ∧ GFn X.c (X.D - 40) (.val (.ref f)) xs ks us ∧ vs.length + us.length ≤ 1000000 ∧ Q .none (σ.set i (.list (vs ++ us)))
theorem extG_of {X : Ex} {i : Nat} {σ : Hp} {f : Addr} {xs : List V} {ks : List (Str × V)} {Q : V → Hp → Prop} {vs us : List V} (hg : GFn X.c (X.D - 40) (.val (.ref f)) xs ks us) (hz : vs.length + us.length ≤ 1000000)
    (h : Q .none (σ.set i (.list (vs ++ us)))) : extG X i vs σ f xs ks σ Q := by unfold extG; exact ⟨us, rfl, hg, hz, h⟩
def extGW (f : Addr) (wo : WE) (ws : WL) (wk : WK) : WE := fun X l σ Q => chk (40 ≤ X.D) (wo X l σ fun ov σ₁ => extO ov σ₁ fun i vs => ws X l σ₁ fun xs σ₃ => wk X l σ₃ fun ks σ₄ => extG X i vs σ₁ f xs ks σ₄ Q)
section
variable {c : Cx} {env : Env} {ns : List Str} {pos : Pos}
theorem ce_extG {o : Expr} {x : Str} {p apos pos2 : Pos} {args : List Expr} {kws : List Keyword} {f : Addr} {wo : WE} {ws : WL} {wk : WK} {pl : Sem Bool} (hgi : ∃ ps, ∀ a, c.gi a ↔ PIN ps a) (e : nsIn c.K mainGlobals x = some (some (.ref f))) (hk : keepIn c.K (.ref f) = true)
    (ho : CE c env ns o wo) (ha : CL c env ns pos2 args ws) (hw : CK c env ns pos2 kws wk)
    (he : eval (.Call (.Attribute o "extend" apos) [.Call (.Name x p) args kws pos2] [] pos) env = (do
      let ov ← eval o env
      standAt apos.atName
      let (f, first) ← holding [ov] (getMethod ov "extend" pl)
      callWith pos f first (backTo pos (starEach [.Call (.Name x p) args kws pos2] env)) (backToKw pos (keywordEach [] env))) := by with_unfolding_all rfl)
    (he2 : starEach [.Call (.Name x p) args kws pos2] env = [(false, eval (.Call (.Name x p) args kws pos2) env)] := by with_unfolding_all rfl)
    (he3 : eval (.Call (.Name x p) args kws pos2) env = (do callWith pos2 (← eval (.Name x p) env) [] (backTo pos2 (starEach args env)) (backToKw pos2 (keywordEach kws env))) := by (subst_vars; kernel_rfl))
    (hkd : env.kindOf x = some .globalImplicit := by (subst_vars; kernel_rfl)) (hd : (x == ("__debug__" : Str)) = false := by decide +kernel) :
    CE c env ns (.Call (.Attribute o "extend" apos) [.Call (.Name x p) args kws pos2] [] pos) (extGW f wo ws wk) :=
  fun X ec ok l σ Q hl h1 => by
    subst ec
    refine EV.of_pin' hgi fun ps hp => ?_
    obtain ⟨hD, h1⟩ := of_chk h1
    refine ev_extG (pl := pl) (Di := X.D - 40) (by omega) (EV.to_pin hp ((ho X rfl ok l σ _ hl h1).mono fun ov σ₁ h2 => ?_)) he he2
    unfold extO at h2
    obtain ⟨i, vs, rfl, hi, h2⟩ := h2
    refine ⟨i, vs, rfl, hi, evgC hp hw.1 (ev_glob e ⟨hk, (ha.2 X rfl ok l σ₁ _ hl h2).mono fun xs σ₂ h4 => (hw.2 X rfl ok l σ₂ _ hl h4).mono fun ks σ₃ h5 => ?_⟩ hkd hd) he3⟩
    unfold extG at h5
    obtain ⟨us, rfl, hg, hz, hq⟩ := h5
    exact ⟨rfl, us, hg, hz, hq⟩
end
@[irreducible] def compG (h : V → V) (X : Ex) (XX : Nat → List (Nat × GenState) → Ex) (f : Addr) (wt : WA) (we : WE) (lc : List V) (xs : List V) (ks : List (Str × V)) (σ σ₄ : Hp) (Q : V → Hp → Prop) : Prop :=
  ∃ (us : List V), σ₄ = σ ∧ GFn X.c (X.D - 40) (.val (.ref f)) xs ks us ∧ us.length ≤ 1000000 ∧ (∀ ps v, v ∈ us → wt (XX X.D ps) v lc σ fun l₂ σ₂ => we (XX X.D ps) l₂ σ₂ fun u σ₃ => u = h v ∧ σ₃ = σ) ∧ Q (.ref σ.length) (σ ++ [.list (us.map h)])
theorem compG_of {X : Ex} {XX : Nat → List (Nat × GenState) → Ex} {f : Addr} {wt : WA} {we : WE} {lc xs : List V} {ks : List (Str × V)} {σ : Hp} {Q : V → Hp → Prop} {h : V → V} (us : List V) (hg : GFn X.c (X.D - 40) (.val (.ref f)) xs ks us) (hz : us.length ≤ 1000000)
    (hs : ∀ ps v, v ∈ us → wt (XX X.D ps) v lc σ fun l₂ σ₂ => we (XX X.D ps) l₂ σ₂ fun u σ₃ => u = h v ∧ σ₃ = σ) (hq : Q (.ref σ.length) (σ ++ [.list (us.map h)])) : compG h X XX f wt we lc xs ks σ σ Q := by unfold compG; exact ⟨us, rfl, hg, hz, hs, hq⟩
def compGW (h : V → V) (XX : Cx → Nat → List (Nat × GenState) → Ex) (f : Addr) (sl : List (Option Nat)) (wt : WA) (we : WE) (ws : WL) (wk : WK) : WE := fun X l σ Q => slotK sl l fun lc => chk (40 ≤ X.D) (ws X l σ fun xs σ₃ => wk X l σ₃ fun ks σ₄ => compG h X (XX X.c) f wt we lc xs ks σ σ₄ Q)
section
variable {c : Cx} {env : Env} {ns : List Str} {pos : Pos}
theorem ce_compG {elt target : Expr} {x : Str} {p pos2 : Pos} {args : List Expr} {kws : List Keyword} {scope : Scope} {cl : List (Str × Addr)} {xs : List Str} {sl : List (Option Nat)} {wt : WA} {we : WE} {f : Addr} {ws : WL} {wk : WK} {XX : Cx → Nat → List (Nat × GenState) → Ex} (h : V → V)
    (hgi : ∃ ps, ∀ a, c.gi a ↔ PIN ps a) (hXX : ∀ D, XXok c D (XX c D)) (e : nsIn c.K mainGlobals x = some (some (.ref f))) (hk : keepIn c.K (.ref f) = true)
    (hclos : closureFor scope env = pure cl) (hcell : ∀ y ∈ scope.names, y.2 ≠ .cell) (hkind : scope.kind = .function) (hnames : ∀ y ∈ scope.names, y.2 = .local → scope.names.lookup y.1 = some .local) (hnd : xs.Nodup)
    (hsl : CSlots env scope cl ns xs sl) (ha : CL c env ns pos2 args ws) (hw : CK c env ns pos2 kws wk)
    (ht : ∀ ps C env', env' = compEnvC scope cl C env → CAs (c.pin ps) env' xs target wt) (hel : ∀ ps C env', env' = compEnvC scope cl C env → CE (c.pin ps) env' xs elt we)
    (he3 : eval (.Call (.Name x p) args kws pos2) env = (do callWith pos2 (← eval (.Name x p) env) [] (backTo pos2 (starEach args env)) (backToKw pos2 (keywordEach kws env))) := by (subst_vars; kernel_rfl))
    (hs : ∀ y, foldedSetIterable (.Call (.Name x p) args kws pos2) env y = pure y := by (subst_vars; intro _; kernel_rfl))
    (hkd : env.kindOf x = some .globalImplicit := by (subst_vars; kernel_rfl)) (hd : (x == ("__debug__" : Str)) = false := by decide +kernel) :
    CE c env ns (.ListComp elt [⟨target, .Call (.Name x p) args kws pos2, [], 0⟩] scope pos) (compGW h XX f sl wt we ws wk) :=
  fun X ec ok l σ Q hl h1 => by
    subst ec
    refine EV.of_pin' hgi fun ps hp => ?_
    obtain ⟨lc, h5, h6, h7⟩ := slotK_inv hl hsl h1
    obtain ⟨hD, h7⟩ := of_chk h7
    refine ev_compG (f := h) (Di := X.D - 40) hclos hcell hkind hnames h6 (by rw [List.map_fst_zip (by omega)]; exact hnd) (by omega) (evgC hp hw.1 (ev_glob e ⟨hk, (ha.2 X rfl ok l σ _ hl h7).mono fun xs σ₂ h8 => (hw.2 X rfl ok l σ₂ _ hl h8).mono fun ks σ₃ h9 => ?_⟩ hkd hd) he3) hs
    unfold compG at h9
    obtain ⟨us, rfl, hg, hz, hst, hq⟩ := h9
    refine ⟨rfl, us, hg, hz, fun ps C v hv => ?_, hq⟩
    obtain ⟨e1, e2, e3⟩ := hXX X.D ps
    have h10 := ht ps C _ rfl _ e1 e3 v lc _ _ h5 (hst ps v hv)
    rw [e2] at h10
    refine h10.mono fun L τ h11 => ?_
    obtain ⟨l', hl', rfl, h12⟩ := h11
    have h13 := hel ps C _ rfl _ e1 e3 l' τ _ hl' h12
    rw [e2] at h13
    exact h13
end
end
section
open PySem PySem.W PyProof.Rows PySem.Calls Builtin
set_option maxRecDepth 100000
set_option maxHeartbeats 4000000
-- A CLASS OVER tuple, WITH A __new__ OF ITS OWN
structure TupCls (K : Frag) (C : Addr) : Prop where
  obj : ∃ oc od cd sl, K.lookup C = some ⟨oc, od, .cls cd, sl⟩ ∧ cd.mro = [.ref C, .type "tuple", .type "object"] ∧ cd.bases = [.type "tuple"] ∧ cd.hasDel = false ∧ (sl.toList[4]?).join = some .none
  isty : instIn K (.ref C) (.type "type") = some true
  init : findIn K (.ref C) "__init__" = some (some (.builtin "object.__init__"))
section
variable {K : Frag} {C : Addr} {M : Model} {h : Heap}
theorem TupCls.mro (y : TupCls K C) (X : K.In h) : Looks M h (mroOf (.ref C)) [.ref C, .type "tuple", .type "object"] := by
  obtain ⟨oc, od, cd, sl, ho, e1, e2, e3, e4⟩ := y.obj
  have hc : clsIn K C = some cd := by unfold clsIn; rw [ho]
  rw [← e1]
  exact (looks_clsIn X hc).andThen .now
theorem TupCls.made (y : TupCls K C) (X : K.In h) : Looks M h (Bind.madeBy (.ref C)) none := by
  have hm := y.mro (M := M) X
  obtain ⟨oc, od, cd, sl, ho, e1, e2, e3, e4⟩ := y.obj
  intro A Q E s k q
  unfold Bind.madeBy
  refine wpAny_bind (hm A _ E s k ?_)
  rw [List.forIn_cons]
  refine wpAny_bind (wpAny_bind (wpAny_bind (wpAny_bind (wpAny_loadPart (k _ _ (X _ _ ho)) (wpAny_pure ?_)))))
  dsimp only
  rw [← Array.getElem?_toList, e4]
  exact wpAny_pure (wpAny_pure (wpAny_pure q))
theorem best_tuple : Builtin.Slots.bestBase [.type "tuple"] = pure (.type "tuple") := by first | rfl | kernel_rfl
theorem TupCls.static (y : TupCls K C) (X : K.In h) : Looks M h (Bind.staticBase (.ref C)) (.type "tuple") := by
  have hm := y.mro (M := M) X
  have h0 := y.made (M := M) X
  obtain ⟨oc, od, cd, sl, ho, e1, e2, e3, e4⟩ := y.obj
  have hc : clsIn K C = some cd := by unfold clsIn; rw [ho]
  have hL := looks_clsIn (M := M) X hc
  intro A Q E s k q
  unfold Bind.staticBase
  refine wpAny_bind (hm A _ E s k ?_)
  rw [List.forIn_cons]
  refine wpAny_bind (wpAny_bind (wpAny_bind (h0 A _ E s k ?_)))
  simp only [Option.isSome_none, Bool.false_eq_true, if_false]
  refine wpAny_bind (hL A _ E s k ?_)
  rw [e2, best_tuple]
  refine wpAny_bind (wpAny_pure (wpAny_pure ?_))
  dsimp only
  rw [List.forIn_cons]
  dsimp only
  rw [PySem.F.called_tuple.made]
  refine wpAny_bind (wpAny_bind (wpAny_pure ?_))
  simp only [Option.isSome_some, if_true]
  exact wpAny_pure (wpAny_pure (wpAny_pure q))
theorem TupCls.here (y : TupCls K C) (X : K.In h) : Looks M h (Bind.madeHere "tuple.__new__" (.ref C)) () := by
  unfold Bind.madeHere
  refine (y.static X).andThen ?_
  rw [PySem.F.called_tuple.made]
  refine Looks.of_pure ?_
  first | rfl | kernel_rfl
theorem TupCls.sub (y : TupCls K C) (X : K.In h) : Looks M h (isSubtype (.ref C) (.type "tuple")) true := by
  obtain ⟨oc, od, cd, sl, ho, e1, e2, e3, e4⟩ := y.obj
  have hc : clsIn K C = some cd := by unfold clsIn; rw [ho]
  refine looks_mroIn X ?_
  unfold mroIn
  rw [hc, Option.bind_some, e1]
  rfl
theorem TupCls.isT (y : TupCls K C) (X : K.In h) : Looks M h (isType (.ref C)) true := by
  obtain ⟨oc, od, cd, sl, ho, e1, e2, e3, e4⟩ := y.obj
  unfold isType loadHead
  exact (Looks.ld (X _ _ ho)).andThen .now
theorem kind_tupNew : builtinKind "tuple.__new__" = some .builtinFn := by decide +kernel
theorem split_tupNew : splitId "tuple.__new__" = some ("tuple", "__new__") := by decide +kernel
theorem tup_args (a b : Value) : argsOk "tuple.__new__" ⟨[a, b], []⟩ := by unfold argsOk; kernel_rfl
end
section
variable {prog : Program} {w : World} {A : Around} {K : Frag} {C : Addr} {R : Result → Shared → Prop} {s : Shared}
theorem tup_new {t : Addr} {o : Obj} {items : Array Value} {n : Nat} (y : TupCls K C) (X : K.In s.heap) (ho : s.heap.get? t = some o) (hc : o.cls = .type "tuple") (hd : o.data = .seq items n) (hz : items.size ≤ sizeLine)
    (q : ∀ h' : Heap, (∀ b o', s.heap.get? b = some o' → h'.get? b = some o') → R (.ok (.ret (.ref (h'.push emptyDict).objs.size))) { s with heap := (h'.push emptyDict).push ⟨.ref C, some h'.objs.size, .seq items.toList.toArray 0, #[]⟩ }) :
    codeAny (model prog w) A (.call (.builtin "tuple.__new__") ⟨[.ref C, .ref t], []⟩) R s := by
  refine codeAny_call_builtin_code (Code.quiet_builtin _ (by decide +kernel)) ?_
  simp only [checkBuiltinCall, kind_tupNew, split_tupNew]
  have i1 := y.isT (M := model prog w) X
  have i2 := y.sub (M := model prog w) X
  have i3 := y.static (M := model prog w) X
  have i4 := PySem.F.called_tuple.made
  have i5 := y.here (M := model prog w) X
  have i6 : Looks (model prog w) s.heap (typeLookup (.ref C) "__init__") (some (.builtin "object.__init__")) := looks_findIn X y.init
  have eq1 : ("__new__" == "__new__") = true := by decide
  have eq2 : (Manifest.canonical "tuple.__new__" != Manifest.canonical "tuple.__new__") = false := bne_self_eq_false' ..
  rw [if_pos eq1]
  refine wpAny_bind (i1.here ?_)
  simp only [Bool.not_true, Bool.false_eq_true, if_false]
  refine wpAny_bind (i2.here ?_)
  simp only [Bool.not_true, Bool.false_eq_true, if_false]
  refine wpAny_bind (i3.here ?_)
  rw [i4]
  refine wpAny_bind (wpAny_pure ?_)
  dsimp only
  rw [eq2, if_neg (by decide)]
  have ar : argsOk "tuple.__new__" ⟨[.ref C, .ref t], []⟩ := tup_args _ _
  unfold argsOk at ar
  refine wpAny_mono (Q := fun _ s' => s' = s) (E := fun _ _ => False) ?_ (fun _ s' e => ?_) fun _ _ e => e.elim
  · split at ar
    · rename_i sig e
      rw [e]
      have ar' : Bind.checkArgs "tuple.__new__" sig ⟨[.ref C, .ref t], []⟩ = pure () := ar
      show wpAny _ _ (Bind.checkArgs "tuple.__new__" sig ⟨[.ref C, .ref t], []⟩) _ _ _
      rw [ar']
      exact wpAny_pure rfl
    · rename_i e
      rw [e]
      exact wpAny_pure rfl
  subst e
  refine codeAny_builtin PySem.F.entry_tuple_new ?_
  unfold Builtin.«tuple.__new__»
  dsimp only
  refine wpAny_bind (i1.here ?_)
  simp only [Bool.not_true, Bool.false_eq_true, if_false]
  refine wpAny_bind (i2.here ?_)
  simp only [Bool.not_true, Bool.false_eq_true, if_false]
  refine wpAny_bind (i5.here ?_)
  refine wpAny_bind (i6.here ?_)
  rw [if_pos (beq_self_eq_true _)]
  have k1 : noKeywords "tuple" ⟨[Value.ref C, Value.ref t], []⟩ = pure () := by first | rfl | kernel_rfl
  have k2 : checkCount "tuple" 0 1 [Value.ref t].length = pure () := by first | rfl | kernel_rfl
  have k3 : (Value.ref C == Value.type "tuple") = false := by first | rfl | kernel_rfl
  rw [k1, k2, k3]
  refine wpAny_bind (wpAny_pure (wpAny_bind (wpAny_pure ?_)))
  simp only [Bool.false_eq_true, if_false]
  refine wpAny_bind (PySem.wpAny_collect_seq t (.inr rfl) ho hc hd (fun h' hk => ?_) hz)
  refine wpAny_bind (wpAny_pure ?_)
  refine wpAny_bind (wpAny_alloc ?_)
  obtain ⟨oc, od, cd, sl, hC, e1, e2, e3, e4⟩ := y.obj
  have hC' := hk _ _ (X _ _ hC)
  refine wpAny_bind ?_
  unfold newObj
  dsimp only
  rw [if_neg (by simpa using hz)]
  unfold newObjAsIs classHasDel
  refine wpAny_bind (wpAny_alloc (wpAny_bind (wpAny_bind (wpAny_load (Heap.get?_push_of_some _ (Heap.get?_push_of_some _ hC')) (wpAny_pure ?_)))))
  rw [e3]
  exact wpAny_pure (wpAny_pure (q h' hk))
theorem method_typ {T : String} {name : Str} {v : Value} {pl : Sem Bool} {E : Value → Shared → Prop} {Q : Value × List Value → Shared → Prop} (X : K.In s.heap) (ht : typeOf (.type T) = pure (.type "type")) (hs : Manifest.isStub T = false)
    (e : findCls K (.type T) (.type "type") name = some (.val v)) (hh : handedIn v = true) (h : Q (v, []) { s with toks := s.toks + 1 }) : wpAny (model prog w) A (getMethod (.type T) name pl) Q E s := by
  have L1 : Looks (model prog w) s.heap (opaqueClassAbove (.type T)) none := by
    refine Looks.of_pure ?_
    unfold opaqueClassAbove
    dsimp only
    rw [hs]
    rfl
  have L2 : Looks (model prog w) s.heap (typeOf (.type T)) (.type "type") := Looks.of_pure ht
  have hg : findIn K (.type "type") "__getattribute__" = some (some (.builtin "type.__getattribute__")) := type_tga
  unfold getMethod specialOf
  refine wpAny_bind (wpAny_bind (L2.here ((looks_findIn X hg).here ?_)))
  dsimp only
  rw [if_pos canon_tga]
  refine wpAny_bind (wpAny_mono (Q := fun v => Q (v, [])) (E := E) ?_ (fun _ _ z => wpAny_pure z) fun _ _ z => z)
  refine cls_open X L1 L2 hg (looks_hook X (r := none) (by rfl)) (by show subIn K _ _ = _; rfl) e (wpAny_pure ?_)
  show wpAny _ _ (handedOut v) _ _ _
  rw [handedOut_of hh]
  exact wpAny_pure h
end
section
variable {c : Cx} {env : Env} {D : Nat} {l : Loc} {σ : Hp} {Q : V → Hp → Prop} {C : Addr}
theorem em_typ {T : String} {name : Str} {v : Value} {QM : V → List V → Hp → Prop} (ht : typeOf (.type T) = pure (.type "type")) (hs : Manifest.isStub T = false) (e : findCls c.K (.type T) (.type "type") name = some (.val v)) (hh : handedIn v = true)
    (h : QM (.val v) [] σ) : EM c env D (.val (.type T)) name l σ QM := by
  intro A g ρ z s Q' E' w pl ok R r q
  cases r
  exact method_typ (R.base.X.keeps R.keep) ht hs e hh (q _ _ _ _ _ _ _ _ h (R.toks _) (Go.toks ..) (.val _) .nil)
theorem fn_tupNew {vs : List V} (y : TupCls c.K C) (hz : vs.length ≤ 1000000) (h : Q (.ntup C vs) σ) : FN c D (.val (.builtin "tuple.__new__")) [.val (.ref C), .tup vs] [] σ Q := by
  refine fn2 fun A g ρ z s Q' E' w₁ w₂ ok P r₁ r₂ q => ?_
  cases r₁
  cases r₂ with
  | tup hm hl =>
    rename_i ws a n
    have X := P.base.X.keeps P.keep
    refine wpAny_call (tup_new y X (P.frz _ hm).1 rfl rfl (by rw [List.size_toArray, sizeLine_eq]; have := hl.length; omega) fun h' hk => ?_)
    have P1 : Rp c g [] ρ z σ { s with heap := h' } := P.grow hk
    have G1 : Go g ρ z s ρ z { s with heap := h' } := Go.same g ρ z s _ hk
    have P2 := P1.pushZ emptyDict
    have G2 := Go.push P1.keep (ρ := ρ) (z := z) (s := { s with heap := h' }) emptyDict
    have P3 := P2.pushZ ⟨.ref C, some h'.objs.size, .seq ws.toArray 0, #[]⟩
    have G3 := Go.push P2.keep (ρ := ρ) (z := (h'.objs.size, emptyDict) :: z) (s := { s with heap := h'.push emptyDict }) ⟨.ref C, some h'.objs.size, .seq ws.toArray 0, #[]⟩
    exact q _ _ _ _ _ _ h P3 (G1.trans (G2.trans G3)) (.ntup (.head _) (.tail _ (.head _)) (hl.mono (G1.trans (G2.trans G3)).toExt))
end
end
section
open PySem PySem.W PyProof.Rows PySem.Calls Builtin
set_option maxRecDepth 100000
set_option maxHeartbeats 4000000
theorem ty_tuple : typeOf (.type "tuple") = pure (.type "type") := by kernel_rfl
theorem isTy_tuple : isType (.type "tuple") = pure true := by kernel_rfl
section
variable {prog : Program} {w : World} {A : Around} {E : Value → Shared → Prop} {K : Frag} {C : Addr} {s : Shared}
theorem issub_nested {Q : Fin → Shared → Prop} (y : TupCls K C) (X : K.In s.heap) (q : Q (.done (.ret (.bool true))) s) : wpAny (model prog w) A (Builtin.«issubclass.nested» ⟨[.ref C, .type "tuple", rawInt 0], []⟩) Q E s := by
  have h1 := y.isT (M := model prog w) X
  have h2 := y.sub (M := model prog w) X
  have h3 : Looks (model prog w) s.heap (typeOf (.type "tuple")) (.type "type") := Looks.of_pure ty_tuple
  have h4 : Looks (model prog w) s.heap (isType (.type "tuple")) true := Looks.of_pure isTy_tuple
  obtain ⟨hh, g, d, t, os⟩ := s
  unfold Builtin.«issubclass.nested»
  dsimp only [rawInt]
  dsimp only at h1 h2 h3 h4 X
  refine wpAny_bind (h3.at ?_)
  rw [if_pos (by rfl)]
  refine wpAny_bind ?_
  repeat lk
  exact q
theorem issub_call {Q : Value → Shared → Prop} (y : TupCls K C) (X : K.In s.heap) (q : Q (.bool true) s) : wpAny (model prog w) A (call (.builtin "issubclass") [.ref C, .type "tuple"]) Q E s :=
  call_issubclass (S := fun _ R s => K.In s.heap ∧ R (.ok (.ret (.bool true))) s) (fun prog w A R s hs => issubclass_outer (issub_nested y hs.1 hs.2)) ⟨X, q⟩
theorem tupItem {l : Addr} {items : Array Value} {n : Nat} {d : Option Addr} {i : Int} {u : Tok} {k : Nat} {v : Value} (hlo : -2 ^ 63 ≤ i) (hhi : i < 2 ^ 63) (hk : seqIndex? i items.size = some k) (hy : items[k]? = some v) :
    Meets (Builtin.«tuple.__getitem__» ⟨[.ref l, .int i u], []⟩)
      (fun _ R s => s.heap.get? l = some { cls := .ref C, dict := d, data := .seq items n, slots := #[] } ∧ R (.ok (.ret v)) s) :=
  .of_wp fun prog w A R s h => by
    obtain ⟨hp, g, d, tk, os⟩ := s; obtain ⟨hl, h⟩ := h
    have f1 := AutoSeq1.idx_int
    have hf : ¬ (decide (i < -2 ^ 63) || decide (i ≥ 2 ^ 63)) = true := by simp; omega
    wp_walk using wpAny_loadPart' hl
    simp only [hk, hy, Option.bind_some]
    refine wpAny_ite_false (by simp; omega) ?_
    wp_walk
    exact ⟨_, rfl, h⟩
theorem tupItem_call {a : Addr} {items : Array Value} {n : Nat} {d : Option Addr} {i : Int} {u : Tok} {k : Nat} {v : Value} {Q : Value → Shared → Prop} (y : TupCls K C) (X : K.In s.heap) (ho : s.heap.get? a = some { cls := .ref C, dict := d, data := .seq items n, slots := #[] })
    (hlo : -2 ^ 63 ≤ i) (hhi : i < 2 ^ 63) (hk : seqIndex? i items.size = some k) (hy : items[k]? = some v) (q : Q v s) : wpAny (model prog w) A (call (.builtin "tuple.__getitem__") [.ref a, .int i u]) Q E s := by
  have hi : Looks (model prog w) s.heap (isInstance (.ref a) (.type "tuple")) true := by
    have t1 : Looks (model prog w) s.heap (typeOf (.ref a)) (.ref C) := (Looks.ld (part := none) ho).andThen .now
    exact t1.andThen (y.sub X)
  have ar : argsOk "tuple.__getitem__" ⟨[.ref a, .int i u], []⟩ := PySem.F.args_tuple_getitem_2 _ _
  have k1 : builtinKind "tuple.__getitem__" = some .slot := by decide +kernel
  have k2 : splitId "tuple.__getitem__" = some ("tuple", "__getitem__") := by decide +kernel
  refine wpAny_call ?_
  refine codeAny_call_builtin PySem.F.slot_tuple_getitem.plain PySem.F.entry_tuple_getitem ?_
  refine @check_slot (model prog w) _ _ s "tuple.__getitem__" "tuple" "__getitem__" (.ref a) [.int i u] [] _ k1 k2 hi ar ?_
  exact tupItem (C := C) hlo hhi hk hy prog w A (wants Q E) s ⟨ho, q⟩
end
section
variable {c : Cx} {env : Env} {D : Nat} {l : Loc} {σ : Hp} {Q : V → Hp → Prop} {C : Addr}
theorem ntup_inv {z : Led} {ρ : List Addr} {C : Addr} {vs : List V} {w : Value} (r : VR z ρ (.ntup C vs) w) : ∃ a ws dx n, w = .ref a ∧ (a, (⟨.ref C, some dx, .seq ws.toArray n, #[]⟩ : Obj)) ∈ z ∧ (dx, (⟨.type "dict", none, .dict #[] 0, #[]⟩ : Obj)) ∈ z ∧ VRL z ρ vs ws := by
  cases r with
  | ntup h1 h2 h3 => exact ⟨_, _, _, _, rfl, h1, h2, h3⟩
theorem fn_type {vs : List V} (h : Q (.val (.ref C)) σ) : FN c D (.val (.type "type")) [.ntup C vs] [] σ Q := by
  refine fn1 fun A g ρ z s Q' E' w ok P r q => ?_
  obtain ⟨a, ws, dx, n, rfl, h1, _, _⟩ := ntup_inv r
  have hz := (P.frz _ h1).1
  have q' := q _ _ _ _ _ _ h P (Go.refl ..) (.val _)
  obtain ⟨hh, gg, dd, tk, os⟩ := s
  exact call_type_obj hz (by first | rfl | kernel_rfl) q'
theorem fn_issub (y : TupCls c.K C) (h : Q (.bool true) σ) : FN c D (.val (.builtin "issubclass")) [.val (.ref C), .val (.type "tuple")] [] σ Q := by
  refine fn2 fun A g ρ z s Q' E' w₁ w₂ ok P r₁ r₂ q => ?_
  cases r₁; cases r₂
  exact issub_call y (P.base.X.keeps P.keep) (q _ _ _ _ _ _ h P (Go.refl ..) (.bool _))
theorem fn_tget (y : TupCls c.K C) {vs : List V} {k : Int} {v : V} (h0 : 0 ≤ k) (h1 : k < 2 ^ 63) (hv : vs[k.toNat]? = some v) (h : Q v σ) : FN c D (.val (.builtin "tuple.__getitem__")) [.ntup C vs, .int k] [] σ Q := by
  refine fn2 fun A g ρ z s Q' E' w₁ w₂ ok P r₁ r₂ q => ?_
  cases r₂
  obtain ⟨a, ws, dx, n, rfl, m1, _, m3⟩ := ntup_inv r₁
  obtain ⟨w, hw, rw'⟩ := m3.get hv
  have hlt : k.toNat < ws.length := (List.getElem?_eq_some_iff.mp hw).1
  refine tupItem_call y (P.base.X.keeps P.keep) (P.frz _ m1).1 (by omega) h1 (k := k.toNat) ?_ (by simpa using hw) (q _ _ _ _ _ _ h P (Go.refl ..) rw')
  unfold seqIndex?
  rw [List.size_toArray]
  first
    | (rw [if_neg (by omega)]; simp; omega)
    | (simp; omega)
    | (split <;> simp <;> omega)
end
end
section
open PySem PySem.W PyProof.Rows PySem.Calls Builtin
set_option maxRecDepth 100000
set_option maxHeartbeats 4000000
/-- how a class over tuple with a __new__ of its own is called -/
structure TupMake (K : Frag) (C p f : Addr) : Prop where
  y : TupCls K C
  call : specialIn K (.ref C) "__call__" = some (some (.builtin "type.__call__"))
  reads : readsIn K C (.type "type") = true
  get : findCls K (.ref C) (.type "type") "__new__" = some (.get (.builtin "staticmethod.__get__") (.ref p) .none (.ref C))
  sm : ∃ rest, recIn K p "staticmethod" = some (.ref f :: rest)
section
variable {prog : Program} {w : World} {A : Around} {K : Frag} {C p f : Addr} {R : Result → Shared → Prop} {s : Shared}
theorem oi_call {x : Addr} {o : Obj} {rest : List Value} {E : Value → Shared → Prop} {Q : Value → Shared → Prop} (y : TupCls K C) (X : K.In s.heap) (hx : s.heap.get? x = some o) (hc : o.cls = .ref C) (q : Q .none s) :
    wpAny (model prog w) A (call (.builtin "object.__init__") (.ref x :: rest)) Q E s := by
  have t1 : Looks (model prog w) s.heap (typeOf (.ref x)) (.ref C) := hc ▸ (Looks.ld (part := none) hx).andThen .now
  have t2 : Looks (model prog w) s.heap (isInstance (.ref x) (.type "object")) true := by
    obtain ⟨oc, od, cd, sl, ho, e1, e2, e3, e4⟩ := y.obj
    have hcl : clsIn K C = some cd := by unfold clsIn; rw [ho]
    refine t1.andThen (looks_mroIn X ?_)
    unfold mroIn
    rw [hcl, Option.bind_some, e1]
    rfl
  have i1 : Looks (model prog w) s.heap (typeLookup (.ref C) "__init__") (some (.builtin "object.__init__")) := looks_findIn X y.init
  have i2 := y.made (M := model prog w) X
  refine wpAny_call ?_
  refine codeAny_call_builtin oi_plain entry_oi ?_
  have ar : argsOk "object.__init__" ⟨.ref x :: rest, []⟩ := by unfold argsOk; kernel_rfl
  refine @check_slot (model prog w) _ _ s "object.__init__" "object" "__init__" (.ref x) rest [] _ oi_kind oi_split t2 ar ?_
  obtain ⟨hh, g, d, t, os⟩ := s
  dsimp only at t1 i1 i2
  unfold Builtin.«object.__init__»
  cases rest with
  | nil =>
    repeat lk
    exact q
  | cons a rest =>
    repeat lk
    exact q
theorem TupCls.inst (y : TupCls K C) {M : Model} {h : Heap} (X : K.In h) : Looks M h (isSubtype (.ref C) (.ref C)) true := by
  obtain ⟨oc, od, cd, sl, ho, e1, e2, e3, e4⟩ := y.obj
  have hcl : clsIn K C = some cd := by unfold clsIn; rw [ho]
  refine looks_mroIn X ?_
  unfold mroIn
  rw [hcl, Option.bind_some, e1, if_neg (by simp)]
  simp
theorem tcls_call (m : TupMake K C p f) (X : K.In s.heap) {ws : List Value}
    (h : codeAny (model prog w) (A.under (.builtin "type.__call__" ⟨.ref C :: ws, []⟩)) (.call (.ref f) ⟨.ref C :: ws, []⟩) (fun r s' => match r with
      | .ok (.ret v) => ∃ x o, v = .ref x ∧ s'.heap.get? x = some o ∧ o.cls = .ref C ∧ K.In s'.heap ∧ R (.ok (.ret (.ref x))) s'
      | _ => False) { s with toks := s.toks + 1 }) : codeAny (model prog w) A (.call (.ref C) ⟨ws, []⟩) R s := by
  obtain ⟨y, hcall, hreads, hget, rest, hsm⟩ := m
  obtain ⟨oc, od, cd, sl, ho, e1, e2, e3, e4⟩ := id y.obj
  have hC := X _ _ ho
  have call := looks_specialIn (M := model prog w) X hcall
  have typ := looks_instIn (M := model prog w) X y.isty
  have hm := y.mro (M := model prog w) X
  have made := y.made (M := model prog w) X
  obtain ⟨hh, g, d, t, os⟩ := s
  dsimp only at hC call typ hm made X
  refine codeAny_of_tree ?_
  show wpAny _ _ (callAny (.ref C) _) _ _ _
  refine nd_load hC ?_
  show wpAny _ _ (callAny.viaDunder (.ref C) _) _ _ _
  unfold callAny.viaDunder
  refine wpAny_bind (call.at ?_)
  dsimp only
  rw [tc_bind]
  refine wpAny_bind (wpAny_pure (wpAny_bind (wpAny_pure ?_)))
  refine wpAny_pure (a := Fin.again (.call (.builtin "type.__call__") ⟨.ref C :: ws, []⟩)) (And.intro rfl ?_)
  refine codeAny_call_builtin_at (Code.quiet_builtin _ (by decide +kernel)) entry_typeCall (check_slot tc_kind tc_split typ (tc_args _ _ _) ?_)
  unfold Builtin.«type.__call__»
  repeat (first | with_reducible refine cls_bind (s := ⟨hh, g, d, t, os⟩) X hreads hget ?_ | with_reducible refine wpAny_call ?_ | lk)
  refine sm_get (s := { heap := hh, gens := g, drawn := d, toks := t + 1, os := os }) X hsm (handed_on rfl ?_)
  repeat (first | with_reducible refine wpAny_call ?_ | lk)
  refine codeAny_mono h fun r s' z => ?_
  rcases r with e | (v | _ | _ | _) <;> first | exact z.elim | skip
  obtain ⟨x, o, rfl, hx, hc, X', hq⟩ := z
  have t1 : Looks (model prog w) s'.heap (typeOf (.ref x)) (.ref C) := hc ▸ (Looks.ld (part := none) hx).andThen .now
  have t2 := y.inst (M := model prog w) X'
  have t3 : Looks (model prog w) s'.heap (typeLookup (.ref C) "__init__") (some (.builtin "object.__init__")) := looks_findIn X' y.init
  obtain ⟨hh', g', d', tt', os'⟩ := s'
  dsimp only at t1 t2 t3 X' hx
  unfold isInstance callSpecial? specialOf
  repeat (first | ((with_reducible show wpAny _ _ (PySem.call _ _) _ _ _); refine oi_call (s := ⟨hh', g', d', tt', os'⟩) y X' hx hc ?_) | lk)
  exact hq
end
end
section
open PySem PySem.W PyProof.Rows PySem.Calls Builtin Builtin.ObjectAttr
set_option maxRecDepth 100000
set_option maxHeartbeats 4000000
section
variable {prog : Program} {w : World} {A : Around} {E : Value → Shared → Prop} {s : Shared} {K : Frag} {x C : Addr} {ox : Obj} {od : Option Obj} {name : Str} {expr : Bool} {Q : Value → Shared → Prop}
theorem get_bindT {g a : Value} (y : TupCls K C) (X : K.In s.heap) (I : InstAt s.heap x ox C od) (hga : findIn K (.ref C) "__getattribute__" = some (some (.builtin "tuple.__getattribute__")))
    (hf : findObj K C od name = some (.bind g a)) (hk : findIn K (.ref C) "__getattr__" = some none)
    (h : wpAny (model prog w) A.in1 (call g [a, .ref x, .ref C]) (fun v s' => wpAny (model prog w) A (handedOut v) Q E s') (fun _ _ => False) { s with toks := s.toks + 1 }) :
    wpAny (model prog w) A (getAttr (.ref x) name expr) Q E s := by
  have L0 := I.type (M := model prog w)
  have L1 := looks_findIn (M := model prog w) X hga
  have L2 := looks_findIn (M := model prog w) X hk
  have L3 := looks_find (M := model prog w) X I hf
  have L4 : Looks (model prog w) s.heap (isInstance (.ref x) (.type "tuple")) true := L0.andThen (y.sub X)
  obtain ⟨hh, gg, d, t, os⟩ := s
  dsimp only at L0 L1 L2 L3 L4 X
  unfold getAttr getAttrBy
  refine wpAny_bind (wpAny_mkText (wpAny_holding (wpAny_bind (L0.at (wpAny_bind (L1.at ?_))))))
  dsimp only
  rw [show (onTheHeap (.ref C) && Value.builtin "tuple.__getattribute__" == Value.builtin "object.__getattribute__") = false from by rw [show (Value.builtin "tuple.__getattribute__" == Value.builtin "object.__getattribute__") = false from by decide +kernel, Bool.and_false], if_neg (by decide)]
  unfold getAttrByItsOwn hookBefore
  rw [if_pos (by rfl)]
  refine wpAny_bind (L2.at (wpAny_bind (wpAny_attempt (wpAny_holding ?_))))
  unfold callGetattribute
  rw [show (expr && onTheHeap (Value.builtin "tuple.__getattribute__")) = false from Bool.and_false _, if_neg (by decide)]
  unfold boundAndCalled
  rw [PySem.F.slot_tuple_getattribute.bind]
  refine wpAny_bind (wpAny_pure ?_)
  show wpAny _ _ (call (.builtin "tuple.__getattribute__") [.ref x, .str name t]) _ _ _
  refine wpAny_call ?_
  refine codeAny_call_builtin PySem.F.slot_tuple_getattribute.plain PySem.F.entry_tuple_ga ?_
  refine @check_slot (model prog w) _ _ ⟨hh, gg, d, t + 1, os⟩ "tuple.__getattribute__" "tuple" "__getattribute__" (.ref x) [.str name t] [] _ (by decide +kernel) (by decide +kernel) L4 (PySem.F.args_tuple_getattribute_2 _ _) ?_
  unfold Builtin.«object.__getattribute__»
  refine wpAny_bind (wpAny_pure (wpAny_bind (wpAny_pure (wpAny_bind (L0.at (wpAny_bind (L3.at ?_)))))))
  dsimp only
  unfold bindTo
  refine wpAny_bind (wpAny_holding (wpAny_mono h (fun v s' z => wpAny_pure ?_) fun _ _ z => z.elim))
  exact z
end
end
section
open PySem PySem.W PyProof.Rows PySem.Calls
section
variable {c : Cx} {env : Env} {ns : List Str} {pos : Pos} {D : Nat} {σ : Hp} {Q : V → Hp → Prop}
theorem FC.tcls {C p f : Addr} {args : List V} (m : TupMake c.K C p f) (h : FC c D (.val (.ref f)) (.val (.ref C) :: args) [] σ fun v σ' => ∃ vs, v = .ntup C vs ∧ Q v σ') : FC c (D + 1) (.val (.ref C)) args [] σ Q := by
  intro A g ρ z s R wf ws kws ok P r1 r2 r3 q
  cases r1
  cases r3
  have X := P.base.X.keeps P.keep
  have ok' : Ok (A.under (.builtin "type.__call__" ⟨.ref C :: ws, []⟩)) D := ⟨ok.h, by have := ok.d; show A.depth + 1 + 3 * D + 3 < _; omega, by have := ok.u; show A.units + 1 + 20 * D + 20 < _; omega⟩
  refine tcls_call m X ?_
  refine h _ g ρ z _ _ (.ref f) (.ref C :: ws) [] ok' (P.grow (s' := { s with toks := s.toks + 1 }) fun _ _ e => e) (.val _) (.cons (.val _) r2) .nil fun v w σ' ρ' z' s' hq P' G' r' => ?_
  obtain ⟨vs, rfl, hq⟩ := hq
  obtain ⟨a, ws', dx, n, rfl, m1, _, _⟩ := ntup_inv r'
  exact ⟨a, _, rfl, (P'.frz _ m1).1, rfl, P'.base.X.keeps P'.keep, q _ _ _ _ _ _ hq P' ((Go.toks ..).trans G') r'⟩
-- CALLS OF BUILT-INS BEYOND Bi
def fnW (F : WE) (ws : WL) : WE := fun X l σ Q => ws X l σ fun vs σ₁ => F X vs σ₁ Q
theorem ce_callF {x : Str} {p : Pos} {args : List Expr} {bv : Value} {F : WE} {ws : WL} (e : nsIn c.K mainGlobals x = some none) (hb : bootBuiltins x = some bv) (hk : KeepOk c (absV bv))
    (hf : ∀ X : Ex, X.c = c → XOk X → ∀ vs σ Q, F X vs σ Q → FN X.c X.D (absV bv) vs [] σ Q) (h : CL c env ns pos args ws)
    (he : eval (.Call (.Name x p) args [] pos) env = (do callWith pos (← eval (.Name x p) env) [] (backTo pos (starEach args env)) (backToKw pos (keywordEach [] env))) := by (subst_vars; kernel_rfl))
    (hkd : env.kindOf x = some .globalImplicit := by (subst_vars; kernel_rfl)) (hn : x ≠ "__name__" := by decide +kernel) (hd : (x == ("__debug__" : Str)) = false := by decide +kernel) : CE c env ns (.Call (.Name x p) args [] pos) (fnW F ws) :=
  fun X ec ok l σ Q hl h1 => by
    subst ec
    exact ev_call rfl (ev_bltn e hb ⟨hk, (h.2 X rfl ok l σ _ hl h1).mono fun vs σ₁ h2 => ek_nil (hf X rfl ok _ _ _ h2)⟩ hkd hn hd) he
theorem ce_tmeth {x : Str} {p ap : Pos} {name : Str} {T : String} {v : Value} {args : List Expr} {F : WE} {ws : WL} {pl : Sem Bool} (e : nsIn c.K mainGlobals x = some none) (hb : bootBuiltins x = some (.type T))
    (ht : typeOf (.type T) = pure (.type "type")) (hs : Manifest.isStub T = false) (hfc : findCls c.K (.type T) (.type "type") name = some (.val v)) (hh : handedIn v = true) (hk : KeepOk c (.val v))
    (hf : ∀ X : Ex, X.c = c → XOk X → ∀ vs σ Q, F X vs σ Q → FN X.c X.D (.val v) vs [] σ Q) (h : CL c env ns pos args ws)
    (he : eval (.Call (.Attribute (.Name x p) name ap) args [] pos) env = (do
      let ov ← eval (.Name x p) env
      standAt ap.atName
      let (f, first) ← holding [ov] (getMethod ov name pl)
      callWith pos f first (backTo pos (starEach args env)) (backToKw pos (keywordEach [] env))) := by with_unfolding_all rfl)
    (hkd : env.kindOf x = some .globalImplicit := by (subst_vars; kernel_rfl)) (hn : x ≠ "__name__" := by decide +kernel) (hd : (x == ("__debug__" : Str)) = false := by decide +kernel) : CE c env ns (.Call (.Attribute (.Name x p) name ap) args [] pos) (fnW F ws) :=
  fun X ec ok l σ Q hl h1 => by
    subst ec
    exact ev_mcall (pl := pl) rfl (ev_bltn_t e hb (em_typ ht hs hfc hh ⟨hk, (h.2 X rfl ok l σ _ hl h1).mono fun vs σ₁ h2 => ek_nil (hf X rfl ok _ _ _ h2)⟩) hkd hn hd) he
def ntK (C' C : Addr) (K : Prop) : Prop := hi (match C'.beq C with | true => K | false => False)
theorem of_ntK {C' C : Addr} {K : Prop} (h : ntK C' C K) : C' = C ∧ K := by
  unfold ntK at h; split at h
  · rename_i e; exact ⟨Nat.eq_of_beq_eq_true e, h⟩
  · exact h.elim
def typF (C : Addr) : WE := fun X vs σ Q => match vs with
  | [v] => (match v with | .ntup C' _ => ntK C' C (Q (.val (.ref C)) σ) | _ => False)
  | _ => False
def issubF (C : Addr) : WE := fun X vs σ Q => match vs with
  | [v, u] => (match v with | .val w => (match w with | .ref C' => (match u with | .val w' => ntK C' C (w' = .type "tuple" ∧ Q (.bool true) σ) | _ => False) | _ => False) | _ => False)
  | _ => False
def tgetF (C : Addr) : WE := fun X vs σ Q => match vs with
  | [v, u] => (match v with | .ntup C' vs => ntK C' C (ixO vs u fun r => Q r σ) | _ => False)
  | _ => False
def tnewF (C : Addr) : WE := fun X vs σ Q => match vs with
  | [v, u] => (match v with | .val w => (match w with | .ref C' => (match u with | .tup vs => ntK C' C (chk (vs.length ≤ 1000000) (Q (.ntup C vs) σ)) | _ => False) | _ => False) | _ => False)
  | _ => False
theorem typF_ok {C : Addr} (X : Ex) (hX : X.c = c) (ok : XOk X) (vs : List V) (σ : Hp) (Q : V → Hp → Prop) (h : typF C X vs σ Q) : FN X.c X.D (absV (.type "type")) vs [] σ Q := by
  unfold typF at h
  split at h
  · split at h
    · obtain ⟨rfl, h9⟩ := of_ntK h
      exact fn_type h9
    · exact h.elim
  · exact h.elim
theorem issubF_ok {C : Addr} (y : TupCls c.K C) (X : Ex) (hX : X.c = c) (ok : XOk X) (vs : List V) (σ : Hp) (Q : V → Hp → Prop) (h : issubF C X vs σ Q) : FN X.c X.D (absV (.builtin "issubclass")) vs [] σ Q := by
  subst hX
  unfold issubF at h
  split at h
  · split at h
    · split at h
      · split at h
        · obtain ⟨rfl, rfl, h2⟩ := of_ntK h
          exact fn_issub y h2
        · exact h.elim
      · exact h.elim
    · exact h.elim
  · exact h.elim
theorem tgetF_ok {C : Addr} (y : TupCls c.K C) (X : Ex) (hX : X.c = c) (ok : XOk X) (vs : List V) (σ : Hp) (Q : V → Hp → Prop) (h : tgetF C X vs σ Q) : FN X.c X.D (.val (.builtin "tuple.__getitem__")) vs [] σ Q := by
  subst hX
  unfold tgetF at h
  split at h
  · split at h
    · obtain ⟨rfl, h9⟩ := of_ntK h
      obtain ⟨k, v, rfl, h0, h1, h2, h3⟩ := ixO_inv h9
      exact fn_tget y h0 h1 h2 h3
    · exact h.elim
  · exact h.elim
theorem tnewF_ok {C : Addr} (y : TupCls c.K C) (X : Ex) (hX : X.c = c) (ok : XOk X) (vs : List V) (σ : Hp) (Q : V → Hp → Prop) (h : tnewF C X vs σ Q) : FN X.c X.D (.val (.builtin "tuple.__new__")) vs [] σ Q := by
  subst hX
  unfold tnewF at h
  split at h
  · split at h
    · split at h
      · split at h
        · obtain ⟨rfl, h9⟩ := of_ntK h
          exact fn_tupNew y (of_chk h9).1 (of_chk h9).2
        · exact h.elim
      · exact h.elim
    · exact h.elim
  · exact h.elim
-- ATTRIBUTES OF WHAT IS NO OBJECT OF THE CALL'S OWN
/-- an object of the module's own, one of whose attributes is an int -/
def KInst (c : Cx) (name : Str) (e : Addr × Int) : Prop := ∃ ox C od dx t, c.K.lookup e.1 = some ox ∧ ox.cls = .ref C ∧ notCls ox = true ∧ ox.dict = some dx ∧ c.K.lookup dx = some od ∧
  findIn c.K (.ref C) "__getattribute__" = some (some (.builtin "object.__getattribute__")) ∧ findObj c.K C (some od) name = some (.value (.int e.2 t))
def kaGet : List (Addr × Int) → Addr → (Int → Prop) → Prop
  | [], _, _ => False
  | e :: r, a, K => hi (match e.1.beq a with | true => K e.2 | false => kaGet r a K)
theorem kaGet_inv : ∀ {L : List (Addr × Int)} {a : Addr} {K : Int → Prop}, kaGet L a K → ∃ e ∈ L, e.1 = a ∧ K e.2
  | [], _, _, h => h.elim
  | e :: r, a, K, h => by
    unfold kaGet at h
    split at h
    · rename_i q; exact ⟨e, .head _, Nat.eq_of_beq_eq_true q, h⟩
    · obtain ⟨e', m, h1, h2⟩ := kaGet_inv h
      exact ⟨e', .tail _ m, h1, h2⟩
def opKA (L : List (Addr × Int)) (v : V) (σ : Hp) (Q : V → Hp → Prop) : Prop := match v with
  | .val w => (match w with | .ref a => kaGet L a fun n => Q (.int n) σ | _ => False)
  | _ => False
def kattrW (L : List (Addr × Int)) (w : WE) : WE := fun X l σ Q => w X l σ fun v σ₁ => opKA L v σ₁ Q
theorem ce_kattr {o : Expr} {attr : Str} {L : List (Addr × Int)} {w : WE} (hL : ∀ e ∈ L, KInst c attr e) (ho : CE c env ns o w) (he : eval (.Attribute o attr pos) env = (do
      let ov ← eval o env
      standAt pos.atName
      let r ← holding [ov] (getAttr ov attr true)
      letTemporaryGo o ov r
      pure r) := by with_unfolding_all rfl) : CE c env ns (.Attribute o attr pos) (kattrW L w) :=
  fun X ec ok l σ Q hl h1 => by
    subst ec
    refine ev_attr' ((ho X rfl ok l σ _ hl h1).mono fun v σ₁ h2 => ?_) he
    unfold opKA at h2
    split at h2
    · split at h2
      · obtain ⟨e, m, rfl, h3⟩ := kaGet_inv h2
        obtain ⟨ox, C, od, dx, t, k1, k2, k3, k4, k5, k6, k7⟩ := hL e m
        intro A g ρ z s Q' E' w okd R r q
        cases r
        have X' := R.base.X.keeps R.keep
        exact get_value X' ⟨X' _ _ k1, k2, k3, by rw [k4]; exact X' _ _ k5⟩ k6 k7 rfl (q _ _ _ _ _ _ h3 (R.toks _) (Go.toks ..) (.int _ _))
      · exact h2.elim
    · exact h2.elim
/-- an attribute of a class over tuple, through a descriptor with a __get__ of its own -/
def TupAttr (c : Cx) (C g a : Addr) (name : Str) : Prop := TupCls c.K C ∧ findIn c.K (.ref C) "__getattribute__" = some (some (.builtin "tuple.__getattribute__")) ∧
  findObj c.K C (some ⟨.type "dict", none, .dict #[] 0, #[]⟩) name = some (.bind (.ref g) (.ref a)) ∧ findIn c.K (.ref C) "__getattr__" = some none
def opTA (X : Ex) (C g a : Addr) (v : V) (σ : Hp) (Q : V → Hp → Prop) : Prop := match v with
  | .ntup C' vs => ntK C' C (FCd X g [.val (.ref a), .ntup C' vs, .val (.ref C)] σ fun v σ' => hdK v (Q v σ'))
  | _ => False
def tattrW (C g a : Addr) (w : WE) : WE := fun X l σ Q => w X l σ fun v σ₁ => opTA X C g a v σ₁ Q
theorem ce_tattr {o : Expr} {attr : Str} {C gf a : Addr} {w : WE} (hT : TupAttr c C gf a attr) (ho : CE c env ns o w) (he : eval (.Attribute o attr pos) env = (do
      let ov ← eval o env
      standAt pos.atName
      let r ← holding [ov] (getAttr ov attr true)
      letTemporaryGo o ov r
      pure r) := by with_unfolding_all rfl) : CE c env ns (.Attribute o attr pos) (tattrW C gf a w) :=
  fun X ec ok l σ Q hl h1 => by
    subst ec
    refine ev_attr' ((ho X rfl ok l σ _ hl h1).mono fun v σ₁ h2 => ?_) he
    unfold opTA at h2
    split at h2
    · rename_i C' vs
      obtain ⟨rfl, h3⟩ := of_ntK h2
      obtain ⟨D, eD, hf⟩ := of_FCd h3
      rw [eD]
      intro A g ρ z s Q' E' w okd R r q
      have r0 := r
      obtain ⟨x, ws, dx, n, rfl, m1, m2, m3⟩ := ntup_inv r
      have X' := R.base.X.keeps R.keep
      obtain ⟨t0, t1, t2, t3⟩ := hT
      refine get_bindT t0 X' ⟨(R.frz _ m1).1, rfl, rfl, (R.frz _ m2).1⟩ t1 t2 t3 (wpAny_call ?_)
      have R1 := R.toks (s.toks + 1)
      obtain ⟨g1, P, back⟩ := R1.out
      have ok' : Ok A.in1 D := ⟨okd.h, by have := okd.d; show A.depth + 3 * D + 3 < _; omega, by have := okd.u; show A.units + 1 + 20 * D + 20 < _; omega⟩
      refine hf A.in1 g1 ρ z _ _ (.ref gf) [.ref a, .ref x, .ref C'] [] ok' P (.val _) (.cons (.val _) (.cons r0 (.cons (.val _) .nil))) .nil fun v w σ' ρ' z' s' hq P' G' r' => ?_
      obtain ⟨RB, GB⟩ := back _ _ _ _ P' G'
      obtain ⟨hh, hq⟩ := of_hdK hq
      exact handed_on (V.handed_is hh r') (q _ _ _ _ _ _ hq RB ((Go.toks ..).trans GB) r')
    · exact h2.elim
end
end
section
open PySem PySem.W PyProof.Rows PySem.Calls
section
variable {c : Cx} {env : Env} {D : Nat} {l : Loc} {σ : Hp} {Q : Fl → Loc → Hp → Prop}
/-- two names from a written pair: the second is bound first -/
theorem ex_assignS2 {elts : List Expr} {k : Nat} {e : Expr} {p pos : Pos} {x y : Str} (h : EV c env D (eval e env) l σ fun v σ₁ => ∃ a b l1 l2, v = .tup [a, b] ∧ Up y b l l1 ∧ Up x a l1 l2 ∧ Q .next l2 σ₁) (hkx : env.kindOf x = some .local) (hky : env.kindOf y = some .local)
    (hs : swapsWithSole [.Tuple elts k p] e pos.line env = pure false) (hw : swappedStores [.Tuple elts k p] e env = pure (some [x, y])) : EX c env D (exec (.Assign [.Tuple elts k p] e pos) env) l σ Q := by
  intro A g ρ z s Q' E' ok R q
  refine PyProof.Rows.Assign_Tuple_swapped (names := [x, y]) (h A g ρ z s _ _ ok R fun v w σ1 ρ1 z1 s1 h1 R1 G1 r1 => ?_) hs hw
  obtain ⟨a, b, l1, l2, rfl, u1, u2, hq⟩ := h1
  obtain ⟨ta, wa, wb, n, rfl, hm, ra, rb⟩ : ∃ ta wa wb n, w = .ref ta ∧ (ta, tupObj [wa, wb] n) ∈ z1 ∧ VR z1 ρ1 a wa ∧ VR z1 ρ1 b wb := by
    cases r1 with
    | tup hm hl =>
      cases hl with
      | cons ra hl => cases hl with
        | cons rb hl => cases hl; exact ⟨_, _, _, _, rfl, hm, ra, rb⟩
  have hU := @unpackItems_tuple c.prog c.w A E' s1 ta [wa, wb].toArray (fun items s₂ => wpAny c.M A (assignInOrder ([x, y].reverse.map fun n => bindName env n) items.reverse) (fun _ => Q' .next) E' s₂) ok.h (isTup_of (R1.frz _ hm).1)
  refine hU fun h' e => ?_
  obtain ⟨R2, G2⟩ := R1.grown e
  show wpAny c.M A (assignInOrder [bindName env y, bindName env x] [wb, wa]) _ _ _
  refine wpAny_assignInOrder_more (wpAny_bindName (store_local R2 rb hky u1 fun s3 R3 G3 => ?_))
  refine wpAny_assignInOrder_more (wpAny_bindName (store_local R3 ra hkx u2 fun s4 R4 G4 => ?_))
  exact wpAny_assignInOrder_none (q _ _ _ _ _ _ _ hq R4 ((G1.trans G2).trans (G3.trans G4)) .next)
end
section
variable {c : Cx} {env : Env} {ns : List Str} {pos : Pos}
def prK (v : V) (K : V → V → Prop) : Prop := hi (match v with
  | .tup vs => (match vs with | [a, b] => K a b | _ => False)
  | _ => False)
theorem of_prK {v : V} {K : V → V → Prop} (h : prK v K) : ∃ a b, v = .tup [a, b] ∧ K a b := by
  unfold prK at h
  split at h
  · split at h
    · exact ⟨_, _, rfl, h⟩
    · exact h.elim
  · exact h.elim
def asgS2 (i j : Nat) (w : WE) : WX := fun X l σ Q => w X l σ fun v σ₁ => prK v fun a b => updK l j b fun l₁ => updK l₁ i a fun l₂ => Q .next l₂ σ₁
theorem cx_asgS2 {elts : List Expr} {k : Nat} {e : Expr} {p : Pos} {x y : Str} {i j : Nat} {w : WE} (hx : At ns i x) (hy : At ns j y) (h : CE c env ns e w) (hw : swappedStores [.Tuple elts k p] e env = pure (some [x, y])) (hs : swapsWithSole [.Tuple elts k p] e pos.line env = pure false := by (subst_vars; kernel_rfl))
    (hkx : env.kindOf x = some .local := by (subst_vars; kernel_rfl)) (hky : env.kindOf y = some .local := by (subst_vars; kernel_rfl)) : CX c env ns (.Assign [.Tuple elts k p] e pos) (asgS2 i j w) := fun X ec ok l σ Q hl h1 => by
  subst ec
  refine ex_assignS2 ((h X rfl ok l σ _ hl h1).mono fun v σ₁ h2 => ?_) hkx hky hs hw
  obtain ⟨a, b, rfl, h3⟩ := of_prK h2
  obtain ⟨hj, h4⟩ := updK_set h3
  obtain ⟨hi, h5⟩ := updK_set h4
  exact ⟨a, b, ns.zip (l.set j b), ns.zip ((l.set j b).set i a), rfl, zip_up b hy hl, zip_up a hx (by simpa using hl), _, by simpa using hl, rfl, h5⟩
end
end
section
open PySem PySem.W PyProof.Rows PySem.Calls
section
variable {c : Cx} {env : Env} {ns : List Str} {pos : Pos}
/-- a target that lives in a cell -/
def asgCA (i : Nat) : WA := fun X v l σ Q => match nth l i with
  | .cell j => getO σ j fun o => (∃ u, o = .cell u) ∧ Q l (σ.set j (.cell v))
  | _ => False
theorem ca_cell {x : Str} {i : Nat} (hx : At ns i x) (hk : env.kindOf x = some .cell := by (subst_vars; kernel_rfl)) : CAs c env ns (.Name x pos) (asgCA i) := fun X ec ok v l σ Q hl h1 => by
  subst ec
  have hm := zip_nth hx hl
  unfold asgCA at h1
  split at h1
  · rename_i j e
    rw [e] at hm
    obtain ⟨o, ho, ⟨u, rfl⟩, h3⟩ := of_getO h1
    intro A g ρ z s Q' E' w okA R r q
    exact wpAny_assign_Name (store_cell R r hm ho hk fun s' R' G' => q _ _ _ _ _ ⟨l, hl, rfl, h3⟩ R' G')
  · exact h1.elim
/-- all(x in signs for x in data), signs in a cell -/
def allC (i : Nat) (wi : WE) : WE := fun X l σ Q => match nth l i with
  | .cell j => getO σ j fun o => ∃ signs, o = .cell (.bytes signs) ∧ wi X l σ fun v σ₁ => σ₁ = σ ∧ allB signs v σ₁ Q
  | _ => False
theorem ce_allC {iter : Expr} {x y : Str} {p1 p2 p3 px gpos p0 : Pos} {scope : Scope} {cc P : Addr} {wi : WE} {i : Nat} {cl : List (Str × Addr)}
    (e0 : nsIn c.K mainGlobals "all" = some none) (hy0 : At ns i y) (hi : CE c env ns iter wi)
    (hgi : ∃ ps, ∀ a, c.gi a ↔ PIN ps a) (hcode : env.code = .ref cc) (htt : (cc, P) ∈ c.tt) (hu : ∀ t ∈ c.tt, t.2 = P → t = (cc, P))
    (hclos : closureFor scope env = pure cl) (hcell : ∀ y ∈ scope.names, y.2 ≠ .cell) (h0 : scope.names.lookup (".0" : Str) = some NameKind.local) (hx : scope.names.lookup x = some .local) (hy : scope.names.lookup y = some .free) (hcl : cl.lookup y = env.cells.lookup y)
    (hco : scope.isCoroutine = false) (hkind : scope.kind = .function) (hdx : (x == ("__debug__" : Str)) = false) (hdy : (y == ("__debug__" : Str)) = false) (hdc : (y == ("__classdict__" : Str)) = false) (hk0 : env.kindOf ("all" : Str) = some .globalImplicit) (hs : ∀ y, genFold iter env y = pure y) :
    CE c env ns (.Call (.Name ("all" : Str) p0) [.GeneratorExp (.Compare (.Name x p1) [.In] [.Name y p2] p3) [⟨.Name x px, iter, [], 0⟩] scope gpos] [] pos) (allC i wi) := fun X ec ok l σ Q hl h1 => by
  subst ec
  unfold allC at h1
  cases hn : nth l i with
  | cell j =>
    rw [hn] at h1
    have hm := zip_nth hy0 hl
    rw [hn] at hm
    obtain ⟨o, ho, signs, rfl, h2⟩ := of_getO h1
    refine ev_all (fun o => signs.contains o) hgi hcode htt hu hco hclos hcell h0 hx hkind (ev_bltn e0 Boot.all ⟨rfl, rfl⟩ hk0) ((hi X rfl ok l σ _ hl h2).mono fun v σ₁ h3 => ?_) hs
    obtain ⟨rfl, h4⟩ := h3
    unfold allB at h4
    split at h4
    · rename_i data
      refine ⟨data, rfl, hel_cell hkind hx hy hm ho hcl hdx hdy hdc, ?_⟩
      simpa using h4
    · exact h4.elim
  | _ => rw [hn] at h1; exact h1.elim
/-- minus an int -/
theorem ev_neg {D : Nat} {l : Loc} {σ : Hp} {Q : V → Hp → Prop} {x : Expr} (h : EV c env D (eval x env) l σ fun v σ₁ => ∃ i, v = .int i ∧ Q (.int (-i)) σ₁) : EV c env D (eval (.UnaryOp .USub x pos) env) l σ Q := by
  intro A g ρ z s Q' E' ok R q
  refine UnaryOp_ (h A g ρ z s _ _ ok R fun va wa σ1 ρ1 z1 s1 h1 R1 G1 r1 => ?_)
  obtain ⟨i, rfl, h2⟩ := h1
  cases r1
  exact PyProof.Rows.neg_int (q _ _ _ _ _ _ h2 (R1.toks _) (G1.trans (Go.toks ..)) (.int _ _))
def negV (v : V) (K : V → Prop) : Prop := hi (match v with
  | .int i => K (.int (-i))
  | _ => False)
def negW (w : WE) : WE := fun X l σ Q => w X l σ fun v σ₁ => negV v fun u => Q u σ₁
theorem ce_neg {x : Expr} {w : WE} (h : CE c env ns x w) : CE c env ns (.UnaryOp .USub x pos) (negW w) := fun X ec ok l σ Q hl h1 => by
  subst ec
  refine ev_neg ((h X rfl ok l σ _ hl h1).mono fun v σ₁ h2 => ?_)
  unfold negV at h2
  split at h2
  · exact ⟨_, rfl, h2⟩
  · exact h2.elim
theorem sh5 {fd : FuncData} {x1 x2 x3 x4 x5 : Str} (h : ∀ a1 a2 a3 a4 a5, bindArgs fd ⟨[a1, a2, a3, a4, a5], []⟩ = pure [(x1, a1), (x2, a2), (x3, a3), (x4, a4), (x5, a5)]) : ∀ args kw vals, shP 5 args kw vals → BindA c fd args kw ([x1, x2, x3, x4, x5].zip vals) ∧ vals.length = [x1, x2, x3, x4, x5].length := by
  rintro args kw vals ⟨rfl, e, hn⟩
  subst e
  match vals, hn with
  | [a, b, d, e, f], _ =>
    refine ⟨?_, rfl⟩
    intro z ρ ws kws s X rl rk
    cases rk
    cases rl with
    | cons r1 rl => cases rl with
      | cons r2 rl => cases rl with
        | cons r3 rl => cases rl with
          | cons r4 rl => cases rl with
            | cons r5 rl => cases rl; exact ⟨_, BindsTo.of_eq (h _ _ _ _ _), rfl, .cons r1 (.cons r2 (.cons r3 (.cons r4 (.cons r5 .nil))))⟩
end
end
section
open PySem PySem.W PyProof.Rows PySem.Calls
theorem setItem_slice {prog : Program} {w : World} {A : Around} {E : Value → Shared → Prop} {s : Shared} {l sl b : Addr} {items new : Array Value} {nb : Nat} {vl vu : Value} {lo hi : Option Int} {Q : Unit → Shared → Prop} (hp : s.heap.PlainList l items)
    (hs : s.heap.IsSliceOf sl vl vu .none) (pl : IsPart vl lo) (pu : IsPart vu hi) (hb : s.heap.get? b = some (listOf new nb)) (hne : l ≠ b) (hsz : items.size + new.size ≤ 1000000)
    (hQ : ∀ h', h'.PlainList l (items.extract 0 (sliceBounds lo hi none items.size).1.toNat ++ new ++ items.extract (max (sliceBounds lo hi none items.size).1 (sliceBounds lo hi none items.size).2.1).toNat items.size) → Heap.SameBut l s.heap h' → Q () { s with heap := h' }) :
    wpAny (model prog w) A (setItem (.ref l) (.ref sl) (.ref b)) Q E s := by
  have hl := hp.isList
  obtain ⟨n, ho⟩ := hp
  obtain ⟨os, hos, hcs, hds⟩ := id hs
  have hTs : s.TypeIs (.ref sl) "slice" := ⟨os, hos, hcs⟩
  have hTb : s.TypeIs (.ref b) "list" := ⟨_, hb, rfl⟩
  unfold setItem
  try with_reducible refine wpAny_holding ?_
  first | refine wpAny_bind (wpAny_pure ?_) | skip
  refine wpAny_bind (wpAny_sequenceKey hl.typeIs (by decide) ?_)
  refine wpAny_bind (wpAny_callSpecial?_slot (name := Str.ofString "__setitem__") hl.typeIs slot_list_setitem
    (wpAny_call_entry slot_list_setitem hl.typeIs entry_list_setitem ?_ (args_list_setitem _ _ _)))
  show wpAny _ _ (Builtin.List.listSubscript? (.ref sl) >>= _) _ _ s
  refine wpAny_bind ?_
  unfold Builtin.List.listSubscript?
  refine wpAny_bind (wpAny_specialOf hTs slice_no_index ?_)
  simp only [Option.isNone_none, if_true]
  refine wpAny_pure ?_
  show wpAny _ _ (typeOf (.ref sl) >>= _) _ _ s
  refine wpAny_bind (wpAny_typeOf hTs ?_)
  rw [if_neg (by decide)]
  rw [listSliceParts_eq]
  refine wpAny_bind (wpAny_bind (wpAny_field hos hds (x := Value.none) rfl (wpAny_bind (wpAny_listPart .none ?_))))
  rw [if_neg (by decide)]
  refine wpAny_bind (wpAny_field hos hds (x := vl) rfl (wpAny_bind (wpAny_listPart pl ?_)))
  refine wpAny_bind (wpAny_field hos hds (x := vu) rfl (wpAny_bind (wpAny_listPart pu (wpAny_pure ?_))))
  have hsame : ¬ (Builtin.List.listSameRef (.ref l) (.ref b) = true) := by
    show ¬ ((l == b) = true)
    intro h; exact hne (by simpa using h)
  rw [if_neg hsame]
  refine wpAny_bind (m := Builtin.List.listAllItems (.ref b) _) ?_
  unfold Builtin.List.listAllItems
  refine wpAny_bind (wpAny_typeOf hTb ?_)
  rw [if_pos (by decide)]
  unfold Builtin.List.listItems
  refine wpAny_bind (wpAny_seqItems hb rfl (wpAny_pure ?_))
  refine wpAny_bind (wpAny_bind (wpAny_seqItems ho rfl (wpAny_pure ?_)))
  refine wpAny_bind (wpAny_of_eq (sliceIndices_raw lo hi none items.size (by simp)) ?_)
  rw [if_pos (by rfl)]
  refine wpAny_bind (wpAny_rule ?_)
  have hlong : ¬ (Builtin.List.listTooLong (items.size + new.size) = true) := by
    unfold Builtin.List.listTooLong sizeLine
    intro h
    have := of_decide_eq_true h
    omega
  rw [if_neg hlong]
  refine wpAny_bind (m := Builtin.List.listUpdate (.ref l) _) ?_
  refine wpAny_updateSeq ho rfl ?_ (by rw [sizeLine_eq]; omega) (by
    simp only [Array.size_append, Array.size_extract]; rw [sizeLine_eq]; omega)
  refine wpAny_bind (wpAny_letGo (wpAny_pure ⟨.none, rfl, wpAny_pure (hQ _ ?_ (Heap.SameBut.update ..))⟩))
  exact ⟨_, Heap.get?_update_self _ ho rfl⟩
theorem sb_nat {x y n : Nat} (hx : x ≤ n) (hy : y ≤ n) : sliceBounds (some (x : Int)) (some (y : Int)) none n = ((x : Int), (y : Int), 1) := by
  unfold sliceBounds
  simp only [Option.getD_none]
  have h1 : ¬ ((x : Int) < 0) := by omega
  have h2 : ¬ ((y : Int) < 0) := by omega
  simp only [h1, h2, if_false, show ((1 : Int) > 0) = True from by simp, if_true]
  have e1 : max 0 (min (x : Int) (n : Int)) = (x : Int) := by omega
  have e2 : max 0 (min (y : Int) (n : Int)) = (y : Int) := by omega
  rw [e1, e2]
theorem SR.memL {z : Led} {R : List Addr} : ∀ {σ r led}, SR z R σ r led → ∀ {j : Nat} {ws : List V} {a : Addr}, σ[j]? = some (.list ws) → r[j]? = some a → a ∈ led.map (·.1)
  | _, _, _, .cons h l, 0, ws, a, e, e' => by
    cases e; cases e'
    obtain ⟨w, n, rfl, _⟩ := h.list_inv
    simp
  | _, _, _, .cons h l, j + 1, ws, a, e, e' => by
    have := l.memL (j := j) e e'
    rw [List.map_append]; exact List.mem_append_right _ this
theorem SR.injL {z : Led} {R : List Addr} : ∀ {σ r led}, SR z R σ r led → (led.map (·.1)).Nodup → ∀ {i j : Nat} {vs ws : List V} {a : Addr}, σ[i]? = some (.list vs) → σ[j]? = some (.list ws) → r[i]? = some a → r[j]? = some a → i = j
  | _, _, _, .nil, _, i, j, vs, ws, a, e, _, _, _ => by simp at e
  | _, _, _, .cons h l, nd, 0, 0, vs, ws, a, _, _, _, _ => rfl
  | _, _, _, .cons h l, nd, 0, j + 1, vs, ws, a, e1, e2, e3, e4 => by
    cases e1; cases e3
    obtain ⟨w, n, rfl, _⟩ := h.list_inv
    have := l.memL (j := j) e2 e4
    rw [List.map_append, List.nodup_append] at nd
    exact absurd rfl (nd.2.2 _ (by simp) _ this)
  | _, _, _, .cons h l, nd, i + 1, 0, vs, ws, a, e1, e2, e3, e4 => by
    cases e2; cases e4
    obtain ⟨w, n, rfl, _⟩ := h.list_inv
    have := l.memL (j := i) e1 e3
    rw [List.map_append, List.nodup_append] at nd
    exact absurd rfl (nd.2.2 _ (by simp) _ this)
  | _, _, _, .cons h l, nd, i + 1, j + 1, vs, ws, a, e1, e2, e3, e4 => by
    rw [List.map_append, List.nodup_append] at nd
    exact congrArg (· + 1) (l.injL nd.2.1 (i := i) (j := j) e1 e2 e3 e4)
section
variable {c : Cx} {env : Env} {D : Nat} {l : Loc} {σ : Hp}
/-- o[lo:hi] = e, lists of the call's own -/
theorem ex_subS {o e elo ehi : Expr} {sp p pos : Pos} {Q : Fl → Loc → Hp → Prop} (h : EV c env D (eval e env) l σ fun v σ₁ => EV c env D (eval o env) l σ₁ fun ov σ₂ => EV c env D (eval elo env) l σ₂ fun a σ₃ => EV c env D (eval ehi env) l σ₃ fun b σ₄ =>
      ∃ i j vs new x y, v = .ref j ∧ ov = .ref i ∧ a = .int ((x : Nat) : Int) ∧ b = .int ((y : Nat) : Int) ∧ i ≠ j ∧ σ₄[i]? = some (.list vs) ∧ σ₄[j]? = some (.list new) ∧ x ≤ y ∧ y ≤ vs.length ∧ vs.length + new.length ≤ 1000000 ∧ Q .next l (σ₄.set i (.list (vs.take x ++ new ++ vs.drop y))))
    (hs : swapsWith e (some (.Subscript o (.Slice (some elo) (some ehi) none sp) p)) pos.line env = pure false) : EX c env D (exec (.Assign [.Subscript o (.Slice (some elo) (some ehi) none sp) p] e pos) env) l σ Q := by
  intro A g ρ z s Q' E' ok R q
  refine wpAny_Assign_Subscript (h A g ρ z s _ _ ok R fun v w σ1 ρ1 z1 s1 h1 R1 G1 r1 => ?_) hs
  refine h1 A g ρ1 z1 s1 _ _ ok R1 fun ov ow σ2 ρ2 z2 s2 h2 R2 G2 r2 => ?_
  refine wpAny_Slice (h2 A g ρ2 z2 s2 _ _ ok R2 fun a wa σ3 ρ3 z3 s3 h3 R3 G3 r3 => ?_)
  refine h3 A g ρ3 z3 s3 _ _ ok R3 fun b wb σ4 ρ4 z4 s4 h4 R4 G4 r4 => ?_
  obtain ⟨i, j, vs, new, x, y, rfl, rfl, rfl, rfl, hij, hi, hj, hxy, hy, hz, hq⟩ := h4
  rw [evalPart_none]
  refine wpAny_pure ?_
  have r1' := ((r1.mono G2.toExt).mono G3.toExt).mono G4.toExt
  have r2' := (r2.mono G3.toExt).mono G4.toExt
  have r3' := r3.mono G4.toExt
  cases r3' with
  | int _ ta =>
  cases r4 with
  | int _ tb =>
  cases r1' with
  | ref hrj =>
  rename_i aj
  cases r2' with
  | ref hri =>
  rename_i ai
  have R5 := R4.junk { cls := .type "slice", data := .fields #[.int (x : Int) ta, .int (y : Int) tb, .none] }
  have hsl := Heap.IsSliceOf.new s4.heap (.int (x : Int) ta) (.int (y : Int) tb) .none
  obtain ⟨ws, n, e1, e2, e3, e4⟩ := R5.toRp.list hi hri
  obtain ⟨wn, n', f1, f2, f3, f4⟩ := R5.toRp.list hj hrj
  have hne : ai ≠ aj := fun e => by
    subst e
    exact hij (by
      obtain ⟨led, sr, nd, d⟩ := R5.own
      exact sr.injL nd hi hj hri hrj)
  have lw : ws.length = vs.length := e2.length.symm
  have ln : wn.length = new.length := f2.length.symm
  refine setItem_slice (hp := ⟨n, e1⟩) hsl (.int _ _) (.int _ _) f1 hne (by rw [List.size_toArray, List.size_toArray]; omega) fun h' hp' hs' => ?_
  rw [List.size_toArray, sb_nat (by omega) (by omega)] at hp'
  obtain ⟨n2, hp'⟩ := hp'
  have e5 : (ws.toArray.extract 0 ((x : Int)).toNat ++ wn.toArray ++ ws.toArray.extract (max (x : Int) (y : Int)).toNat ws.length) = (ws.take x ++ wn ++ ws.drop y).toArray := by
    have : (max (x : Int) (y : Int)).toNat = y := by omega
    rw [this, Int.toNat_natCast]
    apply Array.toList_inj.mp
    simp [List.take_of_length_le]
  dsimp only at hp'
  rw [e5] at hp'
  obtain ⟨P6, G6⟩ := R5.toRp.setList (s' := { s4 with heap := h' }) (ws' := ws.take x ++ wn ++ ws.drop y) (vs' := vs.take x ++ new ++ vs.drop y) hi hri hs' ⟨n2, hp'⟩ (((e2.take x).append f2).append (e2.drop y))
  refine q _ _ _ _ _ _ _ hq (R5.mk' P6 G6.toExt fun m hm => hm.at' fun o e => (hs'.2 _ fun e' => e3 (by simp [← e'])).trans e) ((((G1.trans G2).trans G3).trans G4).trans ((Go.same _ _ _ _ _ fun _ _ e => Heap.get?_push_of_some _ e).trans G6)) .next
end
end
section
open PySem PySem.W PyProof.Rows PySem.Calls
/-- pairs of an int and octets -/
def pairsV (ps : List (Int × List UInt8)) : List V := ps.map fun p => .tup [.int p.1, .bytes p.2]
theorem eqAt_bytes {A : Around} {s : Shared} (b c : List UInt8) (t u : Tok) : SeqAt.EqAt A s (.bytes b.toArray t) (.bytes c.toArray u) (b == c) := fun prog w E Q h => by
  unfold eqBool
  refine wpAny_holding ?_
  refine wpAny_ite_split (fun hab => ?_) (fun _ => ?_)
  · have e := eq_of_beq hab
    injection e with e1 e2
    have : b = c := by simpa using congrArg Array.toList e1
    subst this
    exact wpAny_bind (wpAny_rule (wpAny_pure (by simpa using h)))
  · refine wpAny_bind ?_
    show wpAny (model prog w) A (compareOp .Eq (.bytes b.toArray t) (.bytes c.toArray u)) _ E s
    exact PySem.W.eq_bytes (wpAny_truthy_bool (by simpa using h))
theorem eqAt_pair {A : Around} {s : Shared} {z : Led} {ρ : List Addr} {a b : Int} {x y : List UInt8} {w w' : Value} (hz : ∀ q ∈ z, s.heap.get? q.1 = some q.2) (hu : A.units < cLine) (h1 : VR z ρ (.tup [.int a, .bytes x]) w) (h2 : VR z ρ (.tup [.int b, .bytes y]) w') :
    SeqAt.EqAt A s w w' (a == b && x == y) := by
  cases h1 with
  | tup m1 l1 =>
  cases h2 with
  | tup m2 l2 =>
  rename_i ws1 t1 n1 ws2 t2 n2
  cases l1 with
  | cons p1 l1 => cases l1 with
    | cons p2 l1 =>
      cases l1; cases p1; cases p2
      cases l2 with
      | cons q1 l2 => cases l2 with
        | cons q2 l2 =>
          cases l2; cases q1; cases q2
          have e1 := hz _ m1
          have e2 := hz _ m2
          by_cases ht : t1 = t2
          · subst ht
            have e := Option.some.inj (e1.symm.trans e2)
            simp only [tupObj, Obj.mk.injEq, Data.seq.injEq] at e
            have e3 := congrArg Array.toList e.2.2.1.1
            simp only [List.cons.injEq, Value.int.injEq, Value.bytes.injEq] at e3
            have ea : a = b := e3.1.1
            have ex : x = y := by simpa using congrArg Array.toList e3.2.1.1
            have := SeqAt.EqAt.same (A := A) (s := s) (.ref t1)
            subst ea ex
            simpa using this
          · rename_i tk1 tk2 tk3 tk4
            refine SeqAt.EqAt.of_refs ht ?_
            have := SeqAt.RcAt.tuples (A := A) (s := s) (items := #[.int a tk1, .bytes x.toArray tk2]) (items2 := #[.int b tk3, .bytes y.toArray tk4]) (e := fun j => if j = 0 then a == b else x == y) ⟨_, e1, rfl, _, rfl⟩ ⟨_, e2, rfl, _, rfl⟩ hu (fun j h1 h2 => by
              match j, h1 with
              | 0, _ => exact SeqAt.EqAt.int_int _ _ _ _
              | 1, _ => exact eqAt_bytes _ _ _ _)
            have er : ((List.range (min (2 : Nat) 2)).all (fun j => if j = 0 then a == b else x == y) && (2 : Nat) == 2) = (a == b && x == y) := by
              simp [List.range_succ]
            rw [← er]
            exact this
theorem pairs_eq {ps qs : List (Int × List UInt8)} (hl : ps.length = qs.length) : ((List.range ps.length).all fun j => match ps[j]?, qs[j]? with | some p, some q => p.1 == q.1 && p.2 == q.2 | _, _ => true) = decide (ps = qs) := by
  rw [Bool.eq_iff_iff, decide_eq_true_iff, List.all_eq_true]
  constructor
  · intro h
    apply List.ext_getElem hl
    intro j h1 h2
    have := h j (List.mem_range.mpr h1)
    rw [List.getElem?_eq_getElem h1, List.getElem?_eq_getElem h2] at this
    simp only [Bool.and_eq_true, beq_iff_eq] at this
    exact Prod.ext this.1 this.2
  · rintro rfl j hj
    rw [List.getElem?_eq_getElem (List.mem_range.mp hj)]
    simp
theorem vrl_pairs {z : Led} {ρ : List Addr} {ps : List (Int × List UInt8)} {ws : List Value} (h : VRL z ρ (pairsV ps) ws) : ps.length = ws.length ∧ ∀ (j : Nat) (p : Int × List UInt8) (w : Value), ps[j]? = some p → ws[j]? = some w → VR z ρ (.tup [.int p.1, .bytes p.2]) w := by
  refine ⟨by have := h.length; simpa [pairsV] using this, fun j p w hp hw => ?_⟩
  obtain ⟨w', e, r⟩ := h.get (i := j) (v := .tup [.int p.1, .bytes p.2]) (by simp [pairsV, hp])
  rw [hw] at e; cases e; exact r
section
variable {c : Cx} {env : Env} {D : Nat} {l : Loc} {σ : Hp}
theorem lists_at {A : Around} {s : Shared} {z : Led} {ρ : List Addr} {ps qs : List (Int × List UInt8)} {ws us : List Value} (hz : ∀ q ∈ z, s.heap.get? q.1 = some q.2) (hu : A.units < cLine) (h1 : VRL z ρ (pairsV ps) ws) (h2 : VRL z ρ (pairsV qs) us) (hl : ps.length = qs.length) :
    ∀ j (h1 : j < ws.toArray.size) (h2 : j < us.toArray.size), SeqAt.EqAt A s ws.toArray[j] us.toArray[j] (match ps[j]?, qs[j]? with | some p, some q => p.1 == q.1 && p.2 == q.2 | _, _ => true) := by
  intro j k1 k2
  obtain ⟨e1, g1⟩ := vrl_pairs h1
  obtain ⟨e2, g2⟩ := vrl_pairs h2
  have k1' : j < ws.length := by simpa using k1
  have k2' : j < us.length := by simpa using k2
  have p1 : j < ps.length := by omega
  have p2 : j < qs.length := by omega
  rw [List.getElem?_eq_getElem p1, List.getElem?_eq_getElem p2]
  have r1 := g1 j ps[j] ws[j] (List.getElem?_eq_getElem p1) (List.getElem?_eq_getElem k1')
  have r2 := g2 j qs[j] us[j] (List.getElem?_eq_getElem p2) (List.getElem?_eq_getElem k2')
  simpa using eqAt_pair hz hu r1 r2
/-- == and != of two lists of the call's own that hold pairs -/
theorem ev_eqL {i j : Nat} {ps qs : List (Int × List UInt8)} {Q : V → Hp → Prop} (hi : σ[i]? = some (.list (pairsV ps))) (hj : σ[j]? = some (.list (pairsV qs))) (h : Q (.bool (decide (ps = qs))) σ) : EV2 c env D (.ref i) (.ref j) (compareOp .Eq) l σ Q := by
  intro A g ρ z s Q' E' w₁ w₂ ok R r₁ r₂ q
  cases r₁ with
  | ref h1 => cases r₂ with
    | ref h2 =>
      obtain ⟨ws, n, e1, e2, _⟩ := R.toRp.list hi h1
      obtain ⟨us, m, f1, f2, _⟩ := R.toRp.list hj h2
      have hz : ∀ q ∈ z, s.heap.get? q.1 = some q.2 := fun q hq => (R.frz q hq).1
      have hu : A.units < cLine := by have := ok.u; omega
      have hu1 : A.in1.units < cLine := by have := ok.u; show A.units + 1 < _; omega
      have l1 := (vrl_pairs e2).1
      have l2 := (vrl_pairs f2).1
      by_cases hl : ps.length = qs.length
      · refine SeqAt.eq_listAt (isList_of e1) (isList_of f1) (by simp; omega) hu (lists_at hz hu1 e2 f2 hl) ?_
        have : (List.range ws.toArray.size) = List.range ps.length := by rw [List.size_toArray, l1]
        rw [this, pairs_eq hl]
        exact q _ _ _ _ _ _ h R (Go.refl ..) (.bool _)
      · have hne : ps ≠ qs := fun e => hl (by rw [e])
        rw [decide_eq_false hne] at h
        exact SeqAt.eq_list_lengthsAt (isList_of e1) (isList_of f1) (by simp; omega) hu (q _ _ _ _ _ _ h R (Go.refl ..) (.bool _))
theorem ev_neL {i j : Nat} {ps qs : List (Int × List UInt8)} {Q : V → Hp → Prop} (hi : σ[i]? = some (.list (pairsV ps))) (hj : σ[j]? = some (.list (pairsV qs))) (h : Q (.bool (!decide (ps = qs))) σ) : EV2 c env D (.ref i) (.ref j) (compareOp .NotEq) l σ Q := by
  intro A g ρ z s Q' E' w₁ w₂ ok R r₁ r₂ q
  cases r₁ with
  | ref h1 => cases r₂ with
    | ref h2 =>
      obtain ⟨ws, n, e1, e2, _⟩ := R.toRp.list hi h1
      obtain ⟨us, m, f1, f2, _⟩ := R.toRp.list hj h2
      have hz : ∀ q ∈ z, s.heap.get? q.1 = some q.2 := fun q hq => (R.frz q hq).1
      have hu : A.units < cLine := by have := ok.u; omega
      have hu1 : A.in1.units < cLine := by have := ok.u; show A.units + 1 < _; omega
      have l1 := (vrl_pairs e2).1
      have l2 := (vrl_pairs f2).1
      by_cases hl : ps.length = qs.length
      · have key := SeqAt.RcNeAt.lists (A := A) (s := s) (isList_of e1) (isList_of f1) (by simp; omega) hu (lists_at hz hu1 e2 f2 hl)
        have : (List.range ws.toArray.size) = List.range ps.length := by rw [List.size_toArray, l1]
        rw [this, pairs_eq hl] at key
        exact key c.prog c.w E' Q' (q _ _ _ _ _ _ h R (Go.refl ..) (.bool _))
      · have hne : ps ≠ qs := fun e => hl (by rw [e])
        rw [decide_eq_false hne] at h
        exact SeqAt.RcNeAt.lists_lengths (A := A) (s := s) (isList_of e1) (isList_of f1) (by simp; omega) hu c.prog c.w E' Q' (q _ _ _ _ _ _ h R (Go.refl ..) (.bool _))
end
theorem all_get {n : Nat} {e : Nat → Bool} : (List.range n).all e = true ↔ ∀ j, j < n → e j = true := by simp
end
section
open PySem PySem.W PyProof.Rows PySem.Calls
theorem ev_eqE {c : Cx} {env : Env} {D : Nat} {l : Loc} {σ : Hp} {i j : Nat} {xs : List V} {Q : V → Hp → Prop} (hi : σ[i]? = some (.list xs)) (hj : σ[j]? = some (.list [])) (h : Q (.bool xs.isEmpty) σ) : EV2 c env D (.ref i) (.ref j) (compareOp .Eq) l σ Q := by
  intro A g ρ z s Q' E' w₁ w₂ ok R r₁ r₂ q
  cases r₁ with
  | ref h1 => cases r₂ with
    | ref h2 =>
      obtain ⟨ws, n, e1, e2, _⟩ := R.toRp.list hi h1
      obtain ⟨us, m, f1, f2, _⟩ := R.toRp.list hj h2
      have hu : A.units < cLine := by have := ok.u; omega
      have l1 := e2.length
      have l2 := f2.length
      cases xs with
      | nil =>
        refine SeqAt.eq_listAt (e := fun _ => true) (isList_of e1) (isList_of f1) (by simp at l1 l2 ⊢; omega) hu (fun k k1 _ => by simp at l1 k1; omega) ?_
        have : (List.range ws.toArray.size).all (fun _ => true) = true := by simp
        rw [this]
        exact q _ _ _ _ _ _ h R (Go.refl ..) (.bool _)
      | cons x xs =>
        exact SeqAt.eq_list_lengthsAt (isList_of e1) (isList_of f1) (by simp at l1 l2 ⊢; omega) hu (q _ _ _ _ _ _ h R (Go.refl ..) (.bool _))
theorem ev_neE {c : Cx} {env : Env} {D : Nat} {l : Loc} {σ : Hp} {i j : Nat} {xs : List V} {Q : V → Hp → Prop} (hi : σ[i]? = some (.list xs)) (hj : σ[j]? = some (.list [])) (h : Q (.bool (!xs.isEmpty)) σ) : EV2 c env D (.ref i) (.ref j) (compareOp .NotEq) l σ Q := by
  intro A g ρ z s Q' E' w₁ w₂ ok R r₁ r₂ q
  cases r₁ with
  | ref h1 => cases r₂ with
    | ref h2 =>
      obtain ⟨ws, n, e1, e2, _⟩ := R.toRp.list hi h1
      obtain ⟨us, m, f1, f2, _⟩ := R.toRp.list hj h2
      have hu : A.units < cLine := by have := ok.u; omega
      have l1 := e2.length
      have l2 := f2.length
      cases xs with
      | nil =>
        have key := SeqAt.RcNeAt.lists (A := A) (s := s) (e := fun _ => true) (isList_of e1) (isList_of f1) (by simp at l1 l2 ⊢; omega) hu (fun k k1 _ => by simp at l1 k1; omega)
        have : (List.range ws.toArray.size).all (fun _ => true) = true := by simp
        rw [this] at key
        exact key c.prog c.w E' Q' (q _ _ _ _ _ _ h R (Go.refl ..) (.bool _))
      | cons x xs =>
        exact SeqAt.RcNeAt.lists_lengths (A := A) (s := s) (isList_of e1) (isList_of f1) (by simp at l1 l2 ⊢; omega) hu c.prog c.w E' Q' (q _ _ _ _ _ _ h R (Go.refl ..) (.bool _))
/-- what a walk stops at where two lists are compared -/
@[irreducible] def lcmp (op : CmpOp) (va vb : V) (σ : Hp) (K : Bool → Prop) : Prop := (op = .Eq ∨ op = .NotEq) ∧ ∃ i j b, va = .ref i ∧ vb = .ref j ∧ K (if op = .NotEq then !b else b) ∧
  ((∃ ps qs, σ[i]? = some (.list (pairsV ps)) ∧ σ[j]? = some (.list (pairsV qs)) ∧ b = decide (ps = qs)) ∨ ∃ xs, σ[i]? = some (.list xs) ∧ σ[j]? = some (.list []) ∧ b = xs.isEmpty)
theorem lcmp_eq {i j : Nat} {σ : Hp} {K : Bool → Prop} {ps qs : List (Int × List UInt8)} (hi : σ[i]? = some (.list (pairsV ps))) (hj : σ[j]? = some (.list (pairsV qs))) (h : K (decide (ps = qs))) : lcmp .Eq (.ref i) (.ref j) σ K := by
  unfold lcmp; exact ⟨.inl rfl, i, j, _, rfl, rfl, h, .inl ⟨ps, qs, hi, hj, rfl⟩⟩
theorem lcmp_ne {i j : Nat} {σ : Hp} {K : Bool → Prop} {ps qs : List (Int × List UInt8)} (hi : σ[i]? = some (.list (pairsV ps))) (hj : σ[j]? = some (.list (pairsV qs))) (h : K (!decide (ps = qs))) : lcmp .NotEq (.ref i) (.ref j) σ K := by
  unfold lcmp; exact ⟨.inr rfl, i, j, _, rfl, rfl, h, .inl ⟨ps, qs, hi, hj, rfl⟩⟩
theorem lcmp_eq0 {i j : Nat} {σ : Hp} {K : Bool → Prop} {xs : List V} (hi : σ[i]? = some (.list xs)) (hj : σ[j]? = some (.list [])) (h : K xs.isEmpty) : lcmp .Eq (.ref i) (.ref j) σ K := by
  unfold lcmp; exact ⟨.inl rfl, i, j, _, rfl, rfl, h, .inr ⟨xs, hi, hj, rfl⟩⟩
theorem lcmp_ne0 {i j : Nat} {σ : Hp} {K : Bool → Prop} {xs : List V} (hi : σ[i]? = some (.list xs)) (hj : σ[j]? = some (.list [])) (h : K (!xs.isEmpty)) : lcmp .NotEq (.ref i) (.ref j) σ K := by
  unfold lcmp; exact ⟨.inr rfl, i, j, _, rfl, rfl, h, .inr ⟨xs, hi, hj, rfl⟩⟩
theorem lcmp_ok {c : Cx} {env : Env} {D : Nat} {l : Loc} {σ : Hp} {op : CmpOp} {a b : V} {Q : V → Hp → Prop} (h : lcmp op a b σ fun r => Q (.bool r) σ) : EV2 c env D a b (compareOp op) l σ Q := by
  unfold lcmp at h
  obtain ⟨ho, i, j, b, rfl, rfl, hk, h⟩ := h
  rcases ho with rfl | rfl
  · rcases h with ⟨ps, qs, h1, h2, rfl⟩ | ⟨xs, h1, h2, rfl⟩
    · exact ev_eqL h1 h2 (by simpa using hk)
    · exact ev_eqE h1 h2 (by simpa using hk)
  · rcases h with ⟨ps, qs, h1, h2, rfl⟩ | ⟨xs, h1, h2, rfl⟩
    · exact ev_neL h1 h2 (by simpa using hk)
    · exact ev_neE h1 h2 (by simpa using hk)
section
variable {c : Cx} {env : Env} {ns : List Str} {pos : Pos}
def lcmpW (op : CmpOp) (wa wb : WE) : WE := fun X l σ Q => wa X l σ fun va σ₁ => wb X l σ₁ fun vb σ₂ => lcmp op va vb σ₂ fun r => Q (.bool r) σ₂
def lcmpB (op : CmpOp) (wa wb : WE) : WB := fun X l σ Q => wa X l σ fun va σ₁ => wb X l σ₁ fun vb σ₂ => lcmp op va vb σ₂ fun r => Q r σ₂
theorem ce_lcmp {a b : Expr} {op : CmpOp} {wa wb : WE} (ha : CE c env ns a wa) (hb : CE c env ns b wb) (hm : behindInMarks op b = false := by with_unfolding_all rfl) : CE c env ns (.Compare a [op] [b] pos) (lcmpW op wa wb) :=
  fun X e ok l σ Q hl h => by
    subst e
    exact ev_cmp ((ha X rfl ok l σ _ hl h).mono fun va σ₁ h1 => (hb X rfl ok l σ₁ _ hl h1).mono fun vb σ₂ h2 => lcmp_ok h2) hm
theorem cb_lcmp {a b : Expr} {op : CmpOp} {wa wb : WE} (ha : CE c env ns a wa) (hb : CE c env ns b wb) (hm : behindInMarks op b = false := by with_unfolding_all rfl) : CB c env ns (.Compare a [op] [b] pos) (lcmpB op wa wb) :=
  fun X e ok l σ Q hl h => by
    subst e
    exact eb_cmp ((ha X rfl ok l σ _ hl h).mono fun va σ₁ h1 => (hb X rfl ok l σ₁ _ hl h1).mono fun vb σ₂ h2 => (by
      have e : (fun r => Q r σ₂) = fun r => (∃ r', V.bool r = V.bool r' ∧ Q r' σ₂) := by
        funext r; apply propext; constructor
        · intro h; exact ⟨r, rfl, h⟩
        · rintro ⟨r', e, h⟩; cases e; exact h
      rw [e] at h2
      exact (lcmp_ok (Q := fun v σ => ∃ r', v = V.bool r' ∧ Q r' σ) h2).mono fun v σ₃ ⟨r, e, h3⟩ => by subst e; exact et_bool h3)) hm
/-- o[lo:hi] = e -/
@[irreducible] def sstore (v ov a b : V) (σ : Hp) (K : Hp → Prop) : Prop := ∃ (i j : Nat) (vs new : List V) (x y : Nat), v = .ref j ∧ ov = .ref i ∧ a = .int ((x : Nat) : Int) ∧ b = .int ((y : Nat) : Int) ∧ i ≠ j ∧ σ[i]? = some (.list vs) ∧ σ[j]? = some (.list new) ∧ x ≤ y ∧ y ≤ vs.length ∧ vs.length + new.length ≤ 1000000 ∧ K (σ.set i (.list (vs.take x ++ new ++ vs.drop y)))
theorem sstore_of {i j : Nat} {vs new : List V} {x y : Nat} {σ : Hp} {K : Hp → Prop} (h1 : i ≠ j) (h2 : σ[i]? = some (.list vs)) (h3 : σ[j]? = some (.list new)) (h4 : x ≤ y) (h5 : y ≤ vs.length) (h6 : vs.length + new.length ≤ 1000000) (h : K (σ.set i (.list (vs.take x ++ new ++ vs.drop y)))) :
    sstore (.ref j) (.ref i) (.int (x : Int)) (.int (y : Int)) σ K := by unfold sstore; exact ⟨i, j, vs, new, x, y, rfl, rfl, rfl, rfl, h1, h2, h3, h4, h5, h6, h⟩
def subSX (we wo wl wh : WE) : WX := fun X l σ Q => we X l σ fun v σ₁ => wo X l σ₁ fun ov σ₂ => wl X l σ₂ fun a σ₃ => wh X l σ₃ fun b σ₄ => sstore v ov a b σ₄ fun σ' => Q .next l σ'
theorem cx_subS {o e elo ehi : Expr} {sp p : Pos} {we wo wl wh : WE} (he : CE c env ns e we) (ho : CE c env ns o wo) (hl : CE c env ns elo wl) (hh : CE c env ns ehi wh)
    (hs : swapsWith e (some (.Subscript o (.Slice (some elo) (some ehi) none sp) p)) pos.line env = pure false := by (subst_vars; kernel_rfl)) : CX c env ns (.Assign [.Subscript o (.Slice (some elo) (some ehi) none sp) p] e pos) (subSX we wo wl wh) := fun X ec ok l σ Q hlen h1 => by
  subst ec
  refine ex_subS ((he X rfl ok l σ _ hlen h1).mono fun v σ₁ h2 => (ho X rfl ok l σ₁ _ hlen h2).mono fun ov σ₂ h3 => (hl X rfl ok l σ₂ _ hlen h3).mono fun a σ₃ h4 => (hh X rfl ok l σ₃ _ hlen h4).mono fun b σ₄ h5 => ?_) hs
  unfold sstore at h5
  obtain ⟨i, j, vs, new, x, y, a1, a2, a3, a4, a5, a6, a7, a8, a9, a10, a11⟩ := h5
  exact ⟨i, j, vs, new, x, y, a1, a2, a3, a4, a5, a6, a7, a8, a9, a10, l, hlen, rfl, a11⟩
/-- list(x), x a list of the call's own -/
theorem fn_list {D : Nat} {σ : Hp} {i : Nat} {vs : List V} {Q : V → Hp → Prop} (hi : σ[i]? = some (.list vs)) (hz : vs.length ≤ 1000000) (h : Q (.ref σ.length) (σ ++ [.list vs])) : FN c D (.val (.type "list")) [.ref i] [] σ Q := by
  refine fn1 fun A g ρ z s Q' E' w ok P r q => ?_
  cases r with
  | ref hr =>
    obtain ⟨ws, n, h1, h2, h3, h4⟩ := P.list hi hr
    refine call_list_seq _ (.inl rfl) h1 rfl rfl (fun h' c' hk he => ?_) (by have := h2.length; rw [List.size_toArray, sizeLine_eq]; omega)
    obtain ⟨led0, a0, _⟩ := P.own
    have hlen : σ.length = ρ.length := a0.length
    have hn : s.heap.get? s.heap.objs.size = none := fresh_at (Nat.le_refl _)
    have P' := P.new (s' := { s with heap := h' }) (o := .list vs) (a := s.heap.objs.size) hk (.list (n := c') (h2.mono (Ext.push ..))) (by simp) (fun q hq => by cases List.mem_singleton.mp hq; exact ⟨he, hn⟩)
    exact q _ _ _ _ _ _ h P' ⟨Ext.push .., fun b o e => ⟨o, hk b o e⟩, fun _ h => .inl h⟩ (.ref (by rw [hlen]; simp))
@[irreducible] def listS (vs : List V) (ks : List (Str × V)) (σ : Hp) (K : V → Hp → Prop) : Prop := ∃ (i : Nat) (xs : List V), vs = [.ref i] ∧ ks = [] ∧ σ[i]? = some (.list xs) ∧ xs.length ≤ 1000000 ∧ K (.ref σ.length) (σ ++ [.list xs])
theorem listS_of {i : Nat} {xs : List V} {σ : Hp} {K : V → Hp → Prop} (h1 : σ[i]? = some (.list xs)) (h2 : xs.length ≤ 1000000) (h : K (.ref σ.length) (σ ++ [.list xs])) : listS [.ref i] [] σ K := by unfold listS; exact ⟨i, xs, rfl, rfl, h1, h2, h⟩
def listC (wl : WL) (wk : WK) : WE := fun X l σ Q => wl X l σ fun vs σ₁ => wk X l σ₁ fun ks σ₂ => listS vs ks σ₂ Q
theorem ce_listC {p : Pos} {args : List Expr} {kws : List Keyword} {wl : WL} {wk : WK} (e : nsIn c.K mainGlobals "list" = some none) (hb : bootBuiltins "list" = some (.type "list"))
    (h : CL c env ns pos args wl) (hw : CK c env ns pos kws wk) (he : eval (.Call (.Name "list" p) args kws pos) env = (do callWith pos (← eval (.Name "list" p) env) [] (backTo pos (starEach args env)) (backToKw pos (keywordEach kws env))) := by (subst_vars; kernel_rfl))
    (hkd : env.kindOf "list" = some .globalImplicit := by (subst_vars; kernel_rfl)) : CE c env ns (.Call (.Name "list" p) args kws pos) (listC wl wk) := fun X ec ok l σ Q hl h1 => by
  subst ec
  refine ev_call hw.1 (ev_bltn e hb ⟨trivial, (h.2 X rfl ok l σ _ hl h1).mono fun vs σ₁ h2 => (hw.2 X rfl ok l σ₁ _ hl h2).mono fun ks σ₂ h3 => ?_⟩ hkd) he
  unfold listS at h3
  obtain ⟨i, xs, rfl, rfl, a1, a2, a3⟩ := h3
  exact fn_list a1 a2 a3
end
end
section
open PySem PySem.W PyProof.Rows PySem.Calls
theorem setItem_last {prog : Program} {w : World} {A : Around} {E : Value → Shared → Prop} {s : Shared} {l : Addr} {items : Array Value} {t : Tok} {v : Value} {Q : Unit → Shared → Prop} (hp : s.heap.PlainList l items) (h0 : 0 < items.size) (hsz : items.size ≤ 1000000)
    (hQ : ∀ h', h'.PlainList l (items.setIfInBounds (items.size - 1) v) → Heap.SameBut l s.heap h' → Q () { s with heap := h' }) :
    wpAny (model prog w) A (setItem (.ref l) (.int (-1) t) v) Q E s := by
  have hl := hp.isList
  obtain ⟨n, ho⟩ := hp
  unfold setItem
  try with_reducible refine wpAny_holding ?_
  first | refine wpAny_bind (wpAny_pure ?_) | skip
  refine wpAny_bind (wpAny_sequenceKey hl.typeIs (by decide) ?_)
  refine wpAny_bind (wpAny_callSpecial?_slot (name := Str.ofString "__setitem__") hl.typeIs slot_list_setitem
    (wpAny_call_entry slot_list_setitem hl.typeIs entry_list_setitem ?_ (args_list_setitem _ _ _)))
  show wpAny _ _ (Builtin.List.listSubscript? (.int (-1) t) >>= _) _ _ s
  refine wpAny_bind (wpAny_listSubscript_int (fitsIndex_neg (by decide) (by decide)) ?_)
  have hidx := seqIndex_neg (k := -1) (n := items.size) (by decide) (by omega)
  have hj : items.size - 1 < items.size := by omega
  have e1 : ((-1 : Int) + items.size).toNat = items.size - 1 := by omega
  rw [e1] at hidx
  have hx' : items[items.size - 1]? = some items[items.size - 1] := Array.getElem?_eq_getElem hj
  show wpAny _ _ ((Builtin.List.listItems (.ref l) >>= fun xs => pure ((seqIndex? (Int.negSucc 0) xs.size).bind fun i => xs[i]?.map (i, ·))) >>= _) _ _ s
  refine wpAny_bind (wpAny_bind ?_)
  show wpAny _ _ (seqItems? (.ref l) >>= _) _ _ s
  refine wpAny_bind (wpAny_seqItems ho rfl (wpAny_pure (wpAny_pure ?_)))
  rw [show seqIndex? (Int.negSucc 0) items.size = some (items.size - 1) from hidx]
  simp only [Option.bind_some, hx', Option.map_some]
  show wpAny _ _ (setSeqItemAt l (items.size - 1) v >>= _) _ _ s
  obtain ⟨n', hd'⟩ := Obj.mapSeq_set_plain items n (items.size - 1) v
  have hfin : (s.heap.update l (Obj.mapSeq (·.setIfInBounds (items.size - 1) v))).PlainList l (items.setIfInBounds (items.size - 1) v) :=
    ⟨n', by rw [← hd']; exact Heap.get?_update_self _ ho (by rw [hd']; rfl)⟩
  refine wpAny_bind (wpAny_setSeqItemAt ho rfl ?_)
  first
    | exact wpAny_bind (wpAny_pure (wpAny_pure ⟨.none, rfl, wpAny_pure (hQ _ hfin (Heap.SameBut.update ..))⟩))
    | exact wpAny_pure ⟨.none, rfl, wpAny_pure (hQ _ hfin (Heap.SameBut.update ..))⟩
theorem getItem_bytes_last {prog : Program} {w : World} {A : Around} {E : Value → Shared → Prop} {s : Shared} {l : List UInt8} {t u : Tok} {Q : Value → Shared → Prop} (hfit : l.length ≤ 1000000) (h0 : 0 < l.length)
    (h : Q (.int (l.getD (l.length - 1) 0).toNat s.toks) { s with toks := s.toks + 1 }) : wpAny (model prog w) A (getItem (.bytes l.toArray t) (.int (-1) u)) Q E s := by
  refine getItem_gives (typeIs_bytes s _ t) (by decide) FB.slot_bytes_getitem FB.entry_bytes_getitem (FB.args_bytes_getitem_2 _ _) (gives_bytes_getitem _ (-1) t u (l.getD (l.length - 1) 0) ?_ ?_) h
  · decide
  · have := seqIndex_neg (k := -1) (n := l.toArray.size) (by decide) (by simp; omega)
    rw [this]
    have e1 : ((-1 : Int) + (l.toArray.size : Int)).toNat = l.length - 1 := by simp; omega
    rw [e1]
    have : l.length - 1 < l.length := by omega
    simp [this]
/-- what a walk stops at where the last is asked -/
@[irreducible] def lastS (ov : V) (σ : Hp) (K : V → Prop) : Prop := (∃ b : List UInt8, ov = .bytes b ∧ 0 < b.length ∧ b.length ≤ 1000000 ∧ K (.int ((b.getD (b.length - 1) 0).toNat : Int))) ∨ ∃ (i : Nat) (vs : List V) (v : V), ov = .ref i ∧ σ[i]? = some (.list vs) ∧ vs.length ≤ 1000000 ∧ vs.getLast? = some v ∧ K v
theorem lastS_bytes {b : List UInt8} {σ : Hp} {K : V → Prop} (h1 : 0 < b.length) (h2 : b.length ≤ 1000000) (h : K (.int ((b.getD (b.length - 1) 0).toNat : Int))) : lastS (.bytes b) σ K := by unfold lastS; exact .inl ⟨b, rfl, h1, h2, h⟩
theorem lastS_list {i : Nat} {vs : List V} {v : V} {σ : Hp} {K : V → Prop} (h1 : σ[i]? = some (.list vs)) (h2 : vs.length ≤ 1000000) (h3 : vs.getLast? = some v) (h : K v) : lastS (.ref i) σ K := by unfold lastS; exact .inr ⟨i, vs, v, rfl, h1, h2, h3, h⟩
theorem last_ix {α : Type} {l : List α} {x : α} (h : l.getLast? = some x) : l[l.length - 1]? = some x := by rw [← List.getLast?_eq_getElem?]; exact h
section
variable {c : Cx} {env : Env} {ns : List Str} {pos : Pos}
theorem lastS_ok {D : Nat} {l : Loc} {σ : Hp} {oe ie : Expr} {ov : V} {Q : V → Hp → Prop} (hs : notSlice ie = true) (h : lastS ov σ fun v => Q v σ) : EV2 c env D ov (.int (-1)) (subscriptTail oe ie) l σ Q := by
  unfold lastS at h
  rcases h with ⟨b, rfl, h1, h2, h3⟩ | ⟨i, vs, v, rfl, hi, hz, hv, h3⟩
  · intro A g ρ z s Q' E' w₁ w₂ ok R r₁ r₂ q
    cases r₁; cases r₂
    refine tail_any (typeIs_bytes _ _ _) FB.slot_bytes_getitem.lookup (getItem_bytes_last h2 h1 ?_) (notSlice_is hs _ _)
    exact q _ _ _ _ _ _ h3 (R.toks _) (Go.toks ..) (.int _ _)
  · intro A g ρ z s Q' E' w₁ w₂ ok R r₁ r₂ q
    cases r₁ with
    | ref hr =>
      cases r₂
      obtain ⟨ws, n, e1, e2, e3, e4⟩ := R.toRp.list hi hr
      obtain ⟨w, hw, rw'⟩ := e2.get (last_ix hv)
      have hlen := e2.length
      have hpos : 0 < vs.length := by cases vs with | nil => simp at hv | cons _ _ => simp
      refine tail_any (Heap.IsList.typeIs (isList_of e1)) slot_list_getitem.lookup (wpAny_getItem_list_neg (isList_of e1) (by decide) (by rw [List.size_toArray]; omega) (by decide) ?_ (q _ _ _ _ _ _ h3 R (Go.refl ..) rw')) (notSlice_is hs _ _)
      have ei : ((-1 : Int) + (ws.toArray.size : Int)).toNat = vs.length - 1 := by rw [List.size_toArray]; omega
      rw [ei]; simpa using hw
def lastW (wo : WE) : WE := fun X l σ Q => wo X l σ fun ov σ₁ => lastS ov σ₁ fun v => Q v σ₁
theorem ce_last {o : Expr} {k : Nat} {p1 p2 : Pos} {wo : WE} (ho : CE c env ns o wo) : CE c env ns (.Subscript o (.UnaryOp .USub (.Constant (.int 1) k p1) p2) pos) (lastW wo) := fun X ec ok l σ Q hl h1 => by
  subst ec
  exact ev_item ((ho X rfl ok l σ _ hl h1).mono fun ov σ₁ h2 => ev_neg (ev_int ⟨1, rfl, lastS_ok rfl h2⟩))
@[irreducible] def lastT (ov v : V) (σ : Hp) (K : Hp → Prop) : Prop := ∃ (i : Nat) (vs : List V), ov = .ref i ∧ σ[i]? = some (.list vs) ∧ 0 < vs.length ∧ vs.length ≤ 1000000 ∧ K (σ.set i (.list (vs.set (vs.length - 1) v)))
theorem lastT_of {i : Nat} {vs : List V} {v : V} {σ : Hp} {K : Hp → Prop} (h1 : σ[i]? = some (.list vs)) (h2 : 0 < vs.length) (h3 : vs.length ≤ 1000000) (h : K (σ.set i (.list (vs.set (vs.length - 1) v)))) : lastT (.ref i) v σ K := by unfold lastT; exact ⟨i, vs, rfl, h1, h2, h3, h⟩
theorem lastT_ok {D : Nat} {l : Loc} {σ : Hp} {ov v : V} {K : Hp → Prop} (h : lastT ov v σ K) : EU3 c env D ov (.int (-1)) v setItem l σ K := by
  unfold lastT at h
  obtain ⟨i, vs, rfl, hi, h1, h2, h3⟩ := h
  intro A g ρ z s Q' E' w₁ w₂ w₃ ok R r₁ r₂ r₃ q
  cases r₁ with
  | ref hr =>
    cases r₂
    obtain ⟨ws, n, e1, e2, e3, e4⟩ := R.toRp.list hi hr
    have hL : env.locals ≠ _ := fun e => e3 (List.mem_append_left _ (List.mem_singleton.mpr e.symm))
    have hlen := e2.length
    refine setItem_last ⟨n, e1⟩ (by rw [List.size_toArray]; omega) (by rw [List.size_toArray]; omega) fun h' hp hs => ?_
    obtain ⟨n', hp⟩ := hp
    obtain ⟨P', G'⟩ := R.toRp.setList (s' := { s with heap := h' }) (ws' := ws.set (vs.length - 1) w₃) (vs' := vs.set (vs.length - 1) v) hi hr hs ⟨n', by rw [hp, List.size_toArray, ← hlen]; simp⟩ (e2.set _ r₃)
    exact q _ _ _ _ h3 (R.mk' P' (Ext.refl ..) fun m hm => hm.sameBut hs hL) G'
def subLX (wo w : WE) : WX := fun X l σ Q => w X l σ fun v σ₁ => wo X l σ₁ fun ov σ₂ => lastT ov v σ₂ fun σ' => Q .next l σ'
theorem cx_subL {o e : Expr} {k : Nat} {p p1 p2 : Pos} {wo w : WE} (ho : CE c env ns o wo) (h : CE c env ns e w) (hs : swapsWith e (some (.Subscript o (.UnaryOp .USub (.Constant (.int 1) k p1) p2) p)) pos.line env = pure false := by (subst_vars; kernel_rfl)) :
    CX c env ns (.Assign [.Subscript o (.UnaryOp .USub (.Constant (.int 1) k p1) p2) p] e pos) (subLX wo w) := fun X ec ok l σ Q hl h1 => by
  subst ec
  exact ex_sub ((h X rfl ok l σ _ hl h1).mono fun v σ₁ h2 => (ho X rfl ok l σ₁ _ hl h2).mono fun ov σ₂ h3 => ev_neg (ev_int ⟨1, rfl, (lastT_ok h3).mono fun σ₄ h5 => ⟨l, hl, rfl, h5⟩⟩)) hs
end
end
section
open PySem PySem.W PyProof.Rows PySem.Calls
section
variable {c : Cx} {env : Env} {ns : List Str} {pos : Pos}
/-- octets, joined -/
theorem ev_addB {D : Nat} {l : Loc} {σ : Hp} {a b : List UInt8} {Q : V → Hp → Prop} (hz : a.length + b.length ≤ 1000000) (h : Q (.bytes (a ++ b)) σ) : EV2 c env D (.bytes a) (.bytes b) (binaryOp .Add) l σ Q := by
  intro A g ρ z s Q' E' w₁ w₂ ok R r₁ r₂ q
  cases r₁; cases r₂
  refine KBy.add_bytes (by simp; omega) fun t' k => ?_
  have e : a.toArray ++ b.toArray = (a ++ b).toArray := by simp
  rw [e]
  exact q _ _ _ _ _ _ h (R.toks _) (Go.toks ..) (.bytes _ _)
def addBK (va vb : V) (K : V → Prop) : Prop := hi (match va with
  | .bytes a => (match vb with | .bytes b => chk (a.length + b.length ≤ 1000000) (K (.bytes (a ++ b))) | _ => False)
  | _ => False)
def addBW (wa wb : WE) : WE := fun X l σ Q => wa X l σ fun va σ₁ => wb X l σ₁ fun vb σ₂ => addBK va vb fun v => Q v σ₂
theorem ce_addB {a b : Expr} {wa wb : WE} (ha : CE c env ns a wa) (hb : CE c env ns b wb) : CE c env ns (.BinOp a .Add b pos) (addBW wa wb) :=
  fun X e ok l σ Q hl h => by
    subst e
    refine ev_bin ((ha X rfl ok l σ _ hl h).mono fun va σ₁ h1 => (hb X rfl ok l σ₁ _ hl h1).mono fun vb σ₂ h2 => ?_)
    unfold addBK at h2
    split at h2
    · split at h2
      · exact ev_addB (of_chk h2).1 (of_chk h2).2
      · exact h2.elim
    · exact h2.elim
end
end
section
open PySem PySem.W PyProof.Rows PySem.Calls
open Builtin Builtin.Bytes
set_option maxRecDepth 100000
theorem slot_bytes_join : Slot "bytes" "join" "bytes.join" :=
  .of (owner := "bytes") (n := "join") (by rw [typeLookup_type, builtinLookup_eq_fast]; kernel_rfl) (by decide +kernel) (by decide +kernel) (by decide +kernel)
    (by first | exact .inl (by decide +kernel) | exact .inr (by decide +kernel)) (by rw [isSubtype_type]; kernel_rfl)
theorem type_bytes_join : typeOf (.builtin "bytes.join") = pure (.type "method_descriptor") := by show builtinType _ = _; rw [builtinType_eq_fast]; kernel_rfl
theorem entry_bytes_join : entryFor table "bytes.join" = some Builtin.«bytes.join» := entryFor_of_tree (by kernel_rfl)
theorem args_bytes_join_2 (a b : Value) : argsOk "bytes.join" ⟨[a, b], []⟩ := by
  unfold argsOk; rw [signature?_of (id := "bytes.join") (n := ['n', 'i', 'o', 'j']) (o := ['s', 'e', 't', 'y', 'b']) (by kernel_rfl) PySem.W.FB.owner_bytes]; kernel_rfl
theorem take_eq {id : String} {b : Array UInt8} {t : Tok} : takeBufferQuiet? id (.bytes b t) 0 = pure (some (b, none)) := by
  unfold takeBufferQuiet? takeBuffer?
  rw [KBy.special_eq KBy.look_buffer, KBy.own_buffer]
  have e : ((0 : Int) == fullReadOnly) = false := by decide
  rw [e, KBy.buffer_eq]
  kernel_rfl
section
variable {prog : Program} {w : World} {A : Around} {E : Value → Shared → Prop} {s : Shared}
theorem wp_joinLetGo {keep : List Value} {Q : Unit → Shared → Prop} (h : Q () s) : ∀ (l : List (Value × Option Value)), (∀ p ∈ l, p.2 = none) → wpAny (model prog w) A (joinLetGo l keep) Q E s
  | [], _ => wpAny_pure h
  | (x, w) :: r, hl => by
    obtain rfl : w = none := hl (x, w) (.head _)
    unfold joinLetGo
    refine wpAny_bind (wpAny_letGo ?_)
    exact wp_joinLetGo h r fun p hp => hl p (.tail _ hp)
theorem wp_rangeL {β : Type} {f : Nat → β → Sem (ForInStep β)} {n : Nat} {Q : β → Shared → Prop} (J : Nat → β) (hs : ∀ i, i < n → ∀ Q' : ForInStep β → Shared → Prop, Q' (.yield (J (i + 1))) s → wpAny (model prog w) A (f i (J i)) Q' E s) (h : Q (J n) s) :
    ∀ k i, i + k = n → wpAny (model prog w) A (forIn (List.range' i k 1) (J i) f) Q E s
  | 0, i, e => by obtain rfl : i = n := by omega
                  exact wpAny_pure h
  | k + 1, i, e => by
    rw [List.range'_succ, List.forIn_cons]
    refine wpAny_bind (hs i (by omega) _ ?_)
    exact wp_rangeL J hs h k (i + 1) (by omega)
theorem wp_range {β : Type} {f : Nat → β → Sem (ForInStep β)} {n : Nat} {Q : β → Shared → Prop} (J : Nat → β) (hs : ∀ i, i < n → ∀ Q' : ForInStep β → Shared → Prop, Q' (.yield (J (i + 1))) s → wpAny (model prog w) A (f i (J i)) Q' E s) (h : Q (J n) s) :
    wpAny (model prog w) A (forIn [:n] (J 0) f) Q E s := by
  rw [KPc.range_list]
  exact wp_rangeL J hs h n 0 (by omega)
theorem fold_len : ∀ (l : List (Array UInt8 × Tok)) (k : Nat), Array.foldl (fun (x : Nat) (y : Array UInt8) => x + y.size) k (l.map (·.1)).toArray = k + ((l.map fun p => p.1.toList).flatten).length := by
  intro l k
  rw [List.foldl_toArray']
  induction l generalizing k with
  | nil => rfl
  | cons a l ih => rw [List.map_cons, List.foldl_cons, ih, List.map_cons, List.flatten_cons, List.length_append]; have e := Array.length_toList (xs := a.1); omega
  rfl
theorem joined_go : ∀ (l : List (Array UInt8 × Tok)) (i : Nat) (out : Array UInt8), ((l.map (·.1)).zipIdx i).foldl (fun (out : Array UInt8) (x : Array UInt8 × Nat) => (if x.2 > 0 then out ++ #[] else out) ++ x.1) out = out ++ ((l.map fun p => p.1.toList).flatten).toArray
  | [], _, out => by simp
  | a :: l, i, out => by
    rw [List.map_cons, List.zipIdx_cons, List.foldl_cons, joined_go l]
    have : (if i > 0 then out ++ #[] else out) = out := by split <;> simp
    rw [this]
    apply Array.ext'
    simp
theorem joined_nil (l : List (Array UInt8 × Tok)) : joined #[] (l.map (·.1)) = ((l.map fun p => p.1.toList).flatten).toArray := by
  have := joined_go l 0 #[]
  rw [Array.empty_append] at this
  exact this
theorem wp_bjoin {a : Addr} {bs : List (Array UInt8 × Tok)} {t : Tok} {o : Obj} {n : Nat} {R : PySem.Fin → Shared → Prop} (ho : s.heap.get? a = some o) (hT : s.TypeIs (.ref a) "list") (hd : o.data = .seq (bs.map fun p => Value.bytes p.1 p.2).toArray n)
    (hz : ((bs.map fun p => p.1.toList).flatten).length ≤ 1000000) (h : ∀ t k, R (.done (.ret (.bytes ((bs.map fun p => p.1.toList).flatten).toArray t))) { s with toks := k }) : wpAny (model prog w) A («bytes.join» ⟨[.bytes #[] t, .ref a], []⟩) R E s := by
  unfold «bytes.join» joinM
  refine wpAny_bind (m := selfAndOne _ _) (wpAny_pure ?_)
  dsimp only
  rw [if_pos (by decide : (Kind.bytes == Kind.bytes) = true)]
  refine wpAny_bind ?_
  unfold joinItems
  refine wpAny_bind (wpAny_typeOf hT ?_)
  rw [if_pos (by decide)]
  refine wpAny_pure ?_
  refine wpAny_bind (wpAny_seqItems ho hd ?_)
  dsimp only
  rw [if_pos (by decide : (Kind.bytes == Kind.bytes) = true)]
  match bs with
  | [p] =>
    dsimp only [List.map]
    refine wpAny_bind (wpAny_typeOf (typeIs_bytes s p.1 p.2) ?_)
    rw [if_pos (by decide)]
    refine wpAny_bind (wpAny_rule ?_)
    have := h p.2 s.toks
    have e : ((List.map (fun p : Array UInt8 × Tok => p.1.toList) [p]).flatten).toArray = p.1 := by simp
    rw [e] at this
    exact wpAny_pure this
  | [] =>
    refine wpAny_bind (m := forIn [:(List.map (fun p => Value.bytes p.1 p.2) ([] : List (Array UInt8 × Tok))).toArray.size] (#[], []) _) ?_
    generalize hl : ([] : List (Array UInt8 × Tok)) = l at hd hz h ⊢
    clear hl
    refine wp_range (J := fun i => (((l.take i).map (·.1)).toArray, (l.take i).map fun p => (Value.bytes p.1 p.2, (none : Option Value)))) (fun i hi Q' hq => ?_) ?_
    · have hi' : i < l.length := by simpa using hi
      refine wpAny_bind (wpAny_seqItems ho hd ?_)
      dsimp only
      rw [if_neg (by rw [Bool.or_eq_true]; rintro (hh | hh); (exact absurd hh (by decide)); (rw [List.any_map, List.any_eq_true] at hh; obtain ⟨x, _, hx⟩ := hh; cases hx))]
      have hget : (List.map (fun p => Value.bytes p.1 p.2) l).toArray.getD i .none = .bytes (l[i]'hi').1 (l[i]'hi').2 := by
        simp [Array.getD, hi']
      rw [hget]
      refine wpAny_bind (wpAny_holding ?_)
      rw [take_eq]
      refine wpAny_pure ?_
      dsimp only
      refine wpAny_bind (wpAny_seqItems ho hd ?_)
      dsimp only
      rw [if_neg (by simp)]
      refine wpAny_pure ?_
      have e1 : (((l.take (i + 1)).map (·.1)).toArray) = (((l.take i).map (·.1)).toArray).push (l[i]'hi').1 := by
        rw [List.take_add_one, List.getElem?_eq_getElem hi', List.map_append]; apply Array.ext'; simp
      have e2 : ((l.take (i + 1)).map fun p => (Value.bytes p.1 p.2, (none : Option Value))) = ((l.take i).map fun p => (Value.bytes p.1 p.2, (none : Option Value))) ++ [(Value.bytes (l[i]'hi').1 (l[i]'hi').2, none)] := by
        rw [List.take_add_one, List.getElem?_eq_getElem hi', List.map_append]; rfl
      rw [e1, e2] at hq
      exact hq
    · have el : (List.map (fun p => Value.bytes p.1 p.2) l).toArray.size = l.length := by simp
      rw [el, List.take_length]
      refine wpAny_bind (m := payload (.bytes #[] t)) (wpAny_pure ?_)
      dsimp only
      rw [if_neg (by rw [fold_len, KBy.tooLong_not (by simp only [Array.size_empty, Nat.zero_mul]; omega)]; decide), joined_nil]
      refine wpAny_bind (m := Kind.bytes.new _) (wpAny_mkBytes ?_ (by rw [sizeLine_eq]; simp only [List.size_toArray]; omega))
      refine wpAny_bind (wpAny_holding (wpAny_point ?_))
      refine wpAny_bind (wp_joinLetGo ?_ _ (by intro p hp; obtain ⟨x, _, rfl⟩ := List.mem_map.mp hp; rfl))
      exact wpAny_pure (h _ _)
  | p :: q :: r =>
    refine wpAny_bind (m := forIn [:(List.map (fun p => Value.bytes p.1 p.2) (p :: q :: r)).toArray.size] (#[], []) _) ?_
    generalize hl : (p :: q :: r) = l at hd hz h ⊢
    clear hl
    refine wp_range (J := fun i => (((l.take i).map (·.1)).toArray, (l.take i).map fun p => (Value.bytes p.1 p.2, (none : Option Value)))) (fun i hi Q' hq => ?_) ?_
    · have hi' : i < l.length := by simpa using hi
      refine wpAny_bind (wpAny_seqItems ho hd ?_)
      dsimp only
      rw [if_neg (by rw [Bool.or_eq_true]; rintro (hh | hh); (exact absurd hh (by decide)); (rw [List.any_map, List.any_eq_true] at hh; obtain ⟨x, _, hx⟩ := hh; cases hx))]
      have hget : (List.map (fun p => Value.bytes p.1 p.2) l).toArray.getD i .none = .bytes (l[i]'hi').1 (l[i]'hi').2 := by
        simp [Array.getD, hi']
      rw [hget]
      refine wpAny_bind (wpAny_holding ?_)
      rw [take_eq]
      refine wpAny_pure ?_
      dsimp only
      refine wpAny_bind (wpAny_seqItems ho hd ?_)
      dsimp only
      rw [if_neg (by simp)]
      refine wpAny_pure ?_
      have e1 : (((l.take (i + 1)).map (·.1)).toArray) = (((l.take i).map (·.1)).toArray).push (l[i]'hi').1 := by
        rw [List.take_add_one, List.getElem?_eq_getElem hi', List.map_append]; apply Array.ext'; simp
      have e2 : ((l.take (i + 1)).map fun p => (Value.bytes p.1 p.2, (none : Option Value))) = ((l.take i).map fun p => (Value.bytes p.1 p.2, (none : Option Value))) ++ [(Value.bytes (l[i]'hi').1 (l[i]'hi').2, none)] := by
        rw [List.take_add_one, List.getElem?_eq_getElem hi', List.map_append]; rfl
      rw [e1, e2] at hq
      exact hq
    · have el : (List.map (fun p => Value.bytes p.1 p.2) l).toArray.size = l.length := by simp
      rw [el, List.take_length]
      refine wpAny_bind (m := payload (.bytes #[] t)) (wpAny_pure ?_)
      dsimp only
      rw [if_neg (by rw [fold_len, KBy.tooLong_not (by simp only [Array.size_empty, Nat.zero_mul]; omega)]; decide), joined_nil]
      refine wpAny_bind (m := Kind.bytes.new _) (wpAny_mkBytes ?_ (by rw [sizeLine_eq]; simp only [List.size_toArray]; omega))
      refine wpAny_bind (wpAny_holding (wpAny_point ?_))
      refine wpAny_bind (wp_joinLetGo ?_ _ (by intro p hp; obtain ⟨x, _, rfl⟩ := List.mem_map.mp hp; rfl))
      exact wpAny_pure (h _ _)
end
section
variable {c : Cx} {env : Env} {ns : List Str} {pos : Pos} {D : Nat} {l : Loc} {σ : Hp}
theorem em_bjoin {b : List UInt8} {QM : V → List V → Hp → Prop} (h : QM (.val (.builtin "bytes.join")) [.bytes b] σ) : EM c env D (.bytes b) "join" l σ QM := by
  intro A g ρ z s Q' E' w pl ok R r q
  cases r
  exact getMethod_builtin (typeIs_bytes s _ _) PySem.W.FB.plainAttrs_bytes slot_bytes_join type_bytes_join (fun a e => nomatch e) (q _ _ _ _ _ _ _ _ h R (Go.refl ..) (.val _) (.cons (.bytes _ _) .nil))
theorem bs_vals {z : Led} {ρ : List Addr} : ∀ {bs : List (List UInt8)} {ws : List Value}, VRL z ρ (bs.map V.bytes) ws → ∃ ts : List (Array UInt8 × Tok), ws = ts.map (fun p => Value.bytes p.1 p.2) ∧ ts.map (fun p => p.1.toList) = bs
  | [], ws, h => by cases h; exact ⟨[], rfl, rfl⟩
  | b :: bs, ws, h => by
    cases h with
    | cons r rl =>
      cases r
      obtain ⟨ts, rfl, e⟩ := bs_vals rl
      rename_i t
      exact ⟨(b.toArray, t) :: ts, rfl, by rw [List.map_cons, e]⟩
theorem fn_bjoin {i : Nat} {bs : List (List UInt8)} {Q : V → Hp → Prop} (hi : σ[i]? = some (.list (bs.map V.bytes))) (hz : bs.flatten.length ≤ 1000000) (h : Q (.bytes bs.flatten) σ) : FN c D (.val (.builtin "bytes.join")) [.bytes [], .ref i] [] σ Q := by
  refine fn2 fun A g ρ z s Q' E' w₁ w₂ ok P r₁ r₂ q => ?_
  cases r₁
  cases r₂ with
  | ref hr =>
    obtain ⟨ws, n, h1, h2, h3, h4⟩ := P.list hi hr
    obtain ⟨ts, rfl, rfl⟩ := bs_vals h2
    refine wpAny_call (codeAny_call_builtin slot_bytes_join.plain entry_bytes_join (slot_bytes_join.check _ _ _ _ _ _ _ _ (typeIs_bytes s _ _) (args_bytes_join_2 _ _) ?_))
    exact wp_bjoin h1 ⟨_, h1, rfl⟩ rfl hz fun t k => q _ _ _ _ _ _ h (P.toks _) (Go.toks ..) (.bytes _ _)
@[irreducible] def bjoin (v : V) (σ : Hp) (K : V → Prop) : Prop := ∃ (i : Nat) (bs : List (List UInt8)), v = .ref i ∧ σ[i]? = some (.list (bs.map V.bytes)) ∧ bs.flatten.length ≤ 1000000 ∧ K (.bytes bs.flatten)
theorem bjoin_of {i : Nat} {bs : List (List UInt8)} {K : V → Prop} (hi : σ[i]? = some (.list (bs.map V.bytes))) (hz : bs.flatten.length ≤ 1000000) (h : K (.bytes bs.flatten)) : bjoin (.ref i) σ K := by unfold bjoin; exact ⟨i, bs, rfl, hi, hz, h⟩
def bjA (vs : List V) (σ : Hp) (K : V → Prop) : Prop := match vs with
  | [] => False
  | v :: r => (match r with | [] => bjoin v σ K | _ :: _ => False)
def bjW (ws : WL) : WE := fun X l σ Q => ws X l σ fun vs σ₁ => bjA vs σ₁ fun r => Q r σ₁
theorem ce_bjoin {o : Expr} {args : List Expr} {ap : Pos} {ws : WL} {pl : Sem Bool} (ho : CE c env ns o (cstW (.bytes []))) (h : CL c env ns pos args ws)
    (he : eval (.Call (.Attribute o "join" ap) args [] pos) env = (do
      let ov ← eval o env
      standAt ap.atName
      let (f, first) ← holding [ov] (getMethod ov "join" pl)
      callWith pos f first (backTo pos (starEach args env)) (backToKw pos (keywordEach [] env))) := by with_unfolding_all rfl) : CE c env ns (.Call (.Attribute o "join" ap) args [] pos) (bjW ws) :=
  fun X ec ok l σ Q hl h1 => by
    subst ec
    have h2 : cstW (.bytes []) X l σ fun ov σ₁ => ov = .bytes [] ∧ bjW ws X l σ₁ Q := ⟨rfl, h1⟩
    refine ev_mcall (pl := pl) rfl ((ho X rfl ok l σ _ hl h2).mono fun ov σ₁ h3 => ?_) he
    obtain ⟨rfl, h3⟩ := h3
    refine em_bjoin ⟨trivial, (h.2 X rfl ok l σ₁ _ hl h3).mono fun vs σ₂ h4 => ek_nil ?_⟩
    unfold bjA at h4
    split at h4
    · exact h4.elim
    · split at h4
      · unfold bjoin at h4
        obtain ⟨i, bs, rfl, hi, hz, hq⟩ := h4
        exact fn_bjoin hi hz hq
      · exact h4.elim
end
end
section
open PySem PySem.W PyProof.Rows PySem.Calls
/-- isinstance(octets, C), C a class of the module's own -/
theorem fn_isi_bytesN {c : Cx} {D : Nat} {σ : Hp} {C : Addr} {b : List UInt8} {Q : V → Hp → Prop} (e : kitOne c.K (.type "bytes") (.ref C) = some false) (h : Q (.bool false) σ) : FN c D (.val (.builtin "isinstance")) [.bytes b, .val (.ref C)] [] σ Q := by
  refine fn2 fun A g ρ z s Q' E' w₁ w₂ ok P r₁ r₂ q => ?_
  cases r₂; cases r₁
  exact kia_one kitx_bytes (P.base.X.keeps P.keep) trivial e (by intro q; cases q) fun tk => q _ _ _ _ _ _ h (P.toks _) (Go.toks ..) (.bool _)
@[irreducible] def isiS (C : Addr) (vs : List V) (ks : List (Str × V)) (σ : Hp) (K : V → Hp → Prop) : Prop := ∃ b, vs = [.bytes b, .val (.ref C)] ∧ ks = [] ∧ K (.bool false) σ
theorem isiS_of {C : Addr} {b : List UInt8} {σ : Hp} {K : V → Hp → Prop} (h : K (.bool false) σ) : isiS C [.bytes b, .val (.ref C)] [] σ K := by unfold isiS; exact ⟨b, rfl, rfl, h⟩
def isiC (C : Addr) (wl : WL) (wk : WK) : WE := fun X l σ Q => wl X l σ fun vs σ₁ => wk X l σ₁ fun ks σ₂ => isiS C vs ks σ₂ Q
section
variable {c : Cx} {env : Env} {ns : List Str} {pos : Pos}
theorem ce_isiN {p : Pos} {args : List Expr} {kws : List Keyword} {wl : WL} {wk : WK} {C : Addr} (ek : kitOne c.K (.type "bytes") (.ref C) = some false) (e : nsIn c.K mainGlobals "isinstance" = some none) (hb : bootBuiltins "isinstance" = some (.builtin "isinstance"))
    (h : CL c env ns pos args wl) (hw : CK c env ns pos kws wk) (he : eval (.Call (.Name "isinstance" p) args kws pos) env = (do callWith pos (← eval (.Name "isinstance" p) env) [] (backTo pos (starEach args env)) (backToKw pos (keywordEach kws env))) := by (subst_vars; kernel_rfl))
    (hkd : env.kindOf "isinstance" = some .globalImplicit := by (subst_vars; kernel_rfl)) : CE c env ns (.Call (.Name "isinstance" p) args kws pos) (isiC C wl wk) := fun X ec ok l σ Q hl h1 => by
  subst ec
  refine ev_call hw.1 (ev_bltn e hb ⟨trivial, (h.2 X rfl ok l σ _ hl h1).mono fun vs σ₁ h2 => (hw.2 X rfl ok l σ₁ _ hl h2).mono fun ks σ₂ h3 => ?_⟩ hkd) he
  unfold isiS at h3
  obtain ⟨b, rfl, rfl, h3⟩ := h3
  exact fn_isi_bytesN ek h3
end
end
section
open PySem PySem.W PyProof.Rows PySem.Calls
set_option maxRecDepth 100000
@[reducible] noncomputable def KF := Mine.hd.heap_39
def kzL : List Addr := []
noncomputable def kzOf (K : Frag) : Led := kzL.filterMap fun a => (K.lookup a).map fun o => (a, o)
structure C3 (c : Cx) : Prop where
  kf : c.Kf = KF
  prog : c.prog = PySem.Challenge.rw_bj0064_02.prog
  kz : c.kz = kzOf (KF c.w.params)
  tt : c.tt = [(68, 64)]
  pin : ∃ ps, ∀ a, c.gi a ↔ PIN ps a
theorem C3.k {c : Cx} (h : C3 c) : c.K = Mine.hd.heap_39 c.w.params := by unfold Cx.K; rw [h.kf]
end
section
set_option maxRecDepth 100000
set_option maxHeartbeats 4000000
theorem fill_XU2 (P : Params) : Mine.hd.heap_39 P = Mine.hd.heap_39 P ∧ PySem.Challenge.rw_bj0064_02 = PySem.Challenge.rw_bj0064_02 := by
  k_fill
  exact ⟨rfl, rfl⟩
end
local macro_rules | `(tactic| k_in) => `(tactic| (rw [C3.k ‹C3 _›]; k_is))
local macro_rules | `(tactic| k_mem) => `(tactic| (first | with_reducible exact at0 | with_reducible exact at1 | with_reducible exact at2 | with_reducible exact at3 | with_reducible exact at4 | with_reducible exact at5 | with_reducible exact at6 | with_reducible exact at7 | with_reducible exact at8 | with_reducible exact at9 | with_reducible exact at10 | with_reducible exact at11 | with_reducible exact at12 | with_reducible exact at13 | with_reducible exact at14 | with_reducible exact at15 | with_reducible exact at16 | with_reducible exact at17 | with_reducible exact at18 | with_reducible exact at19 | with_reducible exact at20 | with_reducible exact at21 | with_reducible exact at22 | with_reducible exact at23 | with_reducible exact at24 | with_reducible exact at25))
local macro_rules | `(tactic| k_flat) => `(tactic| (first | with_reducible exact nm0 | with_reducible exact nm1 | with_reducible exact nm2 | with_reducible exact nm3 | with_reducible exact nm4 | with_reducible exact nm5 | with_reducible exact nm6 | with_reducible exact nm7 | with_reducible exact nm8 | with_reducible exact nm9 | with_reducible exact nm10 | with_reducible exact nm11 | with_reducible exact nm12 | with_reducible exact nm13 | with_reducible exact nm14 | with_reducible exact nm15 | with_reducible exact nm16 | with_reducible exact nm17 | with_reducible exact nm18 | with_reducible exact nm19 | with_reducible exact nm20 | with_reducible exact nm21 | with_reducible exact nm22 | with_reducible exact nm23 | with_reducible exact nm24 | with_reducible exact nm25 | with_reducible exact nm26 | with_reducible exact nm27 | with_reducible exact nm28 | with_reducible exact nm29 | with_reducible exact nm30 | with_reducible exact nm31 | with_reducible exact nm32 | with_reducible exact nm33 | with_reducible exact nm34 | with_reducible exact nm35 | with_reducible exact nm36 | with_reducible exact nm37 | with_reducible exact nm38 | with_reducible exact nm39 | with_reducible exact nm40 | with_reducible exact nm41 | with_reducible exact nm42 | with_reducible exact nm43 | with_reducible exact nm44 | with_reducible exact nm45 | with_reducible exact nm46 | with_reducible exact nm47 | with_reducible exact nm48 | with_reducible exact nm49 | with_reducible exact nm50 | with_reducible exact nm51 | with_reducible exact nm52))
local macro_rules | `(tactic| kda_here) => `(tactic| (first
  | ((with_reducible show CE _ _ _ _ _); first
    | ((with_reducible refine' ce_loc ?awa); (case awa => k_mem))
    | ((with_reducible refine' ce_globi ?awe); (case awe => k_in))
    | ((with_reducible refine' ce_globr ?awe); (case awe => k_in))
    | ((with_reducible refine' ce_globy ?awe); (case awe => k_in))
    | ((with_reducible refine' ce_bltt ?awe ?awh); (case awe => k_in); (case awh => boot_by_name))
    | with_reducible exact ce_int | with_reducible exact ce_none | with_reducible exact ce_bool | with_reducible exact ce_str | with_reducible exact ce_bytes
    | ((with_reducible refine' ce_attr ?awa ?awb); (case awa => kda_here); (case awb => k_flat))
    | ((with_reducible refine' ce_bin ?awa ?awb); (case awa => kda_here); (case awb => kda_here))
    | ((with_reducible refine' ce_cmp ?awa ?awb); (case awa => kda_here); (case awb => kda_here))
    | ((with_reducible refine' ce_slice ?awa ?awb ?awc); (case awa => kda_here); (case awb => kda_here); (case awc => kda_here))
    | ((with_reducible refine' ce_item ?awa ?awb ?awc); (case awc => rfl); (case awa => kda_here); (case awb => kda_here))
    | ((with_reducible refine' ce_not ?awa); (case awa => kda_here))
    | ((with_reducible refine' ce_ite ?awa ?awb ?awc); (case awa => kda_here); (case awb => kda_here); (case awc => kda_here))
    | ((with_reducible refine' ce_list ?awa); (case awa => kda_here))
    | ((with_reducible refine' ce_tup ?awa); (case awa => kda_here))
    | ((with_reducible refine' ce_calld ?awe ?awk ?awa ?awb); (case awe => k_in); (case awk => k_in); (case awa => kda_here); (case awb => kda_here))
    | ((with_reducible refine' ce_callb .len ?awe ?awh ?awv ?awa ?awb); (case awe => k_in); (case awh => boot_by_name); (case awv => rfl); (case awa => kda_here); (case awb => kda_here))
    | ((with_reducible refine' ce_callb .range ?awe ?awh ?awv ?awa ?awb); (case awe => k_in); (case awh => boot_by_name); (case awv => rfl); (case awa => kda_here); (case awb => kda_here))
    | ((with_reducible refine' ce_callb .abs ?awe ?awh ?awv ?awa ?awb); (case awe => k_in); (case awh => boot_by_name); (case awv => rfl); (case awa => kda_here); (case awb => kda_here))
    | ((with_reducible refine' ce_callb .int ?awe ?awh ?awv ?awa ?awb); (case awe => k_in); (case awh => boot_by_name); (case awv => rfl); (case awa => kda_here); (case awb => kda_here))
    | ((with_reducible refine' ce_callb .sum ?awe ?awh ?awv ?awa ?awb); (case awe => k_in); (case awh => boot_by_name); (case awv => rfl); (case awa => kda_here); (case awb => kda_here))
    | ((with_reducible refine' ce_callb .bytes ?awe ?awh ?awv ?awa ?awb); (case awe => k_in); (case awh => boot_by_name); (case awv => rfl); (case awa => kda_here); (case awb => kda_here))
    | ((with_reducible refine' ce_callb .isinstance ?awe ?awh ?awv ?awa ?awb); (case awe => k_in); (case awh => boot_by_name); (case awv => rfl); (case awa => kda_here); (case awb => kda_here))
    | ((with_reducible refine' ce_callg .bisect ?awe ?awv ?awa ?awb); (case awe => k_in); (case awv => rfl); (case awa => kda_here); (case awb => kda_here))
    | ((with_reducible refine' ce_dict ?awa ?awb ?awc); (case awb => simp); (case awc => decide); (case awa => kda_here))
    | with_reducible exact ce_dict0
    | (refine' ce_meth (pl := ?awp) ?awa ?awh ?awb ?awc rfl; (case awa => kda_here); (case awh => k_flat); (case awb => kda_here); (case awc => kda_here))
    | ((with_reducible refine' ce_and ?awa ?awb); (case awa => kda_here); (case awb => kda_here))
    | ((with_reducible refine' ce_or ?awa ?awb); (case awa => kda_here); (case awb => kda_here))
    | ((with_reducible refine' ce_bop1 ?awa); (case awa => kda_here)))
  | ((with_reducible show CB _ _ _ _ _); first
    | ((with_reducible refine' cb_cmp ?awa ?awb); (case awa => kda_here); (case awb => kda_here))
    | ((with_reducible refine' cb_not ?awa); (case awa => kda_here))
    | ((with_reducible refine' cb_bop ?awa); (case awa => kda_here))
    | (refine' cb_val ?awa; (case awa => kda_here)))
  | ((with_reducible show CBs _ _ _ _ _ _); first
    | ((with_reducible refine' cbs_and ?awa ?awb); (case awa => kda_here); (case awb => kda_here))
    | ((with_reducible refine' cbs_or ?awa ?awb); (case awa => kda_here); (case awb => kda_here))
    | with_reducible exact cbs_andE | with_reducible exact cbs_orE)
  | ((with_reducible show CO _ _ _ _ _); first
    | with_reducible exact co_none
    | ((with_reducible refine' co_some ?awa); (case awa => kda_here)))
  | ((with_reducible show CL _ _ _ _ _ _); first
    | with_reducible exact cl_nil
    | ((with_reducible refine' cl_cons ?awa ?awb); (case awa => kda_here); (case awb => kda_here)))
  | ((with_reducible show CK _ _ _ _ _ _); first
    | with_reducible exact ck_nil
    | ((with_reducible refine' ck_cons ?awa ?awb); (case awa => kda_here); (case awb => kda_here)))
  | ((with_reducible show CP _ _ _ _ _ _ _); first
    | with_reducible exact cp_nil
    | ((with_reducible refine' cp_cons ?awa ?awb ?awc); (case awa => kda_here); (case awb => kda_here); (case awc => kda_here)))
  | ((with_reducible show CAs _ _ _ _ _); first
    | ((with_reducible refine' ca_name ?awa); (case awa => k_mem))
    | ((with_reducible refine' ca_tup ?awa); (case awa => kda_here)))
  | ((with_reducible show CAss _ _ _ _ _); first
    | with_reducible exact cas_nil
    | ((with_reducible refine' cas_cons ?awa ?awb); (case awa => kda_here); (case awb => kda_here)))
  | ((with_reducible show CXs _ _ _ _ _); first
    | with_reducible exact cxs_nil
    | ((with_reducible refine' cxs_one ?awa); (case awa => kda_here))
    | ((with_reducible refine' cxs_cons ?awa ?awb); (case awa => kda_here); (case awb => kda_here)))
  | ((with_reducible show CX _ _ _ _ _); first
    | ((with_reducible refine' cx_asg ?awx ?awa); (case awx => k_mem); (case awa => kda_here))
    | ((with_reducible refine' cx_expr ?awa); (case awa => kda_here))
    | ((with_reducible refine' cx_if ?awa ?awb ?awc); (case awa => kda_here); (case awb => kda_here); (case awc => kda_here))
    | ((with_reducible refine' cx_ret ?awa); (case awa => kda_here))
    | with_reducible exact cx_retN | with_reducible exact cx_pass | with_reducible exact cx_break | with_reducible exact cx_continue
    | ((with_reducible refine' cx_set ?awa ?awb ?awc); (case awa => kda_here); (case awb => kda_here); (case awc => k_flat))
    | ((with_reducible refine' cx_sub ?awa ?awb ?awc); (case awa => kda_here); (case awb => kda_here); (case awc => kda_here))
    | ((with_reducible refine' cx_aug ?awx ?awa); (case awx => k_mem); (case awa => kda_here))
    | ((with_reducible refine' cx_augSet ?awa ?awb ?awc); (case awa => kda_here); (case awb => kda_here); (case awc => k_flat))
    | ((with_reducible refine' cx_augSub ?awa ?awb ?awc); (case awa => kda_here); (case awb => kda_here); (case awc => kda_here))
    | ((with_reducible refine' cx_asgT ?awa ?awb); (case awa => kda_here); (case awb => kda_here))
    | ((with_reducible refine' cx_for ?awa ?awb ?awc); (case awa => kda_here); (case awb => kda_here); (case awc => kda_here))
    | ((with_reducible refine' cx_while ?awa ?awb); (case awa => kda_here); (case awb => kda_here))
    | with_reducible exact cx_bad)))
local macro_rules | `(tactic| walk_at "side") => `(tactic| (first | assumption | (with_reducible rfl) | omega | exact PyProof.noPylong_small (by omega) | decide | (refine ⟨?_, ?_⟩ <;> walk_at "side") | (simp only [List.length_map, List.length_append, List.length_cons, List.length_nil, List.length_set, List.length_replicate]; omega) | mul_fits | fail))
local macro_rules | `(tactic| walk_at "obj") => `(tactic| (first | assumption | (with_reducible rfl) | (refine' at_same (o := ?awo) ?awh; (case awh => walk_at "obj")) | (refine' at_other (by (first | assumption | (apply Ne.symm; assumption) | decide)) ?awh; (case awh => walk_at "obj")) | exact at_new | (refine' at_app ?awh; (case awh => walk_at "obj")) | rfl))
local macro_rules | `(tactic| walk_at "vc") => `(tactic| ((conv => whnf); first
  | ((with_reducible refine' getO_of ?awa ?awb); (case awa => walk_at "obj"))
  | ((with_reducible refine chk_of ?awa ?awb); (case awa => walk_at "side"))
  | ((with_reducible refine getVI ?awa ?awb); (case awa => walk_at "side"))
  | ((with_reducible refine' getV_of ?awa ?awb); (case awa => rfl))
  | ((with_reducible refine br_t ?awa ?awb); (case awa => first | rfl | assumption | (apply decide_eq_true; omega) | fail))
  | ((with_reducible refine And.intro ?awa ?awb); (case awa => first | (with_reducible rfl) | assumption | fail))
  | ((with_reducible refine' ascii_of ?awa ?awb); (case awa => assumption))
  | ((with_reducible refine' intText_of ?awa ?awc ?awb); (case awa => assumption); (case awc => assumption))
  | ((with_reducible refine br_f ?awa ?awb); (case awa => first | rfl | assumption | (apply decide_eq_false; omega) | fail))
  | fail))
section
open PySem PySem.W PyProof.Rows PySem.Calls
set_option maxRecDepth 100000
set_option maxHeartbeats 4000000
def clsL : List (Addr × Nat × CA) := [(160, 11, .no), (160, 12, .no), (160, 42, .meth 143),
  (392, 14, .prop 261 270), (392, 15, .val .none), (392, 16, .no), (392, 17, .no), (392, 18, .no), (392, 19, .prop 278 287), (392, 20, .no), (392, 21, .no), (392, 22, .no), (392, 23, .meth 295),
  (392, 24, .no), (392, 25, .no), (392, 26, .no), (392, 27, .no), (392, 28, .meth 303)]
set_option maxHeartbeats 40000000 in
theorem clsL_ok {c : Cx} (hC : C3 c) : ∀ e ∈ clsL, CAok c e.1 e.2.1 e.2.2 := by
  unfold clsL
  repeat' (first | exact mem_nil | refine mem_cons ?_ ?_)
  all_goals first
    | exact ⟨⟨by k_in, by k_in⟩, by k_in, by k_in, by k_in⟩
    | exact ⟨⟨by k_in, by k_in⟩, ⟨by k_in, by k_in, by k_in⟩, ⟨_, by k_in, by k_in⟩, by k_in⟩
    | exact ⟨⟨by k_in, by k_in⟩, ⟨by k_in, by k_in, by k_in⟩, by k_in, Value.none, rfl, by k_in, by k_in, rfl, by decide +kernel, by k_in⟩
    | exact ⟨⟨by k_in, by k_in⟩, ⟨by k_in, by k_in, by k_in⟩, _, _, by k_in, by k_in, by k_in, by k_in, by k_in, by k_in⟩
def kvL (P : Params) : List (Addr × V) := []
theorem kvL_ok {c : Cx} (hC : C3 c) : ∀ e ∈ kvL c.w.params, ∃ n, kvOf c.kz n (.ref e.1) = e.2 := by
  unfold kvL
  exact mem_nil
def X3 (c : Cx) (D : Nat) : Ex := ⟨c, D, clsGet clsL, fun _ _ => none, kvGet (kvL c.w.params), false⟩
theorem X3_ok {c : Cx} (hC : C3 c) (D : Nat) : XOk (X3 c D) := ⟨clsGet_ok (clsL_ok hC), fun _ _ _ h => (nomatch h), kvGet_ok (kvL_ok hC)⟩
end
section
open PySem PySem.W PyProof.Rows PySem.Calls
set_option maxRecDepth 100000
set_option maxHeartbeats 4000000
def to_bytes : { w : WX // ∀ c, C3 c → Def c 114 ["data"] [] (shP 1) w } := ⟨_, fun c hC => ⟨⟨_, _, _, _, _, by k_in, rfl, by k_in, ⟨by decide, by decide, by decide⟩, ⟨rfl, rfl, rfl, rfl, rfl⟩, sh1 (fun _ => rfl), fun L env he => by
  simp only [List.cons_append, List.nil_append]
  kda_here⟩⟩⟩
def chk_ver : { w : WX // ∀ c, C3 c → Def c 92 ["version"] [] (shP 1) w } := ⟨_, fun c hC => ⟨⟨_, _, _, _, _, by k_in, rfl, by k_in, ⟨by decide, by decide, by decide⟩, ⟨rfl, rfl, rfl, rfl, rfl⟩, sh1 (fun _ => rfl), fun L env he => by
  simp only [List.cons_append, List.nil_append]
  kda_here⟩⟩⟩
def chk_box : { w : WX // ∀ c, C3 c → Def c 225 ["size"] [] (shP 1) w } := ⟨_, fun c hC => ⟨⟨_, _, _, _, _, by k_in, rfl, by k_in, ⟨by decide, by decide, by decide⟩, ⟨rfl, rfl, rfl, rfl, rfl⟩, sh1 (fun _ => rfl), fun L env he => by
  simp only [List.cons_append, List.nil_append]
  kda_here⟩⟩⟩
def chk_border : { w : WX // ∀ c, C3 c → Def c 232 ["size"] [] (shP 1) w } := ⟨_, fun c hC => ⟨⟨_, _, _, _, _, by k_in, rfl, by k_in, ⟨by decide, by decide, by decide⟩, ⟨rfl, rfl, rfl, rfl, rfl⟩, sh1 (fun _ => rfl), fun L env he => by
  simp only [List.cons_append, List.nil_append]
  kda_here⟩⟩⟩
def chk_mask : { w : WX // ∀ c, C3 c → Def c 239 ["mask_pattern"] [] (shP 1) w } := ⟨_, fun c hC => ⟨⟨_, _, _, _, _, by k_in, rfl, by k_in, ⟨by decide, by decide, by decide⟩, ⟨rfl, rfl, rfl, rfl, rfl⟩, sh1 (fun _ => rfl), fun L env he => by
  simp only [List.cons_append, List.nil_append]
  kda_here⟩⟩⟩
def qr_ver_s : { w : WX // ∀ c, C3 c → Def c 270 ["self", "value"] [] (shP 2) w } := ⟨_, fun c hC => ⟨⟨_, _, _, _, _, by k_in, rfl, by k_in, ⟨by decide, by decide, by decide⟩, ⟨rfl, rfl, rfl, rfl, rfl⟩, sh2 (fun _ _ => rfl), fun L env he => by
  simp only [List.cons_append, List.nil_append]
  kda_here⟩⟩⟩
def qr_mask_s : { w : WX // ∀ c, C3 c → Def c 287 ["self", "pattern"] [] (shP 2) w } := ⟨_, fun c hC => ⟨⟨_, _, _, _, _, by k_in, rfl, by k_in, ⟨by decide, by decide, by decide⟩, ⟨rfl, rfl, rfl, rfl, rfl⟩, sh2 (fun _ _ => rfl), fun L env he => by
  simp only [List.cons_append, List.nil_append]
  kda_here⟩⟩⟩
def qr_clear : { w : WX // ∀ c, C3 c → Def c 295 ["self"] [] (shP 1) w } := ⟨_, fun c hC => ⟨⟨_, _, _, _, _, by k_in, rfl, by k_in, ⟨by decide, by decide, by decide⟩, ⟨rfl, rfl, rfl, rfl, rfl⟩, sh1 (fun _ => rfl), fun L env he => by
  simp only [List.cons_append, List.nil_append]
  kda_here⟩⟩⟩
def next : { w : WX // ∀ c, C3 c → Def c 403 ["state", "many"] ["found"] (shP 2) w } := ⟨_, fun c hC => ⟨⟨_, _, _, _, _, by k_in, rfl, by k_in, ⟨by decide, by decide, by decide⟩, ⟨rfl, rfl, rfl, rfl, rfl⟩, sh2 (fun _ _ => rfl), fun L env he => by
  simp only [List.cons_append, List.nil_append]
  kda_here⟩⟩⟩
end
section
open PySem PySem.W PyProof.Rows PySem.Calls
set_option maxRecDepth 100000
set_option maxHeartbeats 4000000
def shQI : Shape := fun a k v => (∃ s d m, a = [s, d] ∧ k = [(("mode" : Str), m)] ∧ v = [s, d, m, .bool true]) ∨ (∃ s d m q, a = [s, d] ∧ k = [(("mode" : Str), m), (("check_data" : Str), q)] ∧ v = [s, d, m, q])
theorem shQI_ok {c : Cx} {fd : FuncData} {T : Addr} {o : Obj} {items : Array Value} {n : Nat} (ho : c.K.lookup T = some o) (hd : fd.defaults = .ref T) (hs : o.data = .seq items n)
    (h1 : ∀ a b d, ∃ k, bindArgs fd ⟨[a, b], [(("mode" : Str), d)]⟩ = seqItems? fd.defaults >>= k ∧ k (some items) = pure [(("self" : Str), a), (("data" : Str), b), (("mode" : Str), d), (("check_data" : Str), .bool true)])
    (h2 : ∀ a b d e, ∃ k, bindArgs fd ⟨[a, b], [(("mode" : Str), d), (("check_data" : Str), e)]⟩ = seqItems? fd.defaults >>= k ∧ k (some items) = pure [(("self" : Str), a), (("data" : Str), b), (("mode" : Str), d), (("check_data" : Str), e)]) :
    ∀ args kw vals, shQI args kw vals → BindA c fd args kw (List.zip ["self", "data", "mode", "check_data"] vals) ∧ vals.length = List.length (α := Str) ["self", "data", "mode", "check_data"] := by
  rintro args kw vals (⟨s, d, m, rfl, rfl, rfl⟩ | ⟨s, d, m, q, rfl, rfl, rfl⟩)
  · refine ⟨bindD ho hd hs fun ws kws hw hk => ?_, rfl⟩
    obtain ⟨a, b, rfl⟩ := len2 hw
    obtain ⟨x, rfl⟩ := len1 hk
    obtain ⟨k, e1, e2⟩ := h1 a b x
    exact ⟨k, _, e1, e2, fun z ρ rl rk => ⟨rfl, .cons (vrl2 rl).1 (.cons (vrl2 rl).2 (.cons (vrl1 rk) (.cons (.bool _) .nil)))⟩⟩
  · refine ⟨bindD ho hd hs fun ws kws hw hk => ?_, rfl⟩
    obtain ⟨a, b, rfl⟩ := len2 hw
    obtain ⟨x, y, rfl⟩ := len2 hk
    obtain ⟨k, e1, e2⟩ := h2 a b x y
    exact ⟨k, _, e1, e2, fun z ρ rl rk => ⟨rfl, .cons (vrl2 rl).1 (.cons (vrl2 rl).2 (.cons (vrl2 rk).1 (.cons (vrl2 rk).2 .nil)))⟩⟩
def qd_init : { w : WX // ∀ c, C3 c → Def c 136 ["self", "data", "mode", "check_data"] [] shQI w } := ⟨_, fun c hC => ⟨⟨_, _, _, _, _, by k_in, rfl, by k_in, ⟨by decide, by decide, by decide⟩, ⟨rfl, rfl, rfl, rfl, rfl⟩, (by
  refine' shQI_ok ?b1 ?a1 ?c1 ?d1 ?e1
  case a1 => rfl
  case b1 => k_in
  case c1 => rfl
  case d1 => exact fun _ _ _ => ⟨_, rfl, rfl⟩
  case e1 => exact fun _ _ _ _ => ⟨_, rfl, rfl⟩), fun L env he => by
  simp only [List.cons_append, List.nil_append]
  kda_here⟩⟩⟩

def lrow : { w : WX // ∀ c, C3 c → Def c 410 ["state"] ["row", "_", "kind", "figure"] (shP 1) w } := ⟨_, fun c hC => ⟨⟨_, _, _, _, _, by k_in, rfl, by k_in, ⟨by decide, by decide, by decide⟩, ⟨rfl, rfl, rfl, rfl, rfl⟩, sh1 (fun _ => rfl), fun L env he => by
  simp only [List.cons_append, List.nil_append]
  kda_here⟩⟩⟩
end
section
open PySem PySem.W PyProof.Rows PySem.Calls
set_option maxRecDepth 100000
set_option maxHeartbeats 4000000
theorem to_bytes_ {c : Cx} (hC : C3 c) {D : Nat} {σ : Hp} {b : List UInt8} {Q : V → Hp → Prop} (h : Q (.bytes b) σ) : FC c (D + 1) (.val (.ref 114)) [.bytes b] [] σ Q := by
  refine (to_bytes.2 c hC).fc (X3 c D) rfl (X3_ok hC _) ⟨rfl, rfl, rfl⟩ ?_
  conv => whnf
  refine ⟨rfl, ?_⟩
  repeat' walk_at "vc"
  all_goals (conv => whnf)
  all_goals exact h
/-- a part, unchecked -/
def qdV (m : Int) (b : List UInt8) : V := .obj 160 [(11, .int m), (12, .bytes b)]
theorem qd_newF_ {c : Cx} (hC : C3 c) {D : Nat} {σ : Hp} {b : List UInt8} {md : Int} {Q : V → Hp → Prop} (hm : md = 1 ∨ md = 2 ∨ md = 4) (h : Q (qdV md b) σ) :
    FC c (D + 3) (.val (.ref 160)) [.bytes b] [("mode", .int md), ("check_data", .bool false)] σ Q := by
  refine FC.keepOne ?_
  refine FC.cls (fI := 136) ⟨by k_in, by k_in, by k_in⟩ ?_
  refine (qd_init.2 c hC).fc (X3 c (D + 1)) rfl (X3_ok hC _) (.inr ⟨_, _, _, _, rfl, rfl, rfl⟩) ?_
  rcases hm with rfl | rfl | rfl
  all_goals
    repeat' walk_at "vc"
    conv => whnf
  all_goals
    refine chk_of ⟨rfl, rfl⟩ ?_
    repeat' walk_at "vc"
    conv => whnf
  · exact ⟨.inst 160 [(11, .int 1), (12, .bytes b)], qdV 1 b, [], rfl, by simp [nth], .inst, ⟨trivial, trivial, trivial⟩, h⟩
  · exact ⟨.inst 160 [(11, .int 2), (12, .bytes b)], qdV 2 b, [], rfl, by simp [nth], .inst, ⟨trivial, trivial, trivial⟩, h⟩
  · exact ⟨.inst 160 [(11, .int 4), (12, .bytes b)], qdV 4 b, [], rfl, by simp [nth], .inst, ⟨trivial, trivial, trivial⟩, h⟩
theorem chk_box_ {c : Cx} (hC : C3 c) {D : Nat} {σ : Hp} {v : Int} {Q : V → Hp → Prop} (h1 : 0 < v) (h : Q .none σ) : FC c (D + 1) (.val (.ref 225)) [.int v] [] σ Q := by
  refine (chk_box.2 c hC).fc (X3 c D) rfl (X3_ok hC _) ⟨rfl, rfl, rfl⟩ ?_
  repeat' walk_at "vc"
  all_goals (conv => whnf)
  all_goals exact h
theorem chk_border_ {c : Cx} (hC : C3 c) {D : Nat} {σ : Hp} {v : Int} {Q : V → Hp → Prop} (h1 : 0 ≤ v) (h : Q .none σ) : FC c (D + 1) (.val (.ref 232)) [.int v] [] σ Q := by
  refine (chk_border.2 c hC).fc (X3 c D) rfl (X3_ok hC _) ⟨rfl, rfl, rfl⟩ ?_
  repeat' walk_at "vc"
  all_goals (conv => whnf)
  all_goals exact h
theorem chk_mask_ {c : Cx} (hC : C3 c) {D : Nat} {σ : Hp} {Q : V → Hp → Prop} (h : Q .none σ) : FC c (D + 1) (.val (.ref 239)) [.none] [] σ Q := by
  refine (chk_mask.2 c hC).fc (X3 c D) rfl (X3_ok hC _) ⟨rfl, rfl, rfl⟩ ?_
  repeat' walk_at "vc"
  all_goals (conv => whnf)
  all_goals exact h
def putF (v : V) (fs : List (Nat × V)) (k : Nat) : List (Nat × V) := match fs with
  | [] => [(k, v)]
  | (y, u) :: r => if y = k then (k, v) :: r else (y, u) :: putF v r k
theorem setF_put : ∀ {fs : List (Nat × V)} {k : Nat} {v : V} {K : List (Nat × V) → Prop}, K (putF v fs k) → setF fs k v K
  | [], _, _, _, h => h
  | (y, u) :: r, k, v, K, h => by
    unfold setF
    unfold putF at h
    show (match y.beq k with | true => K ((k, v) :: r) | false => setF r k v fun r' => K ((y, u) :: r'))
    split
    · rename_i e; rw [if_pos (Nat.eq_of_beq_eq_true e)] at h; exact h
    · rename_i e; rw [if_neg (Nat.ne_of_beq_eq_false e)] at h; exact setF_put (K := fun r' => K ((y, u) :: r')) h
theorem putF_len (v : V) : ∀ (fs : List (Nat × V)) (k : Nat), (putF v fs k).length ≤ fs.length + 1
  | [], _ => by simp [putF]
  | (y, u) :: r, k => by
    unfold putF
    split
    · simp
    · simp; exact putF_len v r k
theorem mask_set_ {c : Cx} (hC : C3 c) {D : Nat} {σ : Hp} {i : Nat} {fs : List (Nat × V)} {Q : V → Hp → Prop} (hi : σ[i]? = some (.inst 392 fs)) (hl : fs.length ≤ 50) (h : Q .none (σ.set i (.inst 392 (putF .none fs 20)))) : FC c (D + 2) (.val (.ref 287)) [.ref i, .none] [] σ Q := by
  have hl2 := putF_len .none fs 20
  refine (qr_mask_s.2 c hC).fc (X3 c (D + 1)) rfl (X3_ok hC _) ⟨rfl, rfl, rfl⟩ ?_
  repeat' walk_at "vc"
  conv => whnf
  refine chk_mask_ hC ?_
  repeat' walk_at "vc"
  conv => whnf
  refine setF_put (chk_of (Nat.le_trans hl2 (by omega)) ?_)
  exact h
theorem ver_setN_ {c : Cx} (hC : C3 c) {D : Nat} {σ : Hp} {i : Nat} {fs : List (Nat × V)} {Q : V → Hp → Prop} (hi : σ[i]? = some (.inst 392 fs)) (hl : fs.length ≤ 50) (h : Q .none (σ.set i (.inst 392 (putF .none fs 15)))) : FC c (D + 2) (.val (.ref 270)) [.ref i, .none] [] σ Q := by
  have hl2 := putF_len .none fs 15
  refine (qr_ver_s.2 c hC).fc (X3 c (D + 1)) rfl (X3_ok hC _) ⟨rfl, rfl, rfl⟩ ?_
  repeat' walk_at "vc"
  conv => whnf
  refine setF_put (chk_of (Nat.le_trans hl2 (by omega)) ?_)
  exact h
def qrF (n : Nat) (e : Int) (ver : V) (cache : V) : List (Nat × V) := [(15, ver), (16, .int e), (17, .int 10), (18, .int 4), (20, .none), (21, .none), (22, .ref (n + 1)), (24, .ref (n + 3)), (25, .int 0), (26, cache), (27, .ref (n + 4))]
def qrH (n : Nat) (e : Int) (ver : V) (parts : List V) : Hp := [.inst 392 (qrF n e ver .none), .dict [] [], .list [], .list [.ref (n + 2)], .list parts]
def shQR : Shape := fun a k v => ∃ s, a = [s] ∧ k = [] ∧ v = [s, .none, .int 0, .int 10, .int 4, .none, .none]
theorem shQR_ok {c : Cx} {fd : FuncData} {T : Addr} {o : Obj} {items : Array Value} {n : Nat} (ho : c.K.lookup T = some o) (hd : fd.defaults = .ref T) (hs : o.data = .seq items n)
    (h1 : ∀ a, ∃ k t0 t1 t2, bindArgs fd ⟨[a], []⟩ = seqItems? fd.defaults >>= k ∧ k (some items) = pure [(("self" : Str), a), (("version" : Str), .none), (("error_correction" : Str), .int 0 t0), (("box_size" : Str), .int 10 t1), (("border" : Str), .int 4 t2), (("image_factory" : Str), .none), (("mask_pattern" : Str), .none)]) :
    ∀ args kw vals, shQR args kw vals → BindA c fd args kw (List.zip ["self", "version", "error_correction", "box_size", "border", "image_factory", "mask_pattern"] vals) ∧ vals.length = List.length (α := Str) ["self", "version", "error_correction", "box_size", "border", "image_factory", "mask_pattern"] := by
  rintro args kw vals ⟨s, rfl, rfl, rfl⟩
  refine ⟨bindD ho hd hs fun ws kws hw hk => ?_, rfl⟩
  obtain ⟨a, rfl⟩ := len1 hw
  obtain rfl := len0 hk
  obtain ⟨k, t0, t1, t2, e1, e2⟩ := h1 a
  exact ⟨k, _, e1, e2, fun z ρ rl rk => ⟨rfl, .cons (vrl1 rl) (.cons .none (.cons (.int _ _) (.cons (.int _ _) (.cons (.int _ _) (.cons .none (.cons .none .nil))))))⟩⟩
def qr_init : { w : WX // ∀ c, C3 c → Def c 254 ["self", "version", "error_correction", "box_size", "border", "image_factory", "mask_pattern"] [] shQR w } := ⟨_, fun c hC => ⟨⟨_, _, _, _, _, by k_in, rfl, by k_in, ⟨by decide, by decide, by decide⟩, ⟨rfl, rfl, rfl, rfl, rfl⟩, (by
  refine' shQR_ok ?b1 ?a1 ?c1 ?d1
  case a1 => rfl
  case b1 => k_in
  case c1 => rfl
  case d1 => exact fun _ => ⟨_, _, _, _, rfl, rfl⟩), fun L env he => by
  simp only [List.cons_append, List.nil_append]
  kda_here⟩⟩⟩
theorem qr_new_ {c : Cx} (hC : C3 c) {D : Nat} {σ : Hp} {Q : V → Hp → Prop} (h : Q (.ref σ.length) (σ ++ qrH σ.length 0 .none [])) : FC c (D + 5) (.val (.ref 392)) [] [] σ Q := by
  refine FC.cls (fI := 254) ⟨by k_in, by k_in, by k_in⟩ ?_
  refine (qr_init.2 c hC).fc (X3 c (D + 3)) rfl (X3_ok hC _) ⟨_, rfl, rfl, rfl⟩ ?_
  repeat' walk_at "vc"
  conv => whnf
  refine chk_box_ hC (by omega) ?_
  repeat' walk_at "vc"
  conv => whnf
  refine chk_border_ hC (by omega) ?_
  repeat' walk_at "vc"
  conv => whnf
  refine ver_setN_ hC (fs := []) (by simp) (by simp) ?_
  repeat' walk_at "vc"
  conv => whnf
  refine mask_set_ hC (fs := [(15, .none), (16, .int 0), (17, .int 10), (18, .int 4)]) (by walk_at "obj") (by simp) ?_
  repeat' walk_at "vc"
  conv => whnf
  refine (qr_clear.2 c hC).fc (X3 c (D + 2)) rfl (X3_ok hC _) ⟨rfl, rfl, rfl⟩ ?_
  repeat' walk_at "vc"
  conv => whnf
  simpa [qrH, qrF, putF, nth, List.set_append] using h
end
section
open PySem PySem.W PyProof.Rows PySem.Calls
theorem clip_nat (n i : Nat) : clipAt n (i : Int) = min i n := by
  unfold clipAt; split <;> omega
theorem cutN {α : Type} (l : List α) (n : Nat) : cut l none (some (n : Int)) = l.take n := by
  unfold cut
  simp only [Option.elim, clip_nat]
  by_cases h : n ≤ l.length
  · rw [Nat.min_eq_left h]; simp
  · rw [Nat.min_eq_right (by omega)]
    rw [List.take_of_length_le (by simp), List.take_of_length_le (by omega)]
    simp
theorem cut_drop {α : Type} (l : List α) (n : Nat) : cut l (some (n : Int)) none = l.drop n := by
  unfold cut
  simp only [Option.elim, clip_nat]
  by_cases h : n ≤ l.length
  · rw [Nat.min_eq_left h, List.take_of_length_le (by simp)]
  · rw [Nat.min_eq_right (by omega), List.drop_eq_nil_of_le (Nat.le_refl _), List.drop_eq_nil_of_le (by omega)]; simp
theorem cut_mid {α : Type} (l : List α) (s e : Nat) (h : s ≤ e) (he : e ≤ l.length) : cut l (some (s : Int)) (some (e : Int)) = (l.take e).drop s := by
  unfold cut
  simp only [Option.elim, clip_nat]
  rw [Nat.min_eq_left he, Nat.min_eq_left (by omega), List.drop_take]
structure Pat where
  signs : List UInt8
  least : Option Nat
def Pat.V (p : Pat) : Mine.V := .tup [.bytes p.signs, match p.least with | none => .none | some n => .int (n : Int)]
def firstRun (f : UInt8 → Bool) (m : Nat) : List UInt8 → Option (Nat × Nat)
  | [] => none
  | x :: t => if m ≤ ((x :: t).takeWhile f).length then some (0, ((x :: t).takeWhile f).length) else (firstRun f m t).map fun q => (q.1 + 1, q.2 + 1)
def endOf (d : List UInt8) : Nat := if d.getLast? = some 10 then d.length - 1 else d.length
def runOf (p : Pat) (d : List UInt8) : Option (Nat × Nat) := match p.least with
  | none => if 0 < endOf d ∧ ((d.take (endOf d)).all fun x => p.signs.contains x) = true then some (0, endOf d) else none
  | some m => firstRun (fun x => p.signs.contains x) m d
def runV (p : Pat) (d : List UInt8) : Mine.V := match runOf p d with
  | some (s, e) => .tup [.int (s : Int), .int (e : Int)]
  | none => .none
def splitN (p : Pat) : Nat → List UInt8 → List (Bool × List UInt8)
  | 0, _ => []
  | n + 1, d => if d = [] then [] else match runOf p d with
    | none => [(false, d)]
    | some (s, e) => (if s = 0 then [] else [(false, d.take s)]) ++ (true, (d.take e).drop s) :: splitN p n (d.drop e)
def splitL (p : Pat) (d : List UInt8) : List (Bool × List UInt8) := splitN p (d.length + 1) d
def pairV (q : Bool × List UInt8) : Mine.V := .tup [.bool q.1, .bytes q.2]
theorem splitN_more (p : Pat) (hp : ∀ d s e, runOf p d = some (s, e) → s < e ∧ e ≤ d.length) : ∀ n m d, d.length < n → d.length < m → splitN p n d = splitN p m d
  | 0, _, d, h, _ => absurd h (Nat.not_lt_zero _)
  | _ + 1, 0, d, _, h => absurd h (Nat.not_lt_zero _)
  | n + 1, m + 1, d, h1, h2 => by
    simp only [splitN]
    by_cases hd : d = []
    · rw [if_pos hd, if_pos hd]
    · rw [if_neg hd, if_neg hd]
      cases hr : runOf p d with
      | none => rfl
      | some q =>
        obtain ⟨s, e⟩ := q
        have := hp d s e hr
        simp only
        rw [splitN_more p hp n m (d.drop e) (by simp; omega) (by simp; omega)]
def PatOk (p : Pat) : Prop := ∀ d s e, runOf p d = some (s, e) → s < e ∧ e ≤ d.length
theorem splitL_none {p : Pat} {d : List UInt8} (hd : d ≠ []) (h : runOf p d = none) : splitL p d = [(false, d)] := by
  unfold splitL splitN
  rw [if_neg hd, h]
theorem splitL_some {p : Pat} {d : List UInt8} {s e : Nat} (hp : PatOk p) (hd : d ≠ []) (h : runOf p d = some (s, e)) : splitL p d = (if s = 0 then [] else [(false, d.take s)]) ++ (true, (d.take e).drop s) :: splitL p (d.drop e) := by
  have := hp d s e h
  unfold splitL
  conv => lhs; unfold splitN
  rw [if_neg hd, h]
  simp only
  rw [splitN_more p hp d.length ((d.drop e).length + 1) (d.drop e) (by simp; omega) (by omega)]
theorem lastcut (d : List UInt8) : (cut d (some (-1)) none == [10]) = decide (d.getLast? = some 10) := by
  have e : cut d (some (-1)) none = d.drop (d.length - 1) := by
    unfold cut
    have : clipAt d.length (-1) = d.length - 1 := by unfold clipAt; split <;> omega
    simp only [Option.elim, this]
    rw [List.take_of_length_le (by simp)]
  rw [e]
  cases hd : d.getLast? with
  | none =>
    rw [List.getLast?_eq_none_iff] at hd
    subst hd; rfl
  | some x =>
    obtain ⟨ys, rfl⟩ := List.getLast?_eq_some_iff.mp hd
    simp
    by_cases h : x = 10 <;> simp [h]
theorem splitN_len {p : Pat} : ∀ n d, ∀ q ∈ splitN p n d, q.2.length ≤ d.length
  | 0, d, q, h => by simp [splitN] at h
  | n + 1, d, q, h => by
    simp only [splitN] at h
    split at h
    · simp at h
    · split at h
      · simp at h; subst h; exact Nat.le_refl _
      · rename_i s e _
        simp only [List.mem_append, List.mem_cons] at h
        rcases h with h | rfl | h
        · split at h
          · simp at h
          · simp at h; subst h; simp; omega
        · simp; omega
        · have := splitN_len n _ q h
          simp at this; omega
theorem splitL_len {p : Pat} {d : List UInt8} : ∀ q ∈ splitL p d, q.2.length ≤ d.length := splitN_len _ d
/-- how far a run goes from i on -/
def rl (f : UInt8 → Bool) (d : List UInt8) (i : Nat) : Nat := ((d.drop i).takeWhile f).length
theorem rl_step {f : UInt8 → Bool} {d : List UInt8} {e : Nat} (he : e < d.length) (hf : f d[e] = true) : rl f d e = 1 + rl f d (e + 1) := by
  unfold rl
  rw [List.drop_eq_getElem_cons he, List.takeWhile_cons, if_pos hf, List.length_cons]; omega
theorem rl_stop {f : UInt8 → Bool} {d : List UInt8} {e : Nat} (h : ∀ he : e < d.length, f d[e] = false) : rl f d e = 0 := by
  unfold rl
  by_cases he : e < d.length
  · rw [List.drop_eq_getElem_cons he, List.takeWhile_cons, if_neg (by rw [h he]; decide)]; rfl
  · rw [List.drop_eq_nil_of_le (by omega)]; rfl
theorem rl_le (f : UInt8 → Bool) (d : List UInt8) (i : Nat) : rl f d i ≤ d.length - i := by
  unfold rl
  have := (List.takeWhile_sublist f (l := d.drop i)).length_le
  rw [List.length_drop] at this; exact this
def shq (i : Nat) (q : Nat × Nat) : Nat × Nat := (q.1 + i, q.2 + i)
theorem fr_hit {f : UInt8 → Bool} {m : Nat} {d : List UInt8} {i : Nat} (hi : i < d.length) (hh : firstRun f m d = (firstRun f m (d.drop i)).map (shq i)) (h : m ≤ rl f d i) : firstRun f m d = some (i, i + rl f d i) := by
  rw [hh]
  unfold rl at h ⊢
  rw [List.drop_eq_getElem_cons hi] at h ⊢
  unfold firstRun
  rw [if_pos h]
  simp [shq]; omega
theorem fr_miss {f : UInt8 → Bool} {m : Nat} {d : List UInt8} {i : Nat} (hi : i < d.length) (hh : firstRun f m d = (firstRun f m (d.drop i)).map (shq i)) (h : ¬ m ≤ rl f d i) : firstRun f m d = (firstRun f m (d.drop (i + 1))).map (shq (i + 1)) := by
  rw [hh]
  unfold rl at h
  rw [List.drop_eq_getElem_cons hi] at h ⊢
  rw [show firstRun f m (d[i] :: List.drop (i + 1) d) = (firstRun f m (d.drop (i + 1))).map fun q => (q.1 + 1, q.2 + 1) from if_neg h]
  rw [Option.map_map]
  congr 1
  funext q
  simp [shq]; omega
theorem firstRun_ok {f : UInt8 → Bool} {m : Nat} (hm : 0 < m) : ∀ (d : List UInt8) (s e : Nat), firstRun f m d = some (s, e) → s < e ∧ e ≤ d.length
  | [], s, e, h => by simp [firstRun] at h
  | x :: t, s, e, h => by
    unfold firstRun at h
    split at h
    · rename_i hle
      simp only [Option.some.injEq, Prod.mk.injEq] at h
      have := (List.takeWhile_sublist f (l := x :: t)).length_le
      omega
    · cases hq : firstRun f m t with
      | none => rw [hq] at h; simp at h
      | some q =>
        rw [hq] at h
        obtain ⟨a, b⟩ := q
        have := firstRun_ok hm t a b hq
        simp at h
        simp; omega
theorem patW_ok (s : List UInt8) {m : Nat} (hm : 0 < m) (d : List UInt8) : PatOk (if d.length ≤ m then ⟨s, none⟩ else ⟨s, some m⟩) := by
  intro x a b h
  split at h
  · unfold runOf at h
    dsimp only at h
    split at h
    · rename_i hc
      simp only [Option.some.injEq, Prod.mk.injEq] at h
      obtain ⟨rfl, rfl⟩ := h
      refine ⟨hc.1, ?_⟩
      unfold endOf; split <;> omega
    · cases h
  · exact firstRun_ok hm _ _ _ h
def digS : List UInt8 := [48, 49, 50, 51, 52, 53, 54, 55, 56, 57]
def alphaS : List UInt8 := [48, 49, 50, 51, 52, 53, 54, 55, 56, 57, 65, 66, 67, 68, 69, 70, 71, 72, 73, 74, 75, 76, 77, 78, 79, 80, 81, 82, 83, 84, 85, 86, 87, 88, 89, 90, 32, 36, 37, 42, 43, 45, 46, 47, 58]
def patW (s : List UInt8) (m : Nat) (d : List UInt8) : Pat := ⟨s, if d.length ≤ m then none else some m⟩
end
section
open PySem PySem.W PyProof.Rows PySem.Calls
set_option maxRecDepth 100000
set_option maxHeartbeats 4000000
local macro_rules | `(tactic| walk_at "fin") => `(tactic| ((repeat' walk_at "vc"); first | rfl | exact ⟨rfl, rfl⟩ | exact ⟨rfl, rfl, rfl⟩))
theorem C3.pinned {c : Cx} (hC : C3 c) (ps : List (Nat × GenState)) : C3 (c.pin ps) := ⟨hC.kf, hC.prog, hC.kz, hC.tt, ⟨ps, fun _ => Iff.rfl⟩⟩
theorem XX_ok {c : Cx} (hC : C3 c) (D : Nat) : XXok c D (fun ps => X3 (c.pin ps) D) := fun ps => ⟨rfl, rfl, X3_ok (hC.pinned ps) D⟩
def RunFC (c : Cx) (D : Nat) : Prop := ∀ ps (p : Pat) (d : List UInt8) (σ : Hp) (Q : V → Hp → Prop), PatOk p → d.length ≤ 100 → Q (runV p d) σ → FC (c.pin ps) D (.val (.ref 69)) [p.V, .bytes d] [] σ Q
theorem split {c : Cx} {D : Nat} (hC : C3 c) (hR : RunFC c D) : GDef c D 107 ["data", "pattern"] ["match", "start", "end"] (shP 2) (fun vals vs => ∃ (p : Pat) (d : List UInt8), vals = [.bytes d, p.V] ∧ PatOk p ∧ d.length ≤ 100 ∧ vs = (splitL p d).map pairV) := ⟨⟨_, _, _, _, _, by k_in, rfl, by k_in, ⟨by decide, by decide, by decide⟩, ⟨rfl, rfl, rfl, rfl, rfl⟩, sh2 (fun _ _ => rfl), fun L env he vals vs hlen hok => by
  obtain ⟨p, d, rfl, hg, hd, rfl⟩ := hok
  simp only [List.cons_append, List.nil_append, List.map_cons, List.map_nil]
  refine go_cons (go_whileL (α := {x : List UInt8 // x.length ≤ 100} × V × V × V) (fun x => (splitL p x.1.1).map pairV) (fun x => (["data", "pattern", "match", "start", "end"] : List Str).zip [.bytes x.1.1, p.V, x.2.1, x.2.2.1, x.2.2.2]) (fun x => x.1.1.length)
    (fun vs l => ∃ d m s e, d.length ≤ 100 ∧ l = (["data", "pattern", "match", "start", "end"] : List Str).zip [.bytes d, p.V, m, s, e] ∧ vs = if d = [] then [] else [pairV (false, d)]) (⟨d, hd⟩, .unb, .unb, .unb) (fun vs l hst => ?last) (fun pp x ih done => ?turn))
  case last =>
    obtain ⟨d, m, s, e, hd, rfl, rfl⟩ := hst
    refine go_cons ?_
    refine' gw_if (!d.isEmpty) noG_stab .nil smp_func (XX_ok hC D) rfl (fun ps => ?w) (fun ps => ?h) ?k1 ?k2
    case w => have := hC.pinned ps; kda_here
    case h => walk_at "fin"
    case k1 =>
      intro hb
      have hd0 : d ≠ [] := by simpa using hb
      rw [if_neg hd0]
      refine go_cons ?_
      refine' gw_yield noG_stab .nil smp_func (XX_ok hC D) rfl rfl rfl (fun ps => ?w1) (fun ps => ?h1) (by subst he; rfl) (by subst he; rfl) ?_
      case w1 => have := hC.pinned ps; kda_here
      case h1 =>
        walk_at "fin"
      refine go_nil (go_nil go_end)
    case k2 =>
      intro hb
      have hd0 : d = [] := by simpa using hb
      rw [if_pos hd0]
      exact go_nil (go_nil go_end)
  case turn =>
  obtain ⟨⟨d, hd⟩, m, s, e⟩ := x
  dsimp only at ih ⊢
  refine' gw_turn (!d.isEmpty) noG_stab (.cons smp_func .nil) smp_while (XX_ok hC D) rfl (fun ps => ?w) (fun ps => ?h) ?k1 ?k2
  case w => have := hC.pinned ps; kda_here
  case h => walk_at "fin"
  case k2 =>
    intro hb
    have hd0 : d = [] := by simpa using hb
    refine done _ _ ⟨d, m, s, e, hd, rfl, ?_⟩
    subst hd0
    rfl
  case k1 =>
    intro hb
    have hd0 : d ≠ [] := by simpa using hb
    refine go_cons ?_
    refine' gw_ex [.bytes d, p.V, runV p d, s, e] noG_stab (.cons smp_func .nil) smp_while (XX_ok hC D) rfl (fun ps => ?w1) (fun ps => ?h1) ?_
    case w1 => have := hC.pinned ps; kda_here
    case h1 =>
      repeat' walk_at "vc"
      conv => whnf
      refine hR ps p d [] _ hg hd ?_
      exact ⟨rfl, rfl, rfl⟩
    cases hr : runOf p d with
    | none =>
      have hv : runV p d = .none := by unfold runV; rw [hr]
      rw [hv, splitL_none hd0 hr]
      refine go_cons ?_
      refine' gw_if true noG_stab (.cons smp_func .nil) smp_while (XX_ok hC D) rfl (fun ps => ?w2) (fun ps => ?h2) ?k3 ?k4
      case w2 => have := hC.pinned ps; kda_here
      case h2 => walk_at "fin"
      case k4 => intro h; cases h
      case k3 =>
        intro _
        refine go_cons ?_
        refine' gw_brk noG_stab (.cons smp_func .nil) smp_while (XX_ok hC D) rfl (fun ps => ?w3) (fun ps => ?h3) ?_
        case w3 => have := hC.pinned ps; kda_here
        case h3 => walk_at "fin"
        exact done _ _ ⟨d, _, s, e, hd, rfl, by rw [if_neg hd0]; rfl⟩
    | some q =>
      obtain ⟨s', e'⟩ := q
      have hse := hg d s' e' hr
      have hv : runV p d = .tup [.int (s' : Int), .int (e' : Int)] := by unfold runV; rw [hr]
      rw [hv, splitL_some hg hd0 hr]
      refine go_cons ?_
      refine' gw_if false noG_stab (.cons smp_func .nil) smp_while (XX_ok hC D) rfl (fun ps => ?w2) (fun ps => ?h2) ?k3 ?k4
      case w2 => have := hC.pinned ps; kda_here
      case h2 => walk_at "fin"
      case k3 => intro h; cases h
      case k4 =>
      intro _
      refine go_nil (go_cons ?_)
      refine' gw_ex [.bytes d, p.V, .tup [.int (s' : Int), .int (e' : Int)], .int (s' : Int), .int (e' : Int)] noG_stab (.cons smp_func .nil) smp_while (XX_ok hC D) rfl (fun ps => ?w5) (fun ps => ?h5) ?_
      case w5 => have := hC.pinned ps; kda_here
      case h5 => walk_at "fin"
      refine go_cons ?_
      refine' gw_ifR ((s' : Int) != 0) (pairV (true, (d.take e').drop s') :: (splitL p (d.drop e')).map pairV) noG_stab (.cons smp_func .nil) smp_while (XX_ok hC D) rfl (fun ps => ?w6) (fun ps => ?h6) ?rest ?k5 ?k6
      case w6 => have := hC.pinned ps; kda_here
      case h6 => walk_at "fin"
      case k5 =>
        intro hb rest
        have hs0 : s' ≠ 0 := by rintro rfl; simp at hb
        rw [if_neg hs0]
        refine go_cons ?_
        refine' gw_yield noG_stab (.cons smp_func .nil) smp_while (XX_ok hC D) rfl rfl rfl (fun ps => ?w7) (fun ps => ?h7) (by subst he; rfl) (by subst he; rfl) ?_
        case w7 => have := hC.pinned ps; kda_here
        case h7 =>
          repeat' walk_at "vc"
          exact ⟨by rw [cutN]; rfl, rfl⟩
        exact go_nil rest
      case k6 =>
        intro hb rest
        have hs0 : s' = 0 := by simpa using hb
        rw [if_pos hs0]
        exact go_nil rest
      case rest =>
      refine go_cons ?_
      refine' gw_yield noG_stab (.cons smp_func .nil) smp_while (XX_ok hC D) rfl rfl rfl (fun ps => ?w8) (fun ps => ?h8) (by subst he; rfl) (by subst he; rfl) ?_
      case w8 => have := hC.pinned ps; kda_here
      case h8 =>
        repeat' walk_at "vc"
        exact ⟨by rw [cut_mid d s' e' (by omega) (by omega)]; rfl, rfl⟩
      refine go_cons ?_
      refine' gw_ex [.bytes (d.drop e'), p.V, .tup [.int (s' : Int), .int (e' : Int)], .int (s' : Int), .int (e' : Int)] noG_stab (.cons smp_func .nil) smp_while (XX_ok hC D) rfl (fun ps => ?w9) (fun ps => ?h9) ?_
      case w9 => have := hC.pinned ps; kda_here
      case h9 =>
        repeat' walk_at "vc"
        all_goals first | rfl | (rw [cut_drop]; exact ⟨rfl, rfl⟩) | (rw [cut_drop]; rfl)
      refine go_nil (go_again rfl ?_)
      have hlt : (d.drop e').length < d.length := by rw [List.length_drop]; omega
      exact ih (⟨d.drop e', by omega⟩, _, _, _) hlt⟩⟩
end
section
open PySem PySem.W PyProof.Rows PySem.Calls
set_option maxRecDepth 100000
set_option maxHeartbeats 4000000
local macro_rules | `(tactic| walk_at "fin") => `(tactic| ((repeat' walk_at "vc"); first | rfl | exact ⟨rfl, rfl⟩ | exact ⟨rfl, rfl, rfl⟩))
def chunkF (m : Nat) (d : List UInt8) (q : Bool × List UInt8) : List V := if q.1 = true then [qdV 1 q.2] else (splitL (patW alphaS m d) q.2).map fun r => qdV (if r.1 = true then 2 else 4) r.2
def chunksV (m : Nat) (d : List UInt8) : List V := (splitL (patW digS m d) d).flatMap (chunkF m d)
def shCH : Shape := fun a k v => ∃ d m, a = [d] ∧ k = [(("minimum" : Str), m)] ∧ v = [d, m]
theorem shCH_ok {c : Cx} {fd : FuncData} {T : Addr} {o : Obj} {items : Array Value} {n : Nat} (ho : c.K.lookup T = some o) (hd : fd.defaults = .ref T) (hs : o.data = .seq items n)
    (h1 : ∀ a b, ∃ k, bindArgs fd ⟨[a], [(("minimum" : Str), b)]⟩ = seqItems? fd.defaults >>= k ∧ k (some items) = pure [(("data" : Str), a), (("minimum" : Str), b)]) :
    ∀ args kw vals, shCH args kw vals → BindA c fd args kw (List.zip ["data", "minimum"] vals) ∧ vals.length = List.length (α := Str) ["data", "minimum"] := by
  rintro args kw vals ⟨d, m, rfl, rfl, rfl⟩
  refine ⟨bindD ho hd hs fun ws kws hw hk => ?_, rfl⟩
  obtain ⟨a, rfl⟩ := len1 hw
  obtain ⟨x, rfl⟩ := len1 hk
  obtain ⟨k, e1, e2⟩ := h1 a x
  exact ⟨k, _, e1, e2, fun z ρ rl rk => ⟨rfl, .cons (vrl1 rl) (.cons (vrl1 rk) .nil)⟩⟩
theorem flat_bp {z : Led} {ρ : List Addr} {b : List UInt8} {p : Pat} {ws : List Value} (h : VRL z ρ [.bytes b, p.V] ws) : VRL z [] [.bytes b, p.V] ws := by
  cases h with
  | cons h1 h => cases h with
    | cons h2 h => cases h; cases h1; exact .cons (.bytes _ _) (.cons (by
      unfold Pat.V at h2 ⊢
      cases h2 with
      | tup hm hl => cases hl with
        | cons k1 hl => cases hl with
          | cons k2 hl =>
            cases hl; cases k1
            refine .tup hm (.cons (.bytes _ _) (.cons ?_ .nil))
            revert k2
            cases p.least with
            | none => intro k2; cases k2; exact .none
            | some n => intro k2; cases k2; exact .int _ _) .nil)
abbrev chN : List Str := ["data", "minimum", "num_pattern", "alpha_pattern", "num_bits", "is_num", "chunk", "is_alpha", "sub_chunk", "mode"]
theorem chunks {c : Cx} {D : Nat} (hC : C3 c) (hR : RunFC c D) : GDef c (D + 40) 100 ["data", "minimum"] ["num_pattern", "alpha_pattern", "num_bits", "is_num", "chunk", "is_alpha", "sub_chunk", "mode"] shCH (fun vals vs => ∃ (d : List UInt8) (m : Nat), vals = [.bytes d, .int (m : Int)] ∧ d.length ≤ 100 ∧ PatOk (patW digS m d) ∧ PatOk (patW alphaS m d) ∧ vs = chunksV m d) := ⟨⟨_, _, _, _, _, by k_in, rfl, by k_in, ⟨by decide, by decide, by decide⟩, ⟨rfl, rfl, rfl, rfl, rfl⟩, (by
  refine' shCH_ok ?b1 ?a1 ?c1 ?d1
  case a1 => rfl
  case b1 => k_in
  case c1 => rfl
  case d1 => exact fun _ _ => ⟨_, rfl, rfl⟩), fun L env he vals vs hlen hok => by
  obtain ⟨d, m, rfl, hd, hpn, hpa, rfl⟩ := hok
  simp only [List.cons_append, List.nil_append, List.map_cons, List.map_nil]
  refine go_cons ?_
  refine' gw_ex [.bytes d, .int (m : Int), .unb, .unb, .unb, .unb, .unb, .unb, .unb, .unb] noG_stab .nil smp_func (XX_ok hC (D + 40)) rfl (fun ps => ?w1) (fun ps => ?h1) ?_
  case w1 => have := hC.pinned ps; kda_here
  case h1 =>
    have hCp := hC.pinned ps
    repeat' walk_at "vc"
    conv => whnf
    refine to_bytes_ hCp ?_
    walk_at "fin"
  refine go_cons ?_
  refine' gw_ex [.bytes d, .int (m : Int), .bytes digS, .unb, .unb, .unb, .unb, .unb, .unb, .unb] noG_stab .nil smp_func (XX_ok hC (D + 40)) rfl (fun ps => ?w2) (fun ps => ?h2) ?_
  case w2 => have := hC.pinned ps; kda_here
  case h2 => walk_at "fin"
  refine go_cons ?_
  refine' gw_ex [.bytes d, .int (m : Int), .bytes digS, .bytes alphaS, .unb, .unb, .unb, .unb, .unb, .unb] noG_stab .nil smp_func (XX_ok hC (D + 40)) rfl (fun ps => ?w3) (fun ps => ?h3) ?_
  case w3 => have := hC.pinned ps; kda_here
  case h3 => walk_at "fin"
  refine go_cons ?_
  refine' gw_ex [.bytes d, .int (m : Int), (patW digS m d).V, (patW alphaS m d).V, .unb, .unb, .unb, .unb, .unb, .unb] noG_stab .nil smp_func (XX_ok hC (D + 40)) rfl (fun ps => ?w4) (fun ps => ?h4) ?_
  case w4 => have := hC.pinned ps; kda_here
  case h4 =>
    repeat' walk_at "vc"
    conv => whnf
    refine br_both (fun hb => ?_) (fun hb => ?_)
    · have hle : d.length ≤ m := by have := of_decide_eq_true hb; omega
      simp only [patW, Pat.V, if_pos hle]
      walk_at "fin"
    · have hle : ¬ d.length ≤ m := by have := of_decide_eq_false hb; omega
      simp only [patW, Pat.V, if_neg hle]
      walk_at "fin"
  refine go_cons ?_
  refine' go_asgG (Di := D) (us := (splitL (patW digS m d) d).map pairV) noG_stab (FrsOk.okF .nil smp_func (Nat.le_refl _)) ?kw (argsG (XX := fun ps => X3 (c.pin ps) (D + 40)) (XX_ok hC (D + 40)) rfl ((split hC hR).gfn ⟨rfl, rfl, rfl⟩ ⟨patW digS m d, d, rfl, hpn, hd, rfl⟩ fun _ _ _ h => flat_bp h) ?e ?kp (fun ps => ?wl) (fun ps => ?wk) (fun ps => ?h5) ?kd ?dd) ?he ?hk
    (fun a => chN.zip [.bytes d, .int (m : Int), (patW digS m d).V, (patW alphaS m d).V, .val (.ref a), .unb, .unb, .unb, .unb, .unb]) ?hu ?k5
  case kw => subst he; kernel_rfl
  case e => k_in
  case kp => k_in
  case wl => have := hC.pinned ps; kda_here
  case wk => have := hC.pinned ps; kda_here
  case h5 => walk_at "fin"
  case kd => subst he; kernel_rfl
  case dd => decide +kernel
  case he => subst he; kernel_rfl
  case hk => subst he; kernel_rfl
  case hu => exact fun a => zip_up (ns := chN) (.val (.ref a)) at4 rfl
  case k5 =>
  intro a k
  refine go_cons ?_
  refine' go_forX (Di := D) pairV (splitL (patW digS m d) d) (fun xs => xs.flatMap (chunkF m d)) (fun L => ∃ n c1 ia sc md, L = chN.zip [.bytes d, .int (m : Int), (patW digS m d).V, (patW alphaS m d).V, .val (.ref a), n, c1, ia, sc, md]) noG_stab .nil smp_func (Nat.le_refl _)
    (hE_loc (i := 4) (XX := fun ps => X3 (c.pin ps) (D + 40)) noG_stab .nil smp_func (XX_ok hC (D + 40)) rfl (fun ps => ?wn) (fun ps => ?hn)) ⟨_, _, _, _, _, rfl⟩ (fun l' hl => go_nil go_end) (fun aa kk p x ys l' hx hl next => ?turn) ?fs
  case wn => have := hC.pinned ps; kda_here
  case hn => walk_at "fin"
  case fs => subst he; intro _; kernel_rfl
  case turn =>
  obtain ⟨n, c1, ia, sc, md, rfl⟩ := hl
  have hxl : x.2.length ≤ 100 := Nat.le_trans (splitL_len x hx) hd
  have hst : Stab (withG c D noG aa kk (ys.map pairV)) := withG_stab noG_stab
  refine' ⟨chN.zip [.bytes d, .int (m : Int), (patW digS m d).V, (patW alphaS m d).V, .val (.ref a), .bool x.1, .bytes x.2, ia, sc, md], gw_ea _ (XX_ok hC (D + 40)) rfl (fun ps => ?wt) (fun ps => ?ht), ?_⟩
  case wt => have := hC.pinned ps; kda_here
  case ht => walk_at "fin"
  show GoOn _ _ _ _ (chunkF m d x ++ ys.flatMap (chunkF m d)) _ _ _ _
  refine go_cons ?_
  refine' gw_if x.1 hst (.cons smp_func .nil) smp_for (XX_ok hC (D + 40)) rfl (fun ps => ?wi) (fun ps => ?hi) ?k1 ?k2
  case wi => have := hC.pinned ps; kda_here
  case hi => walk_at "fin"
  case k1 =>
    intro hb
    have e1 : chunkF m d x = [qdV 1 x.2] := by unfold chunkF; rw [if_pos hb]
    rw [e1]
    refine go_cons ?_
    refine' gw_yield hst (.cons smp_func .nil) smp_for (XX_ok hC (D + 40)) rfl rfl rfl (fun ps => ?wy) (fun ps => ?hy) (by subst he; rfl) (by subst he; rfl) ?_
    case wy => have := hC.pinned ps; kda_here
    case hy =>
      have hCp := hC.pinned ps
      repeat' walk_at "vc"
      conv => whnf
      refine qd_newF_ hCp (.inl rfl) ?_
      walk_at "fin"
    exact go_nil (go_nil (next _ ⟨_, _, _, _, _, rfl⟩))
  case k2 =>
    intro hb
    have e1 : chunkF m d x = (splitL (patW alphaS m d) x.2).map fun r => qdV (if r.1 = true then 2 else 4) r.2 := by unfold chunkF; rw [if_neg (by rw [hb]; decide)]
    rw [e1]
    refine go_cons ?_
    refine' go_forX (Di := D) pairV (splitL (patW alphaS m d) x.2) (fun zs => (zs.map fun r => qdV (if r.1 = true then 2 else 4) r.2) ++ ys.flatMap (chunkF m d)) (fun L => ∃ n c1 ia sc md, L = chN.zip [.bytes d, .int (m : Int), (patW digS m d).V, (patW alphaS m d).V, .val (.ref a), n, c1, ia, sc, md]) hst (.cons smp_func .nil) smp_for (Nat.le_refl _)
      (hE_call hst (.cons smp_func .nil) smp_for ?kw2 (argsG (XX := fun ps => X3 (c.pin ps) (D + 40)) (XX_ok hC (D + 40)) rfl ((split hC hR).gfn ⟨rfl, rfl, rfl⟩ ⟨patW alphaS m d, x.2, rfl, hpa, hxl, rfl⟩ fun _ _ _ h => flat_bp h) ?e2 ?kp2 (fun ps => ?wl2) (fun ps => ?wk2) (fun ps => ?h52) ?kd2 ?dd2) ?he2)
      ⟨_, _, _, _, _, rfl⟩ (fun l' hl => go_nil (next l' hl)) (fun a2 k2 p2 r rs l' hr hl next2 => ?turn2) ?fs2
    case kw2 => subst he; kernel_rfl
    case e2 => k_in
    case kp2 => k_in
    case wl2 => have := hC.pinned ps; kda_here
    case wk2 => have := hC.pinned ps; kda_here
    case h52 => walk_at "fin"
    case kd2 => subst he; kernel_rfl
    case dd2 => decide +kernel
    case he2 => subst he; kernel_rfl
    case fs2 => subst he; intro _; kernel_rfl
    case turn2 =>
    obtain ⟨n', c1', ia', sc', md', rfl⟩ := hl
    have hst2 : Stab (withG c D (withG c D noG aa kk (ys.map pairV)) a2 k2 (rs.map pairV)) := withG_stab hst
    refine' ⟨chN.zip [.bytes d, .int (m : Int), (patW digS m d).V, (patW alphaS m d).V, .val (.ref a), n', c1', .bool r.1, .bytes r.2, md'], gw_ea _ (XX_ok hC (D + 40)) rfl (fun ps => ?wt2) (fun ps => ?ht2), ?_⟩
    case wt2 => have := hC.pinned ps; kda_here
    case ht2 => walk_at "fin"
    show GoOn _ _ _ _ (qdV (if r.1 = true then 2 else 4) r.2 :: ((rs.map fun r => qdV (if r.1 = true then 2 else 4) r.2) ++ ys.flatMap (chunkF m d))) _ _ _ _
    refine go_cons ?_
    refine' gw_ex [.bytes d, .int (m : Int), (patW digS m d).V, (patW alphaS m d).V, .val (.ref a), n', c1', .bool r.1, .bytes r.2, .int (if r.1 = true then 2 else 4)] hst2 (.cons smp_for (.cons smp_func .nil)) smp_for (XX_ok hC (D + 40)) rfl (fun ps => ?wm) (fun ps => ?hm) ?_
    case wm => have := hC.pinned ps; kda_here
    case hm =>
      repeat' walk_at "vc"
      conv => whnf
      refine br_both (fun hb2 => ?_) (fun hb2 => ?_)
      · rw [if_pos hb2]
        walk_at "fin"
      · rw [if_neg (by rw [hb2]; decide)]
        walk_at "fin"
    refine go_cons ?_
    refine' gw_yield hst2 (.cons smp_for (.cons smp_func .nil)) smp_for (XX_ok hC (D + 40)) rfl rfl rfl (fun ps => ?wy2) (fun ps => ?hy2) (by subst he; rfl) (by subst he; rfl) ?_
    case wy2 => have := hC.pinned ps; kda_here
    case hy2 =>
      have hCp := hC.pinned ps
      repeat' walk_at "vc"
      conv => whnf
      refine qd_newF_ hCp (by split; exact .inr (.inl rfl); exact .inr (.inr rfl)) ?_
      walk_at "fin"
    exact go_nil (next2 _ ⟨_, _, _, _, _, rfl⟩)⟩⟩
end
section
open PySem PySem.W PyProof.Rows PySem.Calls
set_option maxRecDepth 100000
set_option maxHeartbeats 4000000
local macro_rules | `(tactic| walk_at "celR") => `(tactic| (first
  | ((with_reducible show CE _ _ _ (Expr.Name ("signs" : Str) _) _); refine' ce_cell ?awa; (case awa => k_mem))
  | ((with_reducible refine' ce_neg ?awa); (case awa => kda_here))
  | ((with_reducible show CAs _ _ _ (Expr.Name ("signs" : Str) _) _); refine' ca_cell ?awa; (case awa => k_mem))
  | ((with_reducible show CE _ _ _ (Expr.Call (Expr.Name ("all" : Str) _) _ _ _) _);
      refine' ce_allC ?e0 ?e ?hi (C3.pin ‹C3 _›) ?hcode (by rw [C3.tt ‹C3 _›]; exact List.mem_singleton.mpr rfl) (by rw [C3.tt ‹C3 _›]; intro t ht _; exact List.mem_singleton.mp ht) ?hclos ?hcell ?h0 ?hx ?hy ?hcl rfl rfl rfl rfl rfl ?hk0 ?hs;
      (case e0 => k_in); (case e => k_mem); (case hi => kda_here); (case hcode => (subst_vars; rfl)); (case hclos => (subst_vars; rfl)); (case hcell => decide); (case h0 => rfl); (case hx => rfl); (case hy => rfl); (case hcl => (subst_vars; rfl)); (case hk0 => (subst_vars; rfl)); (case hs => (subst_vars; intro _; rfl)))))
local macro_rules | `(tactic| kda_here) => `(tactic| walk_at "celR")
def run_of : { w : WX // ∀ c, C3 c → DefC c 69 ["pattern", "data"] ["pattern", "data"] ["least", "end", "start"] ["signs"] (fun v => v) (fun v => [.unb]) (shP 2) w } := ⟨_, fun c hC => ⟨⟨_, _, _, _, _, by k_in, rfl, by k_in, ⟨fun _ => rfl, by decide, by decide, by decide, by decide, by decide⟩, ⟨rfl, rfl, rfl, rfl, rfl, rfl⟩, (by
  intro vals h
  obtain ⟨a, b, rfl⟩ := len2 h
  exact ⟨rfl, rfl, rfl⟩), sh2 (fun _ _ => rfl), fun L env he => by
  simp only [List.cons_append, List.nil_append]
  kda_here⟩⟩⟩
end
section
open PySem PySem.W PyProof.Rows PySem.Calls
set_option maxRecDepth 100000
set_option maxHeartbeats 4000000
theorem run_ {c : Cx} (hC : C3 c) {D : Nat} : RunFC c (D + 2) := fun ps p d σ Q hp hd h => by
  have hCp := hC.pinned ps
  refine FC.wf fun hb _ => FC.gc ?_
  refine (run_of.2 _ hCp).fc (X3 (c.pin ps) (D + 1)) rfl (X3_ok hCp _) ⟨rfl, rfl, rfl⟩ ?_
  have hc1 : (σ ++ [AO.cell .unb])[σ.length]? = some (.cell .unb) := by simp
  show argK [p.V, V.bytes d] ["least", "end", "start"] fun ls => run_of.1 (X3 (c.pin ps) (D + 1)) (ls ++ [.cell σ.length]) (σ ++ [AO.cell .unb]) _
  obtain ⟨signs, least⟩ := p
  have es : (σ ++ [AO.cell .unb]).set σ.length (.cell (.bytes signs)) = σ ++ [.cell (.bytes signs)] := by simp
  have hc2 : (σ ++ [AO.cell (.bytes signs)])[σ.length]? = some (.cell (.bytes signs)) := by simp
  cases least with
  | none =>
    have ev : Pat.V ⟨signs, none⟩ = .tup [.bytes signs, .none] := rfl
    rw [ev]
    repeat' walk_at "vc"
    conv => whnf
    refine chk_of rfl ?_
    repeat' walk_at "vc"
    conv => whnf
    refine ⟨⟨_, rfl⟩, ?_⟩
    rw [es]
    repeat' walk_at "vc"
    conv => whnf
    have fin : ∀ v : V, v = runV ⟨signs, none⟩ d → ∃ σ'' τ, σ ++ [AO.cell (.bytes signs)] = σ'' ++ τ ∧ σ.length ≤ σ''.length ∧ v.bl σ''.length ∧ Hp.bl σ''.length σ'' ∧ Q v σ'' := by
      rintro v rfl
      refine ⟨σ, _, rfl, Nat.le_refl _, ?_, hb, h⟩
      unfold runV
      split
      · exact ⟨trivial, trivial, trivial⟩
      · trivial
    rw [lastcut]
    have er : runV ⟨signs, none⟩ d = if 0 < endOf d ∧ ((d.take (endOf d)).all fun x => signs.contains x) = true then .tup [.int 0, .int (endOf d : Int)] else .none := by
      unfold runV runOf
      dsimp only
      by_cases hc : 0 < endOf d ∧ ((d.take (endOf d)).all fun x => signs.contains x) = true
      · rw [if_pos hc, if_pos hc]; rfl
      · rw [if_neg hc, if_neg hc]
    refine br_both (fun hl => ?_) (fun hl => ?_)
    · have hl' := of_decide_eq_true hl
      have hpos : 0 < d.length := by cases d with | nil => simp at hl' | cons _ _ => simp
      have he : endOf d = d.length - 1 := by unfold endOf; rw [if_pos hl']
      have hei : (d.length : Int) - 1 = (endOf d : Int) := by rw [he]; omega
      repeat' walk_at "vc"
      conv => whnf
      rw [hei]
      refine br_both (fun hp => ?_) (fun hp => ?_)
      · have hp' : 0 < endOf d := by have := of_decide_eq_true hp; omega
        repeat' walk_at "vc"
        conv => whnf
        refine ⟨signs, rfl, ?_⟩
        repeat' walk_at "vc"
        conv => whnf
        rw [cutN]
        refine br_both (fun ha => ?_) (fun ha => ?_)
        · have ha' : ((d.take (endOf d)).all fun x => signs.contains x) = true := ha
          repeat' walk_at "vc"
          conv => whnf
          exact fin _ (er.trans (if_pos ⟨hp', ha'⟩)).symm
        · have ha' : ((d.take (endOf d)).all fun x => signs.contains x) = false := ha
          repeat' walk_at "vc"
          conv => whnf
          exact fin _ (by rw [er, if_neg (fun h => by rw [ha'] at h; exact absurd h.2 (by decide))])
      · have hp' : ¬ 0 < endOf d := by have := of_decide_eq_false hp; omega
        repeat' walk_at "vc"
        conv => whnf
        exact fin _ (by rw [er, if_neg (fun h => hp' h.1)])
    · have hl' := of_decide_eq_false hl
      have he : endOf d = d.length := by unfold endOf; rw [if_neg hl']
      have hei : (d.length : Int) = (endOf d : Int) := by rw [he]
      repeat' walk_at "vc"
      conv => whnf
      rw [hei]
      refine br_both (fun hp => ?_) (fun hp => ?_)
      · have hp' : 0 < endOf d := by have := of_decide_eq_true hp; omega
        repeat' walk_at "vc"
        conv => whnf
        refine ⟨signs, rfl, ?_⟩
        repeat' walk_at "vc"
        conv => whnf
        rw [cutN]
        refine br_both (fun ha => ?_) (fun ha => ?_)
        · have ha' : ((d.take (endOf d)).all fun x => signs.contains x) = true := ha
          repeat' walk_at "vc"
          conv => whnf
          exact fin _ (er.trans (if_pos ⟨hp', ha'⟩)).symm
        · have ha' : ((d.take (endOf d)).all fun x => signs.contains x) = false := ha
          repeat' walk_at "vc"
          conv => whnf
          exact fin _ (by rw [er, if_neg (fun h => by rw [ha'] at h; exact absurd h.2 (by decide))])
      · have hp' : ¬ 0 < endOf d := by have := of_decide_eq_false hp; omega
        repeat' walk_at "vc"
        conv => whnf
        exact fin _ (by rw [er, if_neg (fun h => hp' h.1)])
  | some m =>
    have ev : Pat.V ⟨signs, some m⟩ = .tup [.bytes signs, .int (m : Int)] := rfl
    rw [ev]
    repeat' walk_at "vc"
    conv => whnf
    refine chk_of rfl ?_
    repeat' walk_at "vc"
    conv => whnf
    refine ⟨⟨_, rfl⟩, ?_⟩
    rw [es]
    repeat' walk_at "vc"
    conv => whnf
    have fin : ∀ v : V, v = runV ⟨signs, some m⟩ d → ∃ σ'' τ, σ ++ [AO.cell (.bytes signs)] = σ'' ++ τ ∧ σ.length ≤ σ''.length ∧ v.bl σ''.length ∧ Hp.bl σ''.length σ'' ∧ Q v σ'' := by
      rintro v rfl
      refine ⟨σ, _, rfl, Nat.le_refl _, ?_, hb, h⟩
      unfold runV
      split
      · exact ⟨trivial, trivial, trivial⟩
      · trivial
    let f : UInt8 → Bool := fun x => signs.contains x
    have er : runV ⟨signs, some m⟩ d = match firstRun f m d with | some (s, e) => .tup [.int (s : Int), .int (e : Int)] | none => .none := rfl
    refine forJ_of (fun i l τ => ∃ e s, l = [.tup [.bytes signs, .int (m : Int)], .bytes d, .int (m : Int), e, s, .cell σ.length] ∧ τ = σ ++ [AO.cell (.bytes signs)] ∧ firstRun f m d = (firstRun f m (d.drop i)).map (shq i)) ⟨_, _, rfl, rfl, ?_⟩ (fun _ _ _ _ => trivial) ?_ ?_
    · rw [List.drop_zero]
      cases firstRun f m d with
      | none => rfl
      | some q => rfl
    · rintro i v l τ hv ⟨e, s, rfl, rfl, hJ⟩
      obtain ⟨hi, rfl⟩ := rng_get1 hv
      have hi' : i < d.length := by omega
      have ei : (0 : Int) + (i : Int) = (i : Int) := by omega
      rw [ei]
      repeat' walk_at "vc"
      conv => whnf
      refine whileJ_of (fun n l τ => ∃ k, l = [.tup [.bytes signs, .int (m : Int)], .bytes d, .int (m : Int), .int ((i + k : Nat) : Int), .int (i : Int), .cell σ.length] ∧ τ = σ ++ [AO.cell (.bytes signs)] ∧ rl f d i = k + rl f d (i + k) ∧ i + k ≤ d.length ∧ n = d.length - (i + k)) (d.length - i) ⟨0, rfl, rfl, by simp, by omega, rfl⟩ ?_
      rintro n l τ ⟨k, rfl, rfl, hk, hkd, rfl⟩
      repeat' walk_at "vc"
      conv => whnf
      refine br_both (fun hlt => ?_) (fun hlt => ?_)
      · have hlt' : i + k < d.length := by have := of_decide_eq_true hlt; omega
        have ex : d.getD (((i + k : Nat) : Int)).toNat 0 = d[i + k] := by
          rw [Int.toNat_natCast, List.getD_eq_getElem?_getD, List.getElem?_eq_getElem hlt']; rfl
        have hx := d[i + k].toNat_lt
        repeat' walk_at "vc"
        conv => whnf
        rw [ex]
        refine chk_of ⟨by omega, by omega⟩ ?_
        conv => whnf
        have ef : signs.contains ((d[i + k].toNat : Int)).toNat.toUInt8 = f d[i + k] := by
          have e2 : d[i + k].toNat.toUInt8 = d[i + k] := UInt8.ofNat_toNat
          rw [Int.toNat_natCast, e2]
        rw [ef]
        refine br_both (fun hin => ?_) (fun hin => ?_)
        · repeat' walk_at "vc"
          conv => whnf
          have hst := rl_step (f := f) hlt' hin
          refine ⟨d.length - (i + (k + 1)), by omega, k + 1, ?_, rfl, ?_, by omega, rfl⟩
          · have : ((i + k : Nat) : Int) + 1 = ((i + (k + 1) : Nat) : Int) := by omega
            rw [← this]
          · rw [hk, hst, show i + (k + 1) = i + k + 1 from rfl]; omega
        · have h0 : rl f d (i + k) = 0 := rl_stop fun h => hin
          have hr : rl f d i = k := by omega
          repeat' walk_at "vc"
          conv => whnf
          refine br_both (fun hm => ?_) (fun hm => ?_)
          · have hm' : m ≤ rl f d i := by have := of_decide_eq_true hm; rw [hr]; omega
            repeat' walk_at "vc"
            conv => whnf
            exact fin _ (by rw [er, fr_hit hi' hJ hm', hr]; rfl)
          · have hm' : ¬ m ≤ rl f d i := by have := of_decide_eq_false hm; rw [hr]; omega
            repeat' walk_at "vc"
            conv => whnf
            exact ⟨_, _, rfl, rfl, fr_miss hi' hJ hm'⟩
      · have hlt' : ¬ i + k < d.length := by have := of_decide_eq_false hlt; omega
        have h0 : rl f d (i + k) = 0 := rl_stop fun h => absurd h hlt'
        have hr : rl f d i = k := by omega
        repeat' walk_at "vc"
        conv => whnf
        refine br_both (fun hm => ?_) (fun hm => ?_)
        · have hm' : m ≤ rl f d i := by have := of_decide_eq_true hm; rw [hr]; omega
          repeat' walk_at "vc"
          conv => whnf
          exact fin _ (by rw [er, fr_hit hi' hJ hm', hr]; rfl)
        · have hm' : ¬ m ≤ rl f d i := by have := of_decide_eq_false hm; rw [hr]; omega
          repeat' walk_at "vc"
          conv => whnf
          exact ⟨_, _, rfl, rfl, fr_miss hi' hJ hm'⟩
    · rintro l τ ⟨e, s, rfl, rfl, hJ⟩
      repeat' walk_at "vc"
      conv => whnf
      have en : (rngVs 0 1 ((d.length : Int) - 0).toNat).length = d.length := by rw [rng_len]; omega
      rw [en, List.drop_eq_nil_of_le (Nat.le_refl _)] at hJ
      exact fin _ (by rw [er, hJ]; rfl)
end
section
open PySem PySem.W PyProof.Rows PySem.Calls
-- RUNS OF MARKS
def outM (m : Nat) (mode : Int) (n : Nat) : List Int := List.replicate n (if m ≤ n then mode else 4)
def mr (m : Nat) (mode : Int) : Nat → List (Option Int) → List Int
  | n, [] => outM m mode n
  | n, none :: r => mr m mode (n + 1) r
  | n, some k :: r => outM m mode n ++ k :: mr m mode 0 r
def gOne (signs : List UInt8) (mk : Int) (x : UInt8) : Option Int := if mk = 4 ∧ signs.contains x = true then none else some mk
def gOf (signs : List UInt8) (marks : List Int) (row : List UInt8) : List (Option Int) := List.zipWith (gOne signs) marks row
theorem mr_cut {m : Nat} {mode k : Int} {b : List (Option Int)} : ∀ (a : List (Option Int)) (n : Nat), mr m mode n (a ++ some k :: b) = mr m mode n a ++ k :: mr m mode 0 b
  | [], n => by simp [mr]
  | none :: a, n => by simp only [List.cons_append, mr]; exact mr_cut a (n + 1)
  | some j :: a, n => by simp only [List.cons_append, mr, mr_cut a 0, List.append_assoc]
theorem mr_nones {m : Nat} {mode : Int} {b : List (Option Int)} : ∀ (j n : Nat), mr m mode n (List.replicate j none ++ b) = mr m mode (n + j) b
  | 0, n => by simp
  | j + 1, n => by rw [List.replicate_succ]; simp only [List.cons_append, mr]; rw [mr_nones j (n + 1)]; congr 1; omega
theorem mr_somes {m : Nat} {mode k : Int} (hm : 0 < m) {b : List (Option Int)} : ∀ (j : Nat), mr m mode 0 (List.replicate j (some k) ++ b) = List.replicate j k ++ mr m mode 0 b
  | 0 => by simp
  | j + 1 => by rw [List.replicate_succ, List.replicate_succ]; simp only [List.cons_append, mr]; rw [mr_somes hm j]; simp [outM]
-- THE FIRST RUN
theorem tw_all {f : UInt8 → Bool} : ∀ {r : List UInt8}, (∀ x ∈ r, f x = true) → ∀ t : List UInt8, ((r ++ t).takeWhile f).length = r.length + (t.takeWhile f).length
  | [], _, t => by simp
  | x :: r, h, t => by
    rw [List.cons_append, List.takeWhile_cons, if_pos (h x (.head _)), List.length_cons, tw_all (fun y hy => h y (.tail _ hy)) t, List.length_cons]; omega
theorem tw_stop {f : UInt8 → Bool} {x : UInt8} {t : List UInt8} (h : f x = false) : ((x :: t).takeWhile f).length = 0 := by rw [List.takeWhile_cons, if_neg (by rw [h]; decide)]; rfl
theorem fr_cons {f : UInt8 → Bool} {m : Nat} {x : UInt8} {t : List UInt8} : firstRun f m (x :: t) = if m ≤ ((x :: t).takeWhile f).length then some (0, ((x :: t).takeWhile f).length) else (firstRun f m t).map fun q => (q.1 + 1, q.2 + 1) := rfl
theorem fr_short {f : UInt8 → Bool} {m : Nat} : ∀ {r : List UInt8}, (∀ x ∈ r, f x = true) → r.length < m → firstRun f m r = none
  | [], _, _ => rfl
  | x :: r, h, hl => by
    unfold firstRun
    have e := tw_all h []
    rw [List.append_nil] at e
    rw [if_neg (by rw [e]; simp at hl ⊢; omega), fr_short (fun y hy => h y (.tail _ hy)) (by simp at hl; omega)]; rfl
theorem fr_skip {f : UInt8 → Bool} {m : Nat} {x : UInt8} {t : List UInt8} (hx : f x = false) : ∀ {r : List UInt8}, (∀ x ∈ r, f x = true) → r.length < m → firstRun f m (r ++ x :: t) = (firstRun f m t).map (shq (r.length + 1))
  | [], _, hl => by
    rw [List.nil_append, fr_cons, tw_stop hx, if_neg (by simp at hl; omega)]; rfl
  | y :: r, h, hl => by
    rw [List.cons_append, fr_cons]
    have e := tw_all h (x :: t)
    rw [List.cons_append, tw_stop hx] at e
    rw [if_neg (by rw [e]; omega), fr_skip hx (fun y hy => h y (.tail _ hy)) (by simp at hl; omega), Option.map_map]
    congr 1
theorem fr_hit0 {f : UInt8 → Bool} {m : Nat} {r t : List UInt8} (hm : 0 < m) (h : ∀ x ∈ r, f x = true) (ht : (t.takeWhile f).length = 0) (hl : m ≤ r.length) : firstRun f m (r ++ t) = some (0, r.length) := by
  cases r with
  | nil => simp at hl; omega
  | cons x r =>
    have e := tw_all h t
    rw [List.cons_append] at e ⊢
    unfold firstRun
    rw [e, ht, if_pos (by omega), Nat.add_zero]
theorem tw_split (f : UInt8 → Bool) : ∀ d : List UInt8, ∃ r t, d = r ++ t ∧ (∀ x ∈ r, f x = true) ∧ (t = [] ∨ ∃ x t', t = x :: t' ∧ f x = false)
  | [] => ⟨[], [], rfl, by simp, .inl rfl⟩
  | x :: d => by
    cases hx : f x with
    | true =>
      obtain ⟨r, t, e, h1, h2⟩ := tw_split f d
      exact ⟨x :: r, t, by rw [e]; rfl, fun y hy => by rcases List.mem_cons.mp hy with rfl | hy; exact hx; exact h1 y hy, h2⟩
    | false => exact ⟨[], x :: d, rfl, by simp, .inr ⟨x, d, rfl, hx⟩⟩
-- THE SPLITTER'S PARTS
abbrev PW (s : List UInt8) (m : Nat) : Pat := ⟨s, some m⟩
theorem pw_ok {s : List UInt8} {m : Nat} (hm : 0 < m) : PatOk (PW s m) := fun _ _ _ h => firstRun_ok hm _ _ _ h
theorem sp_nil (p : Pat) : splitL p [] = [] := by unfold splitL splitN; rw [if_pos rfl]
theorem sp_hit {s r t : List UInt8} {m : Nat} (hm : 0 < m) (h : ∀ x ∈ r, s.contains x = true) (ht : (t.takeWhile fun x => s.contains x).length = 0) (hl : m ≤ r.length) : splitL (PW s m) (r ++ t) = (true, r) :: splitL (PW s m) t := by
  have hd : r ++ t ≠ [] := by cases r with | nil => simp at hl; omega | cons x r => simp
  rw [splitL_some (pw_ok hm) hd (show runOf (PW s m) (r ++ t) = some (0, r.length) from fr_hit0 hm h ht hl)]
  simp
theorem sp_short {s r : List UInt8} {m : Nat} (h : ∀ x ∈ r, s.contains x = true) (hl : r.length < m) (hr : r ≠ []) : splitL (PW s m) r = [(false, r)] := splitL_none hr (fr_short h hl)
/-- what stands ahead is taken into the first part that is none, or stands alone -/
def ahead (a : List UInt8) : List (Bool × List UInt8) → List (Bool × List UInt8)
  | (false, b) :: r => (false, a ++ b) :: r
  | ps => (false, a) :: ps
theorem sp_skip {s r t : List UInt8} {x : UInt8} {m : Nat} (hm : 0 < m) (hx : s.contains x = false) (h : ∀ x ∈ r, s.contains x = true) (hl : r.length < m) : splitL (PW s m) (r ++ x :: t) = ahead (r ++ [x]) (splitL (PW s m) t) := by
  have hd : r ++ x :: t ≠ [] := by simp
  have hf := fr_skip (f := fun x => s.contains x) (t := t) hx h hl
  cases hq : firstRun (fun x => s.contains x) m t with
  | none =>
    rw [hq] at hf
    rw [splitL_none hd (show runOf (PW s m) (r ++ x :: t) = none from hf)]
    by_cases ht : t = []
    · subst ht; rw [sp_nil]; rfl
    · rw [splitL_none ht (show runOf (PW s m) t = none from hq)]; simp [ahead]
  | some q =>
    obtain ⟨a, b⟩ := q
    rw [hq] at hf
    have hab := firstRun_ok hm _ _ _ hq
    have ht : t ≠ [] := by rintro rfl; simp at hab; omega
    rw [splitL_some (pw_ok hm) hd (show runOf (PW s m) (r ++ x :: t) = some (a + (r.length + 1), b + (r.length + 1)) from hf), splitL_some (pw_ok hm) ht (show runOf (PW s m) t = some (a, b) from hq)]
    rw [if_neg (by omega)]
    have e1 : r ++ x :: t = (r ++ [x]) ++ t := by simp
    have e2 : (r ++ [x]).length = r.length + 1 := by simp
    have t1 : ∀ k, (r ++ x :: t).take (k + (r.length + 1)) = (r ++ [x]) ++ t.take k := fun k => by
      rw [e1, List.take_append, e2, List.take_of_length_le (by rw [e2]; omega)]; congr 2; omega
    have t2 : ∀ k, (r ++ x :: t).drop (k + (r.length + 1)) = t.drop k := fun k => by
      rw [e1, List.drop_append, e2, List.drop_eq_nil_of_le (by rw [e2]; omega), List.nil_append]; congr 1; omega
    have t3 : ((r ++ x :: t).take (b + (r.length + 1))).drop (a + (r.length + 1)) = (t.take b).drop a := by
      rw [t1, List.drop_append, e2, List.drop_eq_nil_of_le (by rw [e2]; omega), List.nil_append]; congr 1; omega
    rw [t1, t2, t3]
    by_cases ha : a = 0
    · subst ha; simp [ahead]
    · rw [if_neg ha]; simp [ahead]
/-- by what a split is known -/
theorem sp_ind {s : List UInt8} {m : Nat} (hm : 0 < m) {P : List UInt8 → List (Bool × List UInt8) → Prop} (h0 : P [] [])
    (h1 : ∀ r, (∀ x ∈ r, s.contains x = true) → r ≠ [] → r.length < m → P r [(false, r)])
    (h2 : ∀ r, (∀ x ∈ r, s.contains x = true) → m ≤ r.length → P r [(true, r)])
    (h3 : ∀ r x t, (∀ x ∈ r, s.contains x = true) → s.contains x = false → m ≤ r.length → P t (splitL (PW s m) t) → P (r ++ x :: t) ((true, r) :: ahead [x] (splitL (PW s m) t)))
    (h4 : ∀ r x t, (∀ x ∈ r, s.contains x = true) → s.contains x = false → r.length < m → P t (splitL (PW s m) t) → P (r ++ x :: t) (ahead (r ++ [x]) (splitL (PW s m) t))) : ∀ (n : Nat) (d : List UInt8), d.length ≤ n → P d (splitL (PW s m) d)
  | n, d, hn => by
    obtain ⟨r, t, e, hr, ht⟩ := tw_split (fun x => s.contains x) d
    subst e
    rcases ht with rfl | ⟨x, t', rfl, hx⟩
    · rw [List.append_nil]
      by_cases hz : r = []
      · subst hz; rw [sp_nil]; exact h0
      · by_cases hl : m ≤ r.length
        · have := sp_hit (t := []) hm hr rfl hl
          rw [List.append_nil] at this
          rw [this, sp_nil]; exact h2 r hr hl
        · rw [sp_short hr (by omega) hz]; exact h1 r hr hz (by omega)
    · cases n with
      | zero => simp at hn
      | succ n =>
        have ih := sp_ind hm h0 h1 h2 h3 h4 n t' (by simp at hn; omega)
        by_cases hl : m ≤ r.length
        · rw [sp_hit hm hr (tw_stop hx) hl, show x :: t' = [] ++ x :: t' from rfl, sp_skip hm hx (by simp) (by simp; omega)]
          exact h3 r x t' hr hx hl ih
        · rw [sp_skip hm hx hr (by omega)]
          exact h4 r x t' hr hx (by omega) ih
-- WHAT IS SO OF A SPLIT
def rowOf {α : Type} (ps : List (α × List UInt8)) : List UInt8 := ps.flatMap (·.2)
def marksOf (mode : Int) (ps : List (Bool × List UInt8)) : List Int := ps.flatMap fun q => List.replicate q.2.length (if q.1 = true then mode else 4)
inductive Alt {α : Type} : List (α × List UInt8) → Prop
  | nil : Alt []
  | one {p} : p.2 ≠ [] → Alt [p]
  | cons {p q r} : p.2 ≠ [] → p.1 ≠ q.1 → Alt (q :: r) → Alt (p :: q :: r)
theorem ahead_row (a : List UInt8) : ∀ ps, rowOf (ahead a ps) = a ++ rowOf ps
  | [] => rfl
  | (false, b) :: r => by simp [ahead, rowOf]
  | (true, b) :: r => by simp [ahead, rowOf]
theorem ahead_marks (mode : Int) (a : List UInt8) : ∀ ps, marksOf mode (ahead a ps) = List.replicate a.length 4 ++ marksOf mode ps
  | [] => by simp [ahead, marksOf]
  | (false, b) :: r => by simp [ahead, marksOf, ← List.replicate_append_replicate]
  | (true, b) :: r => by simp [ahead, marksOf]
theorem ahead_alt {a : List UInt8} (ha : a ≠ []) : ∀ {ps}, Alt ps → Alt (ahead a ps) ∧ ∃ b r, ahead a ps = (false, b) :: r
  | [], _ => ⟨.one ha, _, _, rfl⟩
  | (false, b) :: r, h => ⟨by
      cases h with
      | one h => exact .one (by simp [ha])
      | cons h1 h2 h3 => exact .cons (by simp [ha]) h2 h3, _, _, rfl⟩
  | (true, b) :: r, h => ⟨.cons ha (by simp) h, _, _, rfl⟩
theorem sp_row {s : List UInt8} {m : Nat} (hm : 0 < m) (d : List UInt8) : rowOf (splitL (PW s m) d) = d :=
  sp_ind hm (P := fun d ps => rowOf ps = d) rfl (fun r _ _ _ => by simp [rowOf]) (fun r _ _ => by simp [rowOf]) (fun r x t _ _ _ ih => by rw [show rowOf ((true, r) :: ahead [x] (splitL (PW s m) t)) = r ++ rowOf (ahead [x] (splitL (PW s m) t)) from rfl, ahead_row, ih]; rfl)
    (fun r x t _ _ _ ih => by rw [ahead_row, ih]; simp) d.length d (Nat.le_refl _)
theorem sp_alt {s : List UInt8} {m : Nat} (hm : 0 < m) (d : List UInt8) : Alt (splitL (PW s m) d) :=
  sp_ind hm (P := fun d ps => Alt ps) .nil (fun r _ h _ => .one h) (fun r _ h => .one (by rintro rfl; simp at h; omega)) (fun r x t _ _ h ih => by
    obtain ⟨h1, b, q, e⟩ := ahead_alt (a := [x]) (by simp) ih
    rw [e] at h1 ⊢
    exact .cons (by rintro rfl; simp at h; omega) (by simp) h1) (fun r x t _ _ _ ih => (ahead_alt (by simp) ih).1) d.length d (Nat.le_refl _)
def gR (s : List UInt8) (d : List UInt8) : List (Option Int) := d.map fun x => gOne s 4 x
theorem gR_run {s r : List UInt8} (h : ∀ x ∈ r, s.contains x = true) : gR s r = List.replicate r.length none := by
  induction r with
  | nil => rfl
  | cons x r ih =>
    rw [List.length_cons, List.replicate_succ, ← ih (fun y hy => h y (.tail _ hy))]
    show gOne s 4 x :: _ = _
    unfold gOne; rw [if_pos ⟨rfl, h x (.head _)⟩]; rfl
theorem gR_stop {s r t : List UInt8} {x : UInt8} (h : ∀ x ∈ r, s.contains x = true) (hx : s.contains x = false) : gR s (r ++ x :: t) = List.replicate r.length none ++ some 4 :: gR s t := by
  rw [← gR_run h]
  unfold gR
  rw [List.map_append, List.map_cons]
  congr 2
  unfold gOne; rw [if_neg (by rw [hx]; simp)]
theorem sp_marks {s : List UInt8} {m : Nat} (hm : 0 < m) (mode : Int) (d : List UInt8) : marksOf mode (splitL (PW s m) d) = mr m mode 0 (gR s d) :=
  sp_ind hm (P := fun d ps => marksOf mode ps = mr m mode 0 (gR s d)) (by simp [marksOf, gR, mr, outM])
    (fun r h _ hl => by
      rw [gR_run h, ← List.append_nil (List.replicate r.length (none : Option Int)), mr_nones, Nat.zero_add]
      simp [marksOf, mr, outM, if_neg (Nat.not_le.mpr hl)])
    (fun r h hl => by
      rw [gR_run h, ← List.append_nil (List.replicate r.length (none : Option Int)), mr_nones, Nat.zero_add]
      simp [marksOf, mr, outM, if_pos hl])
    (fun r x t h hx hl ih => by
      rw [gR_stop h hx, mr_nones, Nat.zero_add, show marksOf mode ((true, r) :: ahead [x] (splitL (PW s m) t)) = List.replicate r.length mode ++ marksOf mode (ahead [x] (splitL (PW s m) t)) from by simp [marksOf], ahead_marks, ih]
      simp [mr, outM, if_pos hl])
    (fun r x t h hx hl ih => by
      rw [gR_stop h hx, mr_nones, Nat.zero_add, ahead_marks, ih]
      simp only [mr, outM, if_neg (Nat.not_le.mpr hl)]
      rw [List.length_append, List.length_singleton, ← List.replicate_append_replicate]
      simp) d.length d (Nat.le_refl _)
end
section
open PySem PySem.W PyProof.Rows PySem.Calls
set_option maxRecDepth 100000
set_option maxHeartbeats 4000000
def stO (k : Nat) (p s : Int) : AO := .list [.ref k, .int p, .int s]
/-- the draws' state -/
structure IsSt (σ : Hp) (i k : Nat) (ns : List Int) (p s : Int) : Prop where
  hi : σ[i]? = some (stO k p s)
  hk : σ[k]? = some (.list (ns.map V.int))
  p0 : 0 ≤ p
  s0 : 0 ≤ s
  s1 : s < 2147483647
  nz : ns.length ≤ 100
theorem IsSt.ne {σ : Hp} {i k : Nat} {ns : List Int} {p s : Int} (h : IsSt σ i k ns p s) : i ≠ k := by
  intro e
  have h1 := h.hi
  rw [e, h.hk] at h1
  unfold stO at h1
  cases ns <;> simp at h1
theorem IsSt.set {σ : Hp} {i k : Nat} {ns : List Int} {p s p' s' : Int} (h : IsSt σ i k ns p s) (h0 : 0 ≤ p') (h1 : 0 ≤ s') (h2 : s' < 2147483647) : IsSt (σ.set i (stO k p' s')) i k ns p' s' :=
  ⟨at_same h.hi, at_other h.ne h.hk, h0, h1, h2, h.nz⟩
theorem next_ {c : Cx} (hC : C3 c) {D : Nat} {σ : Hp} {i k : Nat} {ns : List Int} {p s many : Int} {Q : V → Hp → Prop} (hs : IsSt σ i k ns p s) (hm : 1 ≤ many)
    (h : ∀ r p' s', 0 ≤ r → r < many → 0 ≤ p' → 0 ≤ s' → s' < 2147483647 → Q (.int r) (σ.set i (stO k p' s'))) : FC c (D + 1) (.val (.ref 403)) [.ref i, .int many] [] σ Q := by
  have hne := hs.ne
  obtain ⟨hi, hk, p0, s0, s1, nz⟩ := hs
  unfold stO at hi h
  refine (next.2 c hC).fc (X3 c D) rfl (X3_ok hC _) ⟨rfl, rfl, rfl⟩ ?_
  repeat' walk_at "vc"
  conv => whnf
  refine br_both (fun hb => ?_) (fun hb => ?_)
  · have hlt := of_decide_eq_true hb
    rw [List.length_map] at hlt
    repeat' walk_at "vc"
    conv => whnf
    rw [List.set_set]
    exact h _ (p + 1) _ (Int.fmod_nonneg_of_pos _ (by omega)) (Int.fmod_lt_of_pos _ (by omega)) (by omega) (Int.fmod_nonneg_of_pos _ (by omega)) (Int.fmod_lt_of_pos _ (by omega))
  · have q0 : 0 ≤ (s * 48271 + 11).fmod 2147483647 := Int.fmod_nonneg_of_pos _ (by omega)
    have q1 : (s * 48271 + 11).fmod 2147483647 < 2147483647 := Int.fmod_lt_of_pos _ (by omega)
    repeat' walk_at "vc"
    conv => whnf
    exact h _ p _ (Int.fmod_nonneg_of_pos _ (by omega)) (Int.fmod_lt_of_pos _ (by omega)) (by omega) q0 q1
end
section
open PySem PySem.W PyProof.Rows PySem.Calls
set_option maxRecDepth 100000
set_option maxHeartbeats 4000000
local macro_rules | `(tactic| walk_at "celB") => `(tactic| (
  (with_reducible show CE _ _ _ (Expr.BinOp (Expr.Name ("row" : Str) _) Operator.Add _ _) _); refine' ce_addB ?bwa ?bwb; (case bwa => kda_here); (case bwb => kda_here)))
local macro_rules | `(tactic| kda_here) => `(tactic| walk_at "celB")
def rowT : { w : WX // ∀ c, C3 c → Def c 410 ["state"] ["row", "_", "kind", "figure"] (shP 1) w } := ⟨_, fun c hC => ⟨⟨_, _, _, _, _, by k_in, rfl, by k_in, ⟨by decide, by decide, by decide⟩, ⟨rfl, rfl, rfl, rfl, rfl⟩, sh1 (fun _ => rfl), fun L env he => by
  simp only [List.cons_append, List.nil_append]
  kda_here⟩⟩⟩
end
section
open PySem PySem.W PyProof.Rows PySem.Calls
set_option maxRecDepth 100000
set_option maxHeartbeats 4000000
theorem Hp.bl_set {n : Nat} : ∀ {σ : Hp} {i : Nat} {o : AO}, Hp.bl n σ → o.bl n → Hp.bl n (σ.set i o)
  | [], _, _, _, _ => trivial
  | _ :: _, 0, _, h, ho => ⟨ho, h.2⟩
  | _ :: _, i + 1, _, h, ho => ⟨h.1, Hp.bl_set (i := i) h.2 ho⟩
theorem IsSt.app {σ : Hp} {i k : Nat} {ns : List Int} {p s : Int} (h : IsSt σ i k ns p s) (τ : Hp) : IsSt (σ ++ τ) i k ns p s :=
  ⟨at_app h.hi, at_app h.hk, h.p0, h.s0, h.s1, h.nz⟩
theorem IsSt.lt {σ : Hp} {i k : Nat} {ns : List Int} {p s : Int} (h : IsSt σ i k ns p s) : i < σ.length ∧ k < σ.length :=
  ⟨(List.getElem?_eq_some_iff.mp h.hi).1, (List.getElem?_eq_some_iff.mp h.hk).1⟩
theorem IsSt.bl {σ : Hp} {i k : Nat} {ns : List Int} {p s : Int} (h : IsSt σ i k ns p s) (hb : Hp.bl σ.length σ) (p' s' : Int) : Hp.bl (σ.set i (stO k p' s')).length (σ.set i (stO k p' s')) := by
  rw [List.length_set]
  exact Hp.bl_set hb ⟨h.lt.2, trivial, trivial, trivial⟩
theorem set_app {α : Type} {σ τ : List α} {i : Nat} {o : α} (h : i < σ.length) : (σ ++ τ).set i o = σ.set i o ++ τ := List.set_append_left _ _ h
theorem tss {σ r : Hp} {i : Nat} {o o' : AO} (h : i < σ.length) : (σ.set i o ++ r).set i o' = σ.set i o' ++ r := by
  rw [List.set_append_left _ _ (by simpa using h), List.set_set]
theorem row_ {c : Cx} (hC : C3 c) {D : Nat} {σ : Hp} {i k : Nat} {ns : List Int} {p s : Int} {Q : V → Hp → Prop} (hs : IsSt σ i k ns p s)
    (h : ∀ (b : List UInt8) p' s', b.length ≤ 20 → 0 ≤ p' → 0 ≤ s' → s' < 2147483647 → Q (.bytes b) (σ.set i (stO k p' s'))) : FC c (D + 2) (.val (.ref 410)) [.ref i] [] σ Q := by
  refine FC.wf fun hb _ => FC.gc ?_
  refine (rowT.2 c hC).fc (X3 c (D + 1)) rfl (X3_ok hC _) ⟨rfl, rfl, rfl⟩ ?_
  have hlt := hs.lt
  repeat' walk_at "vc"
  conv => whnf
  refine next_ hC hs (by omega) fun n p1 s1 n0 n4 a0 a1 a2 => ?_
  repeat' walk_at "vc"
  conv => whnf
  refine forJ_of (fun j l T => ∃ (b : List UInt8) (u1 u2 u3 : V) (p' s' : Int) (g : Hp), l = [.ref i, .bytes b, u1, u2, u3] ∧ b.length ≤ 5 * j ∧ 0 ≤ p' ∧ 0 ≤ s' ∧ s' < 2147483647 ∧ T = σ.set i (stO k p' s') ++ g) ⟨[], _, _, _, p1, s1, [], rfl, by simp, a0, a1, a2, by simp⟩ (fun _ _ _ _ => trivial) ?_ ?_
  · rintro j v l T hv ⟨b, u1, u2, u3, p', s', g, rfl, hbl, b0, b1, b2, rfl⟩
    obtain ⟨hj, rfl⟩ := rng_get1 hv
    have hj4 : j < 4 := by omega
    have hst : IsSt (σ.set i (stO k p' s') ++ g) i k ns p' s' := (hs.set b0 b1 b2).app g
    repeat' walk_at "vc"
    conv => whnf
    refine next_ hC hst (by omega) fun kd p2 s2 k0 k4 c0 c1 c2 => ?_
    rw [tss hlt.1]
    have hst2 : IsSt (σ.set i (stO k p2 s2) ++ g) i k ns p2 s2 := (hs.set c0 c1 c2).app g
    repeat' walk_at "vc"
    conv => whnf
    refine next_ hC hst2 (by omega) fun m p3 s3 m0 m5 d0 d1 d2 => ?_
    rw [tss hlt.1]
    repeat' walk_at "vc"
    conv => whnf
    refine forJ_of (fun t l T => ∃ (b' : List UInt8) (u1 u3 : V) (p' s' : Int) (g : Hp), l = [.ref i, .bytes b', u1, .int kd, u3] ∧ b'.length ≤ 5 * j + t ∧ 0 ≤ p' ∧ 0 ≤ s' ∧ s' < 2147483647 ∧ T = σ.set i (stO k p' s') ++ g) ⟨b, _, _, p3, s3, g, rfl, by omega, d0, d1, d2, rfl⟩ (fun _ _ _ _ => trivial) ?_ ?_
    · rintro t v l T hv ⟨b', u1', u3', p4, s4, g', rfl, hbl', e0, e1, e2, rfl⟩
      obtain ⟨ht, rfl⟩ := rng_get1 hv
      have hst4 : IsSt (σ.set i (stO k p4 s4) ++ g') i k ns p4 s4 := (hs.set e0 e1 e2).app g'
      repeat' walk_at "vc"
      conv => whnf
      refine next_ hC hst4 (by omega) fun fg p5 s5 f0 f1 g0 g1 g2 => ?_
      rw [tss hlt.1]
      generalize hT : σ.set i (stO k p5 s5) ++ g' = T
      have hkd : kd = 0 ∨ kd = 1 ∨ kd = 2 ∨ kd = 3 := by omega
      have m10 : 0 ≤ fg.fmod 10 ∧ fg.fmod 10 < 10 := ⟨Int.fmod_nonneg_of_pos _ (by omega), Int.fmod_lt_of_pos _ (by omega)⟩
      have m45 : 0 ≤ fg.fmod 45 ∧ fg.fmod 45 < 45 := ⟨Int.fmod_nonneg_of_pos _ (by omega), Int.fmod_lt_of_pos _ (by omega)⟩
      have ox := (#[48, 49, 50, 51, 52, 53, 54, 55, 56, 57, 65, 66, 67, 68, 69, 70, 71, 72, 73, 74, 75, 76, 77, 78, 79, 80, 81, 82, 83, 84, 85, 86, 87, 88, 89, 90, 32, 36, 37, 42, 43, 45, 46, 47, 58].toList.getD (fg.fmod 45).toNat (0 : UInt8)).toNat_lt
      obtain rfl | rfl | rfl | rfl := hkd
      all_goals
        repeat' walk_at "vc"
        conv => whnf
        refine intsV_of (is := [_]) rfl ?_
        refine chk_of ⟨fun n hn => by (have hq := List.mem_singleton.mp hn; subst hq; exact ⟨by omega, by first | omega | exact Int.ofNat_lt.mpr (UInt8.toNat_lt _)⟩), by simp⟩ ?_
        conv => whnf
        refine chk_of (by rw [List.length_map]; simp only [List.length_cons, List.length_nil]; omega) ?_
        conv => whnf
      all_goals exact ⟨_, _, _, p5, s5, g' ++ _, rfl, by simp; omega, g0, g1, g2, by rw [← hT, List.append_assoc, List.append_assoc]⟩
    · rintro l T ⟨b', u1', u3', p4, s4, g', rfl, hbl', e0, e1, e2, rfl⟩
      rw [rng_len] at hbl'
      exact ⟨b', _, _, _, p4, s4, g', rfl, by omega, e0, e1, e2, rfl⟩
  · rintro l T ⟨b, u1, u2, u3, p', s', g, rfl, hbl, b0, b1, b2, rfl⟩
    rw [rng_len] at hbl
    repeat' walk_at "vc"
    conv => whnf
    exact ⟨_, g, rfl, by rw [List.length_set]; exact Nat.le_refl _, trivial, hs.bl hb p' s', h b p' s' (by omega) b0 b1 b2⟩
end
section
open PySem PySem.W PyProof.Rows PySem.Calls
set_option maxRecDepth 100000
set_option maxHeartbeats 4000000
local macro_rules | `(tactic| walk_at "celM") => `(tactic| (first
  | ((with_reducible refine' ce_neg ?awa); (case awa => kda_here))
  | ((with_reducible refine' ce_listC ?e ?hb ?awa ?awb); (case e => k_in); (case hb => boot_by_name); (case awa => kda_here); (case awb => kda_here))
  | ((with_reducible refine' cx_subS ?awa ?awb ?awc ?awd); (case awa => kda_here); (case awb => kda_here); (case awc => kda_here); (case awd => kda_here))
  | ((with_reducible refine' cx_asgS2 ?awx ?awy ?awa ?awh ?aws); (case awh => (subst_vars; rfl)); (case awx => k_mem); (case awy => k_mem); (case awa => kda_here); (case aws => (subst_vars; rfl)))))
local macro_rules | `(tactic| kda_here) => `(tactic| walk_at "celM")
def marked : { w : WX // ∀ c, C3 c → Def c 417 ["row", "marks", "signs", "least", "mode"] ["begin", "k"] (shP 5) w } := ⟨_, fun c hC => ⟨⟨_, _, _, _, _, by k_in, rfl, by k_in, ⟨by decide, by decide, by decide⟩, ⟨rfl, rfl, rfl, rfl, rfl⟩, sh5 (fun _ _ _ _ _ => rfl), fun L env he => by
  simp only [List.cons_append, List.nil_append]
  kda_here⟩⟩⟩
end
section
open PySem PySem.W PyProof.Rows PySem.Calls
set_option maxRecDepth 100000
set_option maxHeartbeats 4000000
/-- a turn of _law_marked -/
def mkStep (row signs : List UInt8) (least mode : Int) (st : List Int × Nat) (k : Nat) : List Int × Nat :=
  if k = row.length ∨ st.1.getD k 0 ≠ 4 ∨ signs.contains (row.getD k 0) = false then (if least ≤ (k : Int) - (st.2 : Int) then st.1.take st.2 ++ List.replicate (k - st.2) mode ++ st.1.drop k else st.1, k + 1) else st
def mkRun (row signs : List UInt8) (least mode : Int) (marks : List Int) (n : Nat) : List Int × Nat := (List.range n).foldl (mkStep row signs least mode) (marks, 0)
theorem mkRun_succ {row signs : List UInt8} {least mode : Int} {marks : List Int} {n : Nat} : mkRun row signs least mode marks (n + 1) = mkStep row signs least mode (mkRun row signs least mode marks n) n := by
  unfold mkRun; rw [List.range_succ, List.foldl_append]; rfl
theorem mkRun_inv {row signs : List UInt8} {least mode : Int} {marks : List Int} (hl : marks.length = row.length) : ∀ n, n ≤ row.length + 1 → (mkRun row signs least mode marks n).1.length = row.length ∧ (mkRun row signs least mode marks n).2 ≤ n
  | 0, _ => ⟨hl, Nat.le_refl _⟩
  | n + 1, h => by
    obtain ⟨h1, h2⟩ := mkRun_inv (signs := signs) (least := least) (mode := mode) hl n (by omega)
    rw [mkRun_succ]
    unfold mkStep
    split
    · refine ⟨?_, Nat.le_refl _⟩
      split
      · simp; omega
      · exact h1
    · exact ⟨h1, by omega⟩
theorem rep_flat {α : Type} (n : Nat) (x : α) : (List.replicate n [x]).flatten = List.replicate n x := by
  induction n with
  | zero => rfl
  | succ n ih => rw [List.replicate_succ, List.flatten_cons, ih, List.replicate_succ]; rfl
theorem set_mid3 {σ g : Hp} {o o' a b : AO} : (((σ ++ o :: g) ++ [a]) ++ [b]).set σ.length o' = σ ++ o' :: (g ++ [a, b]) := by simp
theorem marked_ {c : Cx} (hC : C3 c) {D : Nat} {σ : Hp} {i : Nat} {row signs : List UInt8} {least mode : Int} {marks : List Int} {Q : V → Hp → Prop} (hi : σ[i]? = some (.list (marks.map V.int))) (hl : marks.length = row.length) (hr : row.length ≤ 100) (hs : signs.length ≤ 100)
    (h : ∀ g : Hp, Q (.ref σ.length) (σ ++ .list ((mkRun row signs least mode marks (row.length + 1)).1.map V.int) :: g)) : FC c (D + 1) (.val (.ref 417)) [.bytes row, .ref i, .bytes signs, .int least, .int mode] [] σ Q := by
  refine (marked.2 c hC).fc (X3 c D) rfl (X3_ok hC _) ⟨rfl, rfl, rfl⟩ ?_
  repeat' walk_at "vc"
  conv => whnf
  refine listS_of hi (by rw [List.length_map]; omega) ?_
  repeat' walk_at "vc"
  conv => whnf
  have hml : (marks.map V.int).length = row.length := by rw [List.length_map]; exact hl
  refine forJ_of (fun j l T => ∃ (u : V) (g : Hp), l = [.bytes row, .ref σ.length, .bytes signs, .int least, .int mode, .int ((mkRun row signs least mode marks j).2 : Int), u] ∧ T = σ ++ .list ((mkRun row signs least mode marks j).1.map V.int) :: g) ⟨_, [], rfl, rfl⟩ (fun _ _ _ _ => trivial) ?_ ?_
  · rintro j v l T hv ⟨u, g, rfl, rfl⟩
    obtain ⟨hj, rfl⟩ := rng_get1 hv
    have hj' : j ≤ row.length := by omega
    obtain ⟨inv1, inv2⟩ := mkRun_inv (signs := signs) (least := least) (mode := mode) hl j (by omega)
    rw [mkRun_succ]
    generalize hm : mkRun row signs least mode marks j = st at inv1 inv2
    obtain ⟨ms, bg⟩ := st
    dsimp only at inv1 inv2
    have hT : (σ ++ AO.list (ms.map V.int) :: g)[σ.length]? = some (.list (ms.map V.int)) := by simp
    have ei : (0 : Int) + (j : Int) = (j : Int) := by omega
    rw [ei]
    repeat' walk_at "vc"
    conv => whnf
    refine br_both (fun he => ?_) (fun he => ?_)
    · have hc : j = row.length ∨ ms.getD j 0 ≠ 4 ∨ signs.contains (row.getD j 0) = false := .inl (by have := eq_of_beq he; omega)
      have hst : mkStep row signs least mode (ms, bg) j = (if least ≤ (j : Int) - (bg : Int) then ms.take bg ++ List.replicate (j - bg) mode ++ ms.drop j else ms, j + 1) := by unfold mkStep; rw [if_pos hc]
      rw [hst]
      repeat' walk_at "vc"
      conv => whnf
      refine br_both (fun hb => ?_) (fun hb => ?_)
      · have hb' : least ≤ (j : Int) - (bg : Int) := of_decide_eq_true hb
        rw [if_pos hb']
        repeat' walk_at "vc"
        conv => whnf
        refine sstore_of (i := σ.length) (vs := ms.map V.int) (new := (List.replicate ((j : Int) - (bg : Int)).toNat [V.int mode]).flatten) (x := bg) (y := j) ?_ ?_ ?_ inv2 (by rw [List.length_map]; omega) ?_ ?_
        · simp
        · simp
        · exact at_new
        · rw [List.length_map, rep_flat, List.length_replicate]; omega
        · conv => whnf
          refine ⟨_, g ++ [.list [.int mode], .list (List.replicate (j - bg) (.int mode))], rfl, ?_⟩
          have e3 : ((j : Int) - (bg : Int)).toNat = j - bg := by omega
          refine (set_mid3 (a := .list [.int mode]) (b := .list (List.replicate ((j : Int) - (bg : Int)).toNat [V.int mode]).flatten)).trans ?_
          rw [rep_flat, e3]; simp [List.map_take, List.map_drop]
      · have hb' : ¬ least ≤ (j : Int) - (bg : Int) := of_decide_eq_false hb
        rw [if_neg hb']
        repeat' walk_at "vc"
        conv => whnf
        exact ⟨_, g, rfl, rfl⟩
    · have hne : j ≠ row.length := fun e => by subst e; simp at he
      have hlt : j < row.length := by omega
      repeat' walk_at "vc"
      conv => whnf
      refine br_both (fun hm => ?_) (fun hm => ?_)
      · have hm4 : ms.getD j 0 ≠ 4 := by simpa using hm
        have hc : j = row.length ∨ ms.getD j 0 ≠ 4 ∨ signs.contains (row.getD j 0) = false := .inr (.inl hm4)
        have hst : mkStep row signs least mode (ms, bg) j = (if least ≤ (j : Int) - (bg : Int) then ms.take bg ++ List.replicate (j - bg) mode ++ ms.drop j else ms, j + 1) := by unfold mkStep; rw [if_pos hc]
        rw [hst]
        repeat' walk_at "vc"
        conv => whnf
        refine br_both (fun hb => ?_) (fun hb => ?_)
        · have hb' : least ≤ (j : Int) - (bg : Int) := of_decide_eq_true hb
          rw [if_pos hb']
          repeat' walk_at "vc"
          conv => whnf
          refine sstore_of (i := σ.length) (vs := ms.map V.int) (new := (List.replicate ((j : Int) - (bg : Int)).toNat [V.int mode]).flatten) (x := bg) (y := j) ?_ ?_ ?_ inv2 (by rw [List.length_map]; omega) ?_ ?_
          · simp
          · simp
          · exact at_new
          · rw [List.length_map, rep_flat, List.length_replicate]; omega
          · conv => whnf
            refine ⟨_, g ++ [.list [.int mode], .list (List.replicate (j - bg) (.int mode))], rfl, ?_⟩
            have e3 : ((j : Int) - (bg : Int)).toNat = j - bg := by omega
            refine (set_mid3 (a := .list [.int mode]) (b := .list (List.replicate ((j : Int) - (bg : Int)).toNat [V.int mode]).flatten)).trans ?_
            rw [rep_flat, e3]; simp [List.map_take, List.map_drop]
        · have hb' : ¬ least ≤ (j : Int) - (bg : Int) := of_decide_eq_false hb
          rw [if_neg hb']
          repeat' walk_at "vc"
          conv => whnf
          exact ⟨_, g, rfl, rfl⟩
      · have hm4 : ms.getD j 0 = 4 := by simpa using hm
        have hx := (row.getD j 0).toNat_lt
        repeat' walk_at "vc"
        conv => whnf
        rw [Int.toNat_natCast]
        refine chk_of ⟨by omega, by omega⟩ ?_
        conv => whnf
        have ex : signs.contains ((row.getD j 0).toNat : Int).toNat.toUInt8 = signs.contains (row.getD j 0) := by
          have e2 : (row.getD j 0).toNat.toUInt8 = row.getD j 0 := UInt8.ofNat_toNat
          rw [Int.toNat_natCast, e2]
        refine br_both (fun hin => ?_) (fun hin => ?_)
        · have hc : j = row.length ∨ ms.getD j 0 ≠ 4 ∨ signs.contains (row.getD j 0) = false := .inr (.inr (by rw [← ex]; simpa using hin))
          have hst : mkStep row signs least mode (ms, bg) j = (if least ≤ (j : Int) - (bg : Int) then ms.take bg ++ List.replicate (j - bg) mode ++ ms.drop j else ms, j + 1) := by unfold mkStep; rw [if_pos hc]
          rw [hst]
          repeat' walk_at "vc"
          conv => whnf
          refine br_both (fun hb => ?_) (fun hb => ?_)
          · have hb' : least ≤ (j : Int) - (bg : Int) := of_decide_eq_true hb
            rw [if_pos hb']
            repeat' walk_at "vc"
            conv => whnf
            refine sstore_of (i := σ.length) (vs := ms.map V.int) (new := (List.replicate ((j : Int) - (bg : Int)).toNat [V.int mode]).flatten) (x := bg) (y := j) ?_ ?_ ?_ inv2 (by rw [List.length_map]; omega) ?_ ?_
            · simp
            · simp
            · exact at_new
            · rw [List.length_map, rep_flat, List.length_replicate]; omega
            · conv => whnf
              refine ⟨_, g ++ [.list [.int mode], .list (List.replicate (j - bg) (.int mode))], rfl, ?_⟩
              have e3 : ((j : Int) - (bg : Int)).toNat = j - bg := by omega
              refine (set_mid3 (a := .list [.int mode]) (b := .list (List.replicate ((j : Int) - (bg : Int)).toNat [V.int mode]).flatten)).trans ?_
              rw [rep_flat, e3]; simp [List.map_take, List.map_drop]
          · have hb' : ¬ least ≤ (j : Int) - (bg : Int) := of_decide_eq_false hb
            rw [if_neg hb']
            repeat' walk_at "vc"
            conv => whnf
            exact ⟨_, g, rfl, rfl⟩
        · have hin2 : signs.contains (row.getD j 0) = true := by rw [← ex]; simpa using hin
          have hst : mkStep row signs least mode (ms, bg) j = (ms, bg) := by
            unfold mkStep
            rw [if_neg]
            rintro (h | h | h)
            · exact hne h
            · exact h hm4
            · rw [hin2] at h; cases h
          rw [hst]
          repeat' walk_at "vc"
          conv => whnf
          exact ⟨_, g, rfl, rfl⟩
  · rintro l T ⟨u, g, rfl, rfl⟩
    have en : (rngVs 0 1 ((row.length : Int) + 1 - 0).toNat).length = row.length + 1 := by rw [rng_len]; omega
    rw [en]
    repeat' walk_at "vc"
    conv => whnf
    exact h g
end
section
open PySem PySem.W PyProof.Rows PySem.Calls
set_option maxRecDepth 100000
set_option maxHeartbeats 4000000
local macro_rules | `(tactic| walk_at "celP") => `(tactic| (first
  | ((with_reducible show CE _ _ _ (Expr.Name ("signs" : Str) _) _); refine' ce_cell ?awa; (case awa => k_mem))
  | ((with_reducible show CAs _ _ _ (Expr.Name ("signs" : Str) _) _); refine' ca_cell ?awa; (case awa => k_mem))
  | ((with_reducible show CE _ _ _ (Expr.BinOp (Expr.Subscript _ _ _) Operator.Add (Expr.Subscript _ _ _) _) _); refine' ce_addB ?bwa ?bwb; (case bwa => kda_here); (case bwb => kda_here))
  | ((with_reducible refine' ce_last ?awa); (case awa => kda_here))
  | ((with_reducible refine' cx_subL ?awa ?awb); (case awa => kda_here); (case awb => kda_here))
  | ((with_reducible refine' ce_neg ?awa); (case awa => kda_here))
  | ((with_reducible show CB _ _ _ (Expr.Compare (Expr.ListComp _ _ _ _) _ _ _) _); refine' cb_lcmp ?lwa ?lwb; (case lwa => kda_here); (case lwb => kda_here))
  | ((with_reducible show CB _ _ _ (Expr.Compare _ _ [Expr.List _ _] _) _); with_reducible refine' cb_lcmp ?awa ?awb; (case awa => kda_here); (case awb => kda_here))
  | ((with_reducible show CE _ _ _ (Expr.ListComp _ _ _ _) _); refine' ce_comp (xs := ["octet", "signs"]) ?c1 ?c2 ?c3 ?c4 ?c5 ?c6 ?c7 ?c8 ?c9 ?c10; (case c1 => (subst_vars; rfl)); (case c2 => decide); (case c3 => rfl); (case c4 => decide); (case c5 => decide);
      (case c6 => exact .loc (.fre at9 (by subst_vars; rfl) (.inl (by subst_vars; rfl)) .nil)); (case c7 => kda_here); (case c8 => (intro C env' he'; kda_here)); (case c9 => (intro C env' he'; refine' cbt_one ?awa; (case awa => kda_here))); (case c10 => (intro C env' he'; kda_here)))))
local macro_rules | `(tactic| kda_here) => `(tactic| walk_at "celP")
def parts : { w : WX // ∀ c, C3 c → DefC c 422 ["row", "least"] ["row", "least"] ["body", "end", "mode", "octet", "marks", "parts", "k"] ["signs"] (fun v => v) (fun v => [.unb]) (shP 2) w } := ⟨_, fun c hC => ⟨⟨_, _, _, _, _, by k_in, rfl, by k_in, ⟨fun _ => rfl, by decide, by decide, by decide, by decide, by decide⟩, ⟨rfl, rfl, rfl, rfl, rfl, rfl⟩, (by
  intro vals h
  obtain ⟨a, b, rfl⟩ := len2 h
  exact ⟨rfl, rfl, rfl⟩), sh2 (fun _ _ => rfl), fun L env he => by
  simp only [List.cons_append, List.nil_append]
  kda_here⟩⟩⟩
end
section
open PySem PySem.W PyProof.Rows PySem.Calls
set_option maxRecDepth 100000
set_option maxHeartbeats 4000000
def shortF (row : List UInt8) : List (Int × List UInt8) :=
  let body := if row.getD (row.length - 1) 0 = 10 then row.dropLast else row
  let fin : List (Int × List UInt8) := if row.getD (row.length - 1) 0 = 10 then [(4, [10])] else []
  if body ≠ [] ∧ (body.all fun x => digS.contains x) = true then [(1, body)] ++ fin else if body ≠ [] ∧ (body.all fun x => alphaS.contains x) = true then [(2, body)] ++ fin else [(4, row)]
def grStep (marks : List Int) (row : List UInt8) (ps : List (Int × List UInt8)) (k : Nat) : List (Int × List UInt8) := match ps.getLast? with
  | some p => if p.1 = marks.getD k 0 then ps.set (ps.length - 1) (marks.getD k 0, p.2 ++ [row.getD k 0]) else ps ++ [(marks.getD k 0, [row.getD k 0])]
  | none => ps ++ [(marks.getD k 0, [row.getD k 0])]
def groupF (marks : List Int) (row : List UInt8) : List (Int × List UInt8) := (List.range row.length).foldl (grStep marks row) []
def marks2 (row : List UInt8) (least : Int) : List Int := (mkRun row alphaS least 2 (mkRun row digS least 1 (List.replicate row.length 4) (row.length + 1)).1 (row.length + 1)).1
def partsF (row : List UInt8) (least : Nat) : List (Int × List UInt8) := if row = [] then [] else if row.length ≤ least then shortF row else groupF (marks2 row least) row
theorem cut_one {row : List UInt8} {j : Nat} (h : j < row.length) : cut row (some (j : Int)) (some ((j : Int) + 1)) = [row.getD j 0] := by
  have := cut_mid row j (j + 1) (by omega) (by omega)
  rw [show ((j : Int) + 1) = ((j + 1 : Nat) : Int) from by omega, this, List.take_succ, List.getElem?_eq_getElem h, List.drop_append, List.drop_eq_nil_of_le (by simp; omega)]
  have e : j - (row.take j).length = 0 := by rw [List.length_take]; omega
  rw [e, List.getD_eq_getElem?_getD, List.getElem?_eq_getElem h]; rfl
theorem grLen {ms : List Int} {row : List UInt8} : ∀ j, ∀ p ∈ (List.range j).foldl (grStep ms row) [], p.2.length ≤ j
  | 0, p, h => by simp at h
  | j + 1, p, h => by
    rw [List.range_succ, List.foldl_append] at h
    have ih := grLen (ms := ms) (row := row) j
    generalize (List.range j).foldl (grStep ms row) [] = ps at h ih
    simp only [List.foldl] at h
    unfold grStep at h
    split at h
    · rename_i q hq
      have hq' := ih q (List.mem_of_getLast? hq)
      split at h
      · rcases List.mem_or_eq_of_mem_set h with h | rfl
        · have := ih p h; omega
        · simp; omega
      · rcases List.mem_append.mp h with h | h
        · have := ih p h; omega
        · rw [List.mem_singleton.mp h]; simp
    · rcases List.mem_append.mp h with h | h
      · have := ih p h; omega
      · rw [List.mem_singleton.mp h]; simp
theorem gr_end {T2 g : Hp} {o : AO} {ms : List Int} {row : List UInt8} {ps : List (Int × List UInt8)} {j : Nat} {x y : Hp} {lo : V → V → List V} (hj : j < row.length) (hl : ps.length ≤ j) (hx : x.length = 1)
    (hy : y = [AO.list [.tup [.int (ms.getD j 0), .bytes [row.getD j 0]]]])
    (hst : grStep ms row ps j = ps ++ [(ms.getD j 0, [row.getD j 0])]) :
    ∃ r g_1 u, lo (.ref (T2 ++ o :: g ++ x ++ y).length) (.int j) = lo (.ref (T2.length + 1 + r)) u ∧ T2 ++ o :: g ++ x ++ y ++ [AO.list (pairsV ps ++ [.tup [.int (ms.getD j 0), .bytes [row.getD j 0]]])] = T2 ++ o :: g_1 ∧
      g_1[r]? = some (.list (pairsV ([j].foldl (grStep ms row) ps))) ∧ ([j].foldl (grStep ms row) ps).length ≤ j + 1 := by
  subst hy
  refine ⟨g.length + 2, g ++ x ++ [AO.list [.tup [.int (ms.getD j 0), .bytes [row.getD j 0]]]] ++ [AO.list (pairsV ps ++ [.tup [.int (ms.getD j 0), .bytes [row.getD j 0]]])], .int j, ?_, ?_, ?_, ?_⟩
  · congr 2; simp [hx]; omega
  · simp
  · rw [List.getElem?_append_right (by simp [hx])]
    simp [hx, List.foldl, hst, pairsV]
  · simp [List.foldl, hst]; omega
theorem at_mid1 {σ g : Hp} {a b : AO} : (σ ++ a :: b :: g)[σ.length + 1]? = some b := by
  rw [List.getElem?_append_right (by omega), show σ.length + 1 - σ.length = 1 from by omega]; rfl
theorem h_fin {σ T g' : Hp} {P : List (Int × List UInt8)} {Q : V → Hp → Prop} (e : T = σ ++ g') (h : ∀ (g : Hp) (j : Nat), (σ ++ g)[j]? = some (.list (pairsV P)) → Q (.ref j) (σ ++ g)) : Q (.ref T.length) (T ++ [.list (pairsV P)]) := by
  subst e; rw [List.append_assoc]; exact h _ _ (by rw [← List.append_assoc]; exact at_new)
theorem cut_init {α : Type} (l : List α) : cut l none (some (-1)) = l.dropLast := by
  unfold cut
  simp only [Option.elim]
  rw [List.dropLast_eq_take]
  have : clipAt l.length (-1) = l.length - 1 := by
    have := clipAt_cast l.length (-1)
    rw [if_pos (by decide)] at this; omega
  rw [this]; rfl
theorem filt_succ {body : List UInt8} {p : UInt8 → Bool} {k : Nat} (h : k < body.length) : (body.take (k + 1)).filter p = (body.take k).filter p ++ (if p (body.getD k 0) = true then [body.getD k 0] else []) := by
  rw [List.take_add_one, List.getElem?_eq_getElem h, List.filter_append, List.getD_eq_getElem?_getD, List.getElem?_eq_getElem h]
  simp [List.filter]; split <;> simp_all
theorem filt_nil {body S : List UInt8} : ((body.filter fun y => !S.contains y).map fun y => V.int (y.toNat : Int)).isEmpty = body.all fun y => S.contains y := by
  induction body with
  | nil => rfl
  | cons a l ih => rw [List.all_cons, ← ih, List.filter_cons]; cases S.contains a <;> simp
theorem parts_ {c : Cx} (hC : C3 c) {D : Nat} {σ : Hp} {row : List UInt8} {least : Nat} {Q : V → Hp → Prop} (hr : row.length ≤ 100)
    (h : ∀ (g : Hp) (j : Nat), (σ ++ g)[j]? = some (.list (pairsV (partsF row least))) → Q (.ref j) (σ ++ g)) : FC c (D + 2) (.val (.ref 422)) [.bytes row, .int (least : Int)] [] σ Q := by
  refine (parts.2 c hC).fc (X3 c (D + 1)) rfl (X3_ok hC _) ⟨rfl, rfl, rfl⟩ ?_
  have hc1 : (σ ++ [AO.cell .unb])[σ.length]? = some (.cell .unb) := by simp
  show argK [V.bytes row, .int (least : Int)] ["body", "end", "mode", "octet", "marks", "parts", "k"] fun ls => parts.1 (X3 c (D + 1)) (ls ++ [.cell σ.length]) (σ ++ [AO.cell .unb]) _
  repeat' walk_at "vc"
  conv => whnf
  refine br_both (fun h0 => ?_) (fun h0 => ?_)
  · have h0' : row = [] := by simpa using h0
    repeat' walk_at "vc"
    conv => whnf
    subst h0'
    rw [List.append_assoc]
    exact h _ _ (by simp [partsF, pairsV])
  · have h0' : row ≠ [] := by simpa using h0
    repeat' walk_at "vc"
    conv => whnf
    refine br_both (fun h1 => ?_) (fun h1 => ?_)
    · have h1' : row.length ≤ least := by have := of_decide_eq_true h1; omega
      have hpos : 0 < row.length := List.length_pos_iff.mpr h0'
      have hP : partsF row least = shortF row := by unfold partsF; rw [if_neg h0', if_pos h1']
      repeat' walk_at "vc"
      conv => whnf
      refine lastS_bytes hpos (by omega) ?_
      conv => whnf
      refine br_both (fun h2 => ?_) (fun h2 => ?_)
      · repeat' walk_at "vc"
        conv => whnf
        refine chk_of rfl ?_
        repeat' walk_at "vc"
        conv => whnf
        have ed : cut #[48, 49, 50, 51, 52, 53, 54, 55, 56, 57, 65, 66, 67, 68, 69, 70, 71, 72, 73, 74, 75, 76, 77, 78, 79, 80, 81, 82, 83, 84, 85, 86, 87, 88, 89, 90, 32, 36, 37, 42, 43, 45, 46, 47, 58].toList none (some 10) = digS := by decide
        have ea : #[48, 49, 50, 51, 52, 53, 54, 55, 56, 57, 65, 66, 67, 68, 69, 70, 71, 72, 73, 74, 75, 76, 77, 78, 79, 80, 81, 82, 83, 84, 85, 86, 87, 88, 89, 90, 32, 36, 37, 42, 43, 45, 46, 47, 58].toList = alphaS := by decide
        rw [ed]
        have hc : row.getD (row.length - 1) 0 = 10 := UInt8.toNat_inj.mp (by have := eq_of_beq h2; show _ = 10; omega)
        have hbl : row.dropLast.length ≤ 100 := by rw [List.length_dropLast]; omega
        have hsh : shortF row = if row.dropLast ≠ [] ∧ (row.dropLast.all fun x => digS.contains x) = true then [(1, row.dropLast)] ++ [(4, [10])] else if row.dropLast ≠ [] ∧ (row.dropLast.all fun x => alphaS.contains x) = true then [(2, row.dropLast)] ++ [(4, [10])] else [(4, row)] := by
          unfold shortF; simp only [if_pos hc]
        have eb : cut row none (some (-1)) = row.dropLast := cut_init row
        rw [eb]
        generalize row.dropLast = body at hbl hsh
        refine forJ_of (fun i l T => ∃ (u x : V) (g : Hp), l = [.bytes row, .int (least : Int), .bytes body, .ref (σ.length + 1), u, .unb, .unb, .unb, .unb, .cell σ.length] ∧ T = σ ++ .cell x :: .list (pairsV [(4, [10])]) :: .list [.tup [.int 1, .bytes digS], .tup [.int 2, .bytes alphaS]] :: g ∧ (1 ≤ i → ¬ (body ≠ [] ∧ (body.all fun x => digS.contains x) = true)) ∧ (2 ≤ i → ¬ (body ≠ [] ∧ (body.all fun x => alphaS.contains x) = true)))
          ⟨.unb, .unb, [], by rw [List.length_append]; rfl, by simp [pairsV]; rfl, fun h => absurd h (by omega), fun h => absurd h (by omega)⟩ ?_ ?_ ?_
        · rintro i l T ⟨u, x, g, rfl, rfl, -, -⟩
          show (_ : Hp)[_]? = some _
          simp [pairsV]; rfl
        · rintro i v l T hv ⟨u, x, g, rfl, rfl, k1, k2⟩
          match i, hv with
          | 0, hv =>
            cases hv
            have hset : ∀ v : V, (σ ++ AO.cell x :: .list (pairsV [(4, [10])]) :: .list [.tup [.int 1, .bytes digS], .tup [.int 2, .bytes alphaS]] :: g).set σ.length (.cell v) = σ ++ AO.cell v :: .list (pairsV [(4, [10])]) :: .list [.tup [.int 1, .bytes digS], .tup [.int 2, .bytes alphaS]] :: g := by intro v; simp
            repeat' walk_at "vc"
            conv => whnf
            refine getO_of (o := .cell x) (by simp) ⟨⟨_, rfl⟩, ?_⟩
            repeat' walk_at "vc"
            conv => whnf
            rw [hset]
            refine br_both (fun hbz => ?_) (fun hbz => ?_)
            · have hbz' : body ≠ [] := by simpa using hbz
              repeat' walk_at "vc"
              conv => whnf
              refine compJ_of (fun k acc T => acc = ((body.take k).filter fun y => !digS.contains y).map (fun y => V.int (y.toNat : Int)) ∧ T = σ ++ AO.cell (.bytes digS) :: .list (pairsV [(4, [10])]) :: .list [.tup [.int 1, .bytes digS], .tup [.int 2, .bytes alphaS]] :: g) ⟨by simp, rfl⟩ (fun _ _ _ _ => trivial) ?_ ?_
              · rintro k v acc T hk ⟨rfl, rfl⟩
                have hkb : k < body.length := by have := (List.getElem?_eq_some_iff.mp hk).1; rw [List.length_map] at this; exact this
                obtain rfl : v = .int ((body.getD k 0).toNat : Int) := by
                  rw [List.getElem?_map, List.getElem?_eq_getElem hkb] at hk; cases hk
                  rw [List.getD_eq_getElem?_getD, List.getElem?_eq_getElem hkb]; rfl
                rw [filt_succ hkb]
                have hx := (body.getD k 0).toNat_lt
                have ex : digS.contains ((body.getD k 0).toNat : Int).toNat.toUInt8 = digS.contains (body.getD k 0) := by
                  have e2 : (body.getD k 0).toNat.toUInt8 = body.getD k 0 := UInt8.ofNat_toNat
                  rw [Int.toNat_natCast, e2]
                repeat' walk_at "vc"
                conv => whnf
                refine getO_of (o := .cell (.bytes digS)) (by simp) ?_
                repeat' walk_at "vc"
                conv => whnf
                refine br_both (fun hin => ?_) (fun hin => ?_)
                · have hin' : (!digS.contains (body.getD k 0)) = true := by rw [← ex]; exact hin
                  rw [if_pos hin', List.map_append]
                  exact ⟨rfl, rfl⟩
                · have hin' : ¬ (!digS.contains (body.getD k 0)) = true := by rw [← ex]; intro hh; exact Bool.noConfusion (hh.symm.trans hin)
                  rw [if_neg hin', List.append_nil]
                  exact ⟨rfl, rfl⟩
              · rintro acc T ⟨rfl, rfl⟩
                rw [List.length_map, List.take_length]
                repeat' walk_at "vc"
                conv => whnf
                refine lcmp_eq0 (at_app at_new) at_new ?_
                rw [filt_nil]
                conv => whnf
                refine br_both (fun hal => ?_) (fun hal => ?_)
                · repeat' walk_at "vc"
                  conv => whnf
                  refine getO_of (o := .list (pairsV [(4, [10])])) (at_app (at_app (at_app at_mid1))) ?_
                  repeat' walk_at "vc"
                  conv => whnf
                  refine chk_of (by simp [pairsV]) ?_
                  conv => whnf
                  have h' : ∀ (g : Hp) (j : Nat), (σ ++ g)[j]? = some (.list (pairsV ([(1, body)] ++ [(4, [10])]))) → Q (.ref j) (σ ++ g) := fun g j hg => h g j (by rw [hP, hsh, if_pos ⟨hbz', hal⟩]; exact hg)
                  exact h_fin (by simp only [List.append_assoc]; rfl) h'
                · repeat' walk_at "vc"
                  conv => whnf
                  exact ⟨_, _, _, rfl, by simp only [List.append_assoc]; rfl, fun _ k => Bool.noConfusion (k.2.symm.trans hal), fun h => absurd h (by omega)⟩
            · have hbz' : body = [] := by simpa using hbz
              repeat' walk_at "vc"
              conv => whnf
              exact ⟨_, _, g, rfl, rfl, fun _ k => k.1 hbz', fun h => absurd h (by omega)⟩
          | 1, hv =>
            cases hv
            have hset : ∀ v : V, (σ ++ AO.cell x :: .list (pairsV [(4, [10])]) :: .list [.tup [.int 1, .bytes digS], .tup [.int 2, .bytes alphaS]] :: g).set σ.length (.cell v) = σ ++ AO.cell v :: .list (pairsV [(4, [10])]) :: .list [.tup [.int 1, .bytes digS], .tup [.int 2, .bytes alphaS]] :: g := by intro v; simp
            repeat' walk_at "vc"
            conv => whnf
            refine getO_of (o := .cell x) (by simp) ⟨⟨_, rfl⟩, ?_⟩
            repeat' walk_at "vc"
            conv => whnf
            rw [ea]
            rw [hset]
            refine br_both (fun hbz => ?_) (fun hbz => ?_)
            · have hbz' : body ≠ [] := by simpa using hbz
              repeat' walk_at "vc"
              conv => whnf
              refine compJ_of (fun k acc T => acc = ((body.take k).filter fun y => !alphaS.contains y).map (fun y => V.int (y.toNat : Int)) ∧ T = σ ++ AO.cell (.bytes alphaS) :: .list (pairsV [(4, [10])]) :: .list [.tup [.int 1, .bytes digS], .tup [.int 2, .bytes alphaS]] :: g) ⟨by simp, rfl⟩ (fun _ _ _ _ => trivial) ?_ ?_
              · rintro k v acc T hk ⟨rfl, rfl⟩
                have hkb : k < body.length := by have := (List.getElem?_eq_some_iff.mp hk).1; rw [List.length_map] at this; exact this
                obtain rfl : v = .int ((body.getD k 0).toNat : Int) := by
                  rw [List.getElem?_map, List.getElem?_eq_getElem hkb] at hk; cases hk
                  rw [List.getD_eq_getElem?_getD, List.getElem?_eq_getElem hkb]; rfl
                rw [filt_succ hkb]
                have hx := (body.getD k 0).toNat_lt
                have ex : alphaS.contains ((body.getD k 0).toNat : Int).toNat.toUInt8 = alphaS.contains (body.getD k 0) := by
                  have e2 : (body.getD k 0).toNat.toUInt8 = body.getD k 0 := UInt8.ofNat_toNat
                  rw [Int.toNat_natCast, e2]
                repeat' walk_at "vc"
                conv => whnf
                refine getO_of (o := .cell (.bytes alphaS)) (by simp) ?_
                repeat' walk_at "vc"
                conv => whnf
                refine br_both (fun hin => ?_) (fun hin => ?_)
                · have hin' : (!alphaS.contains (body.getD k 0)) = true := by rw [← ex]; exact hin
                  rw [if_pos hin', List.map_append]
                  exact ⟨rfl, rfl⟩
                · have hin' : ¬ (!alphaS.contains (body.getD k 0)) = true := by rw [← ex]; intro hh; exact Bool.noConfusion (hh.symm.trans hin)
                  rw [if_neg hin', List.append_nil]
                  exact ⟨rfl, rfl⟩
              · rintro acc T ⟨rfl, rfl⟩
                rw [List.length_map, List.take_length]
                repeat' walk_at "vc"
                conv => whnf
                refine lcmp_eq0 (at_app at_new) at_new ?_
                rw [filt_nil]
                conv => whnf
                refine br_both (fun hal => ?_) (fun hal => ?_)
                · repeat' walk_at "vc"
                  conv => whnf
                  refine getO_of (o := .list (pairsV [(4, [10])])) (at_app (at_app (at_app at_mid1))) ?_
                  repeat' walk_at "vc"
                  conv => whnf
                  refine chk_of (by simp [pairsV]) ?_
                  conv => whnf
                  have h' : ∀ (g : Hp) (j : Nat), (σ ++ g)[j]? = some (.list (pairsV ([(2, body)] ++ [(4, [10])]))) → Q (.ref j) (σ ++ g) := fun g j hg => h g j (by rw [hP, hsh, if_neg (k1 (by omega)), if_pos ⟨hbz', hal⟩]; exact hg)
                  exact h_fin (by simp only [List.append_assoc]; rfl) h'
                · repeat' walk_at "vc"
                  conv => whnf
                  exact ⟨_, _, _, rfl, by simp only [List.append_assoc]; rfl, fun _ => k1 (by omega), fun _ k => Bool.noConfusion (k.2.symm.trans hal)⟩
            · have hbz' : body = [] := by simpa using hbz
              repeat' walk_at "vc"
              conv => whnf
              exact ⟨_, _, g, rfl, rfl, fun _ => k1 (by omega), fun _ k => k.1 hbz'⟩
          | i + 2, hv => cases hv
        · rintro l T ⟨u, x, g, rfl, rfl, k1, k2⟩
          repeat' walk_at "vc"
          conv => whnf
          have h' : ∀ (g : Hp) (j : Nat), (σ ++ g)[j]? = some (.list (pairsV [(4, row)])) → Q (.ref j) (σ ++ g) := fun g j hg => h g j (by rw [hP, hsh, if_neg (k1 (by decide)), if_neg (k2 (by decide))]; exact hg)
          exact h_fin rfl h'
      · repeat' walk_at "vc"
        conv => whnf
        refine chk_of rfl ?_
        repeat' walk_at "vc"
        conv => whnf
        have ed : cut #[48, 49, 50, 51, 52, 53, 54, 55, 56, 57, 65, 66, 67, 68, 69, 70, 71, 72, 73, 74, 75, 76, 77, 78, 79, 80, 81, 82, 83, 84, 85, 86, 87, 88, 89, 90, 32, 36, 37, 42, 43, 45, 46, 47, 58].toList none (some 10) = digS := by decide
        have ea : #[48, 49, 50, 51, 52, 53, 54, 55, 56, 57, 65, 66, 67, 68, 69, 70, 71, 72, 73, 74, 75, 76, 77, 78, 79, 80, 81, 82, 83, 84, 85, 86, 87, 88, 89, 90, 32, 36, 37, 42, 43, 45, 46, 47, 58].toList = alphaS := by decide
        rw [ed]
        have hc : ¬ row.getD (row.length - 1) 0 = 10 := fun e => by rw [e] at h2; exact absurd h2 (by decide)
        have hbl : row.length ≤ 100 := hr
        have hsh : shortF row = if row ≠ [] ∧ (row.all fun x => digS.contains x) = true then [(1, row)] ++ [] else if row ≠ [] ∧ (row.all fun x => alphaS.contains x) = true then [(2, row)] ++ [] else [(4, row)] := by
          unfold shortF; simp only [if_neg hc]
        obtain ⟨body, ebd⟩ : ∃ body, body = row := ⟨_, rfl⟩
        replace hsh : shortF row = if body ≠ [] ∧ (body.all fun x => digS.contains x) = true then [(1, body)] ++ [] else if body ≠ [] ∧ (body.all fun x => alphaS.contains x) = true then [(2, body)] ++ [] else [(4, row)] := by rw [ebd]; exact hsh
        have hbl : body.length ≤ 100 := by rw [ebd]; exact hr
        refine forJ_of (fun i l T => ∃ (u x : V) (g : Hp), l = [.bytes row, .int (least : Int), .bytes body, .ref (σ.length + 1), u, .unb, .unb, .unb, .unb, .cell σ.length] ∧ T = σ ++ .cell x :: .list (pairsV []) :: .list [.tup [.int 1, .bytes digS], .tup [.int 2, .bytes alphaS]] :: g ∧ (1 ≤ i → ¬ (body ≠ [] ∧ (body.all fun x => digS.contains x) = true)) ∧ (2 ≤ i → ¬ (body ≠ [] ∧ (body.all fun x => alphaS.contains x) = true)))
          ⟨.unb, .unb, [], by rw [List.length_append, ebd]; rfl, by simp [pairsV]; rfl, fun h => absurd h (by omega), fun h => absurd h (by omega)⟩ ?_ ?_ ?_
        · rintro i l T ⟨u, x, g, rfl, rfl, -, -⟩
          show (_ : Hp)[_]? = some _
          simp [pairsV]; rfl
        · rintro i v l T hv ⟨u, x, g, rfl, rfl, k1, k2⟩
          match i, hv with
          | 0, hv =>
            cases hv
            have hset : ∀ v : V, (σ ++ AO.cell x :: .list (pairsV []) :: .list [.tup [.int 1, .bytes digS], .tup [.int 2, .bytes alphaS]] :: g).set σ.length (.cell v) = σ ++ AO.cell v :: .list (pairsV []) :: .list [.tup [.int 1, .bytes digS], .tup [.int 2, .bytes alphaS]] :: g := by intro v; simp
            repeat' walk_at "vc"
            conv => whnf
            refine getO_of (o := .cell x) (by simp) ⟨⟨_, rfl⟩, ?_⟩
            repeat' walk_at "vc"
            conv => whnf
            rw [hset]
            refine br_both (fun hbz => ?_) (fun hbz => ?_)
            · have hbz' : body ≠ [] := by simpa using hbz
              repeat' walk_at "vc"
              conv => whnf
              refine compJ_of (fun k acc T => acc = ((body.take k).filter fun y => !digS.contains y).map (fun y => V.int (y.toNat : Int)) ∧ T = σ ++ AO.cell (.bytes digS) :: .list (pairsV []) :: .list [.tup [.int 1, .bytes digS], .tup [.int 2, .bytes alphaS]] :: g) ⟨by simp, rfl⟩ (fun _ _ _ _ => trivial) ?_ ?_
              · rintro k v acc T hk ⟨rfl, rfl⟩
                have hkb : k < body.length := by have := (List.getElem?_eq_some_iff.mp hk).1; rw [List.length_map] at this; exact this
                obtain rfl : v = .int ((body.getD k 0).toNat : Int) := by
                  rw [List.getElem?_map, List.getElem?_eq_getElem hkb] at hk; cases hk
                  rw [List.getD_eq_getElem?_getD, List.getElem?_eq_getElem hkb]; rfl
                rw [filt_succ hkb]
                have hx := (body.getD k 0).toNat_lt
                have ex : digS.contains ((body.getD k 0).toNat : Int).toNat.toUInt8 = digS.contains (body.getD k 0) := by
                  have e2 : (body.getD k 0).toNat.toUInt8 = body.getD k 0 := UInt8.ofNat_toNat
                  rw [Int.toNat_natCast, e2]
                repeat' walk_at "vc"
                conv => whnf
                refine getO_of (o := .cell (.bytes digS)) (by simp) ?_
                repeat' walk_at "vc"
                conv => whnf
                refine br_both (fun hin => ?_) (fun hin => ?_)
                · have hin' : (!digS.contains (body.getD k 0)) = true := by rw [← ex]; exact hin
                  rw [if_pos hin', List.map_append]
                  exact ⟨rfl, rfl⟩
                · have hin' : ¬ (!digS.contains (body.getD k 0)) = true := by rw [← ex]; intro hh; exact Bool.noConfusion (hh.symm.trans hin)
                  rw [if_neg hin', List.append_nil]
                  exact ⟨rfl, rfl⟩
              · rintro acc T ⟨rfl, rfl⟩
                rw [List.length_map, List.take_length]
                repeat' walk_at "vc"
                conv => whnf
                refine lcmp_eq0 (at_app at_new) at_new ?_
                rw [filt_nil]
                conv => whnf
                refine br_both (fun hal => ?_) (fun hal => ?_)
                · repeat' walk_at "vc"
                  conv => whnf
                  refine getO_of (o := .list (pairsV [])) (at_app (at_app (at_app at_mid1))) ?_
                  repeat' walk_at "vc"
                  conv => whnf
                  refine chk_of (by simp [pairsV]) ?_
                  conv => whnf
                  have h' : ∀ (g : Hp) (j : Nat), (σ ++ g)[j]? = some (.list (pairsV ([(1, body)] ++ []))) → Q (.ref j) (σ ++ g) := fun g j hg => h g j (by rw [hP, hsh, if_pos ⟨hbz', hal⟩]; exact hg)
                  exact h_fin (by simp only [List.append_assoc]; rfl) h'
                · repeat' walk_at "vc"
                  conv => whnf
                  exact ⟨_, _, _, rfl, by simp only [List.append_assoc]; rfl, fun _ k => Bool.noConfusion (k.2.symm.trans hal), fun h => absurd h (by omega)⟩
            · have hbz' : body = [] := by simpa using hbz
              repeat' walk_at "vc"
              conv => whnf
              exact ⟨_, _, g, rfl, rfl, fun _ k => k.1 hbz', fun h => absurd h (by omega)⟩
          | 1, hv =>
            cases hv
            have hset : ∀ v : V, (σ ++ AO.cell x :: .list (pairsV []) :: .list [.tup [.int 1, .bytes digS], .tup [.int 2, .bytes alphaS]] :: g).set σ.length (.cell v) = σ ++ AO.cell v :: .list (pairsV []) :: .list [.tup [.int 1, .bytes digS], .tup [.int 2, .bytes alphaS]] :: g := by intro v; simp
            repeat' walk_at "vc"
            conv => whnf
            refine getO_of (o := .cell x) (by simp) ⟨⟨_, rfl⟩, ?_⟩
            repeat' walk_at "vc"
            conv => whnf
            rw [ea]
            rw [hset]
            refine br_both (fun hbz => ?_) (fun hbz => ?_)
            · have hbz' : body ≠ [] := by simpa using hbz
              repeat' walk_at "vc"
              conv => whnf
              refine compJ_of (fun k acc T => acc = ((body.take k).filter fun y => !alphaS.contains y).map (fun y => V.int (y.toNat : Int)) ∧ T = σ ++ AO.cell (.bytes alphaS) :: .list (pairsV []) :: .list [.tup [.int 1, .bytes digS], .tup [.int 2, .bytes alphaS]] :: g) ⟨by simp, rfl⟩ (fun _ _ _ _ => trivial) ?_ ?_
              · rintro k v acc T hk ⟨rfl, rfl⟩
                have hkb : k < body.length := by have := (List.getElem?_eq_some_iff.mp hk).1; rw [List.length_map] at this; exact this
                obtain rfl : v = .int ((body.getD k 0).toNat : Int) := by
                  rw [List.getElem?_map, List.getElem?_eq_getElem hkb] at hk; cases hk
                  rw [List.getD_eq_getElem?_getD, List.getElem?_eq_getElem hkb]; rfl
                rw [filt_succ hkb]
                have hx := (body.getD k 0).toNat_lt
                have ex : alphaS.contains ((body.getD k 0).toNat : Int).toNat.toUInt8 = alphaS.contains (body.getD k 0) := by
                  have e2 : (body.getD k 0).toNat.toUInt8 = body.getD k 0 := UInt8.ofNat_toNat
                  rw [Int.toNat_natCast, e2]
                repeat' walk_at "vc"
                conv => whnf
                refine getO_of (o := .cell (.bytes alphaS)) (by simp) ?_
                repeat' walk_at "vc"
                conv => whnf
                refine br_both (fun hin => ?_) (fun hin => ?_)
                · have hin' : (!alphaS.contains (body.getD k 0)) = true := by rw [← ex]; exact hin
                  rw [if_pos hin', List.map_append]
                  exact ⟨rfl, rfl⟩
                · have hin' : ¬ (!alphaS.contains (body.getD k 0)) = true := by rw [← ex]; intro hh; exact Bool.noConfusion (hh.symm.trans hin)
                  rw [if_neg hin', List.append_nil]
                  exact ⟨rfl, rfl⟩
              · rintro acc T ⟨rfl, rfl⟩
                rw [List.length_map, List.take_length]
                repeat' walk_at "vc"
                conv => whnf
                refine lcmp_eq0 (at_app at_new) at_new ?_
                rw [filt_nil]
                conv => whnf
                refine br_both (fun hal => ?_) (fun hal => ?_)
                · repeat' walk_at "vc"
                  conv => whnf
                  refine getO_of (o := .list (pairsV [])) (at_app (at_app (at_app at_mid1))) ?_
                  repeat' walk_at "vc"
                  conv => whnf
                  refine chk_of (by simp [pairsV]) ?_
                  conv => whnf
                  have h' : ∀ (g : Hp) (j : Nat), (σ ++ g)[j]? = some (.list (pairsV ([(2, body)] ++ []))) → Q (.ref j) (σ ++ g) := fun g j hg => h g j (by rw [hP, hsh, if_neg (k1 (by omega)), if_pos ⟨hbz', hal⟩]; exact hg)
                  exact h_fin (by simp only [List.append_assoc]; rfl) h'
                · repeat' walk_at "vc"
                  conv => whnf
                  exact ⟨_, _, _, rfl, by simp only [List.append_assoc]; rfl, fun _ => k1 (by omega), fun _ k => Bool.noConfusion (k.2.symm.trans hal)⟩
            · have hbz' : body = [] := by simpa using hbz
              repeat' walk_at "vc"
              conv => whnf
              exact ⟨_, _, g, rfl, rfl, fun _ => k1 (by omega), fun _ k => k.1 hbz'⟩
          | i + 2, hv => cases hv
        · rintro l T ⟨u, x, g, rfl, rfl, k1, k2⟩
          repeat' walk_at "vc"
          conv => whnf
          have h' : ∀ (g : Hp) (j : Nat), (σ ++ g)[j]? = some (.list (pairsV [(4, row)])) → Q (.ref j) (σ ++ g) := fun g j hg => h g j (by rw [hP, hsh, if_neg (k1 (by decide)), if_neg (k2 (by decide))]; exact hg)
          exact h_fin rfl h'
    · have h1' : ¬ row.length ≤ least := by have := of_decide_eq_false h1; omega
      repeat' walk_at "vc"
      conv => whnf
      have ef : (List.replicate ((row.length : Int)).toNat [V.int 4]).flatten = (List.replicate row.length (4 : Int)).map V.int := by rw [rep_flat, List.map_replicate, Int.toNat_natCast]
      rw [ef]
      have ed : cut #[48, 49, 50, 51, 52, 53, 54, 55, 56, 57, 65, 66, 67, 68, 69, 70, 71, 72, 73, 74, 75, 76, 77, 78, 79, 80, 81, 82, 83, 84, 85, 86, 87, 88, 89, 90, 32, 36, 37, 42, 43, 45, 46, 47, 58].toList none (some 10) = digS := by decide
      rw [ed]
      generalize hT0 : σ ++ [AO.cell V.unb] ++ [AO.list [V.int 4]] = T0
      have hl0 : (List.replicate row.length (4 : Int)).length = row.length := List.length_replicate
      refine marked_ hC (i := T0.length) (signs := digS) (marks := List.replicate row.length 4) at_new hl0 hr (by decide) fun g1 => ?_
      have inv1 := (mkRun_inv (signs := digS) (least := (least : Int)) (mode := 1) hl0 (row.length + 1) (Nat.le_refl _)).1
      generalize hm1 : (mkRun row digS (least : Int) 1 (List.replicate row.length 4) (row.length + 1)).1 = m1 at inv1
      generalize hT1 : T0 ++ [AO.list ((List.replicate row.length (4 : Int)).map V.int)] = T1
      repeat' walk_at "vc"
      conv => whnf
      refine marked_ hC (i := T1.length) (signs := alphaS) (marks := m1) (by simp) inv1 hr (by decide) fun g2 => ?_
      have inv2 := (mkRun_inv (row := row) (signs := alphaS) (least := (least : Int)) (mode := 2) inv1 (row.length + 1) (Nat.le_refl _)).1
      have em : marks2 row (least : Int) = (mkRun row alphaS (least : Int) 2 m1 (row.length + 1)).1 := by unfold marks2; rw [hm1]
      rw [← em]
      rw [← em] at inv2
      generalize hT2 : T1 ++ AO.list (m1.map V.int) :: g1 = T2
      repeat' walk_at "vc"
      conv => whnf
      generalize hms : marks2 row (least : Int) = ms at inv2
      refine forJ_of (fun j l T => ∃ (r : Nat) (g : Hp) (u : V), l = [.bytes row, .int (least : Int), .unb, .unb, .unb, .unb, .ref T2.length, .ref (T2.length + 1 + r), u, .cell σ.length] ∧ T = T2 ++ AO.list (ms.map V.int) :: g ∧ g[r]? = some (.list (pairsV ((List.range j).foldl (grStep ms row) []))) ∧ ((List.range j).foldl (grStep ms row) []).length ≤ j)
        ⟨g2.length, g2 ++ [.list []], .unb, ?_, ?_, ?_, Nat.le_refl _⟩ (fun _ _ _ _ => trivial) ?_ ?_
      · rw [show (T2 ++ AO.list (ms.map V.int) :: g2).length = T2.length + 1 + g2.length from by simp; omega]; rfl
      · rw [List.append_assoc]; rfl
      · simp [pairsV]
      · rintro j v l T hv ⟨r, g, u, rfl, rfl, hg, hgl⟩
        obtain ⟨hj, rfl⟩ := rng_get1 hv
        have hj' : j < row.length := by omega
        have ei : (0 : Int) + (j : Int) = (j : Int) := by omega
        rw [ei, List.range_succ, List.foldl_append]
        generalize hps : (List.range j).foldl (grStep ms row) [] = ps at hg hgl
        have hgT : (T2 ++ AO.list (ms.map V.int) :: g)[T2.length + 1 + r]? = some (.list (pairsV ps)) := by
          rw [List.getElem?_append_right (by omega), show T2.length + 1 + r - T2.length = r + 1 from by omega]; exact hg
        have hmT : (T2 ++ AO.list (ms.map V.int) :: g)[T2.length]? = some (.list (ms.map V.int)) := by simp
        repeat' walk_at "vc"
        conv => whnf
        refine lcmp_ne0 (at_app hgT) at_new ?_
        conv => whnf
        refine br_both (fun hne => ?_) (fun hne => ?_)
        · cases hlp : ps.getLast? with
          | none =>
            have : ps = [] := by simpa using hlp
            subst this
            simp [pairsV] at hne
          | some pl =>
            have hpos : 0 < ps.length := by cases ps with | nil => simp at hlp | cons _ _ => simp
            have hll : (pairsV ps).getLast? = some (.tup [.int pl.1, .bytes pl.2]) := by unfold pairsV; rw [List.getLast?_map, hlp]; rfl
            have hlen : (pairsV ps).length = ps.length := by unfold pairsV; rw [List.length_map]
            repeat' walk_at "vc"
            conv => whnf
            refine lastS_list (at_app hgT) (by rw [hlen]; omega) hll ?_
            repeat' walk_at "vc"
            conv => whnf
            rw [Int.toNat_natCast]
            refine br_both (fun he => ?_) (fun he => ?_)
            · have he' : pl.1 = ms.getD j 0 := eq_of_beq he
              repeat' walk_at "vc"
              conv => whnf
              refine lastS_list (at_app hgT) (by rw [hlen]; omega) hll ?_
              repeat' walk_at "vc"
              conv => whnf
              have hps2 : ((pairsV ps).set ((pairsV ps).length - 1) (.tup [.int (ms.getD j 0), .bytes (pl.2 ++ [row.getD j 0])])) = pairsV (grStep ms row ps j) := by
                unfold grStep; rw [hlp]; dsimp only; rw [if_pos he', hlen]; simp [pairsV, List.map_set]
              have hgl2 : (grStep ms row ps j).length = ps.length := by
                unfold grStep; rw [hlp]; dsimp only; rw [if_pos he', List.length_set]
              refine chk_of ?_ ?_
              · rw [cut_one hj', List.length_singleton]; have := grLen (ms := ms) (row := row) j pl (by rw [hps]; exact List.mem_of_getLast? hlp); omega
              repeat' walk_at "vc"
              conv => whnf
              rw [Int.toNat_natCast, cut_one hj']
              refine lastT_of (at_app hgT) (by rw [hlen]; omega) (by rw [hlen]; omega) ?_
              conv => whnf
              rw [hps2]
              refine ⟨r, g.set r (.list (pairsV (grStep ms row ps j))) ++ [.list []], _, rfl, ?_, ?_, ?_⟩
              · have hrl : r < g.length := (List.getElem?_eq_some_iff.mp hg).1
                rw [List.append_assoc, List.set_append_right _ _ (by omega), show T2.length + 1 + r - T2.length = r + 1 from by omega]
                show T2 ++ AO.list (ms.map V.int) :: (g ++ [AO.list []]).set r _ = _
                rw [List.set_append_left _ _ hrl]
              · have hrl : r < g.length := (List.getElem?_eq_some_iff.mp hg).1
                rw [List.getElem?_append_left (by rw [List.length_set]; exact hrl), List.getElem?_set_self hrl]; rfl
              · show (grStep ms row ps j).length ≤ j + 1
                rw [hgl2]; omega
            · have he' : pl.1 ≠ ms.getD j 0 := by simpa using he
              repeat' walk_at "vc"
              conv => whnf
              rw [Int.toNat_natCast, cut_one hj']
              exact gr_end (lo := fun a b => [.bytes row, .int (least : Int), .unb, .unb, .unb, .unb, .ref T2.length, a, b, .cell σ.length]) hj' hgl rfl rfl (by unfold grStep; rw [hlp]; dsimp only; rw [if_neg he'])
        · have hpe : ps = [] := by cases ps with | nil => rfl | cons _ _ => simp [pairsV] at hne
          subst hpe
          repeat' walk_at "vc"
          conv => whnf
          refine chk_of (by simp [pairsV]) ?_
          conv => whnf
          rw [Int.toNat_natCast, cut_one hj']
          exact gr_end (ps := []) (lo := fun a b => [.bytes row, .int (least : Int), .unb, .unb, .unb, .unb, .ref T2.length, a, b, .cell σ.length]) hj' hgl rfl rfl (by simp [grStep])
      · rintro l T ⟨r, g, u, rfl, rfl, hg, hgl⟩
        have en : (rngVs 0 1 ((row.length : Int) - 0).toNat).length = row.length := by rw [rng_len]; omega
        rw [en] at hg
        repeat' walk_at "vc"
        conv => whnf
        have e1 : ∃ g', T2 ++ AO.list (ms.map V.int) :: g = σ ++ g' := by
          rw [← hT2, ← hT1, ← hT0]
          exact ⟨_, by simp only [List.append_assoc]; rfl⟩
        obtain ⟨g', e1⟩ := e1
        have hgT : (T2 ++ AO.list (ms.map V.int) :: g)[T2.length + 1 + r]? = some (.list (pairsV (partsF row least))) := by
          rw [List.getElem?_append_right (by omega), show T2.length + 1 + r - T2.length = r + 1 from by omega]
          unfold partsF
          rw [if_neg h0', if_neg h1', hms]
          exact hg
        rw [e1] at hgT ⊢
        exact h _ _ hgT
end
section
open PySem PySem.W PyProof.Rows PySem.Calls
theorem gOf_len {s : List UInt8} {marks : List Int} {row : List UInt8} (hl : marks.length = row.length) : (gOf s marks row).length = row.length := by unfold gOf; rw [List.length_zipWith]; omega
theorem gOf_at {s : List UInt8} {marks : List Int} {row : List UInt8} (hl : marks.length = row.length) {n : Nat} (h : n < row.length) : (gOf s marks row).drop n = gOne s (marks.getD n 0) (row.getD n 0) :: (gOf s marks row).drop (n + 1) := by
  rw [List.drop_eq_getElem_cons (by rw [gOf_len hl]; exact h)]
  congr 1
  unfold gOf
  rw [List.getElem_zipWith, List.getD_eq_getElem?_getD, List.getD_eq_getElem?_getD, List.getElem?_eq_getElem h, List.getElem?_eq_getElem (by omega)]; rfl
theorem at_n {pre r : List Int} {n b : Nat} {x d : Int} (hb : pre.length = b) (hn : b ≤ n) : (pre ++ List.replicate (n - b) 4 ++ x :: r).getD n d = x := by
  rw [List.getD_eq_getElem?_getD, List.getElem?_append_right (by simp; omega), List.length_append, List.length_replicate, show n - (pre.length + (n - b)) = 0 from by omega]; rfl
theorem cut_n {pre r : List Int} {n b : Nat} (hb : pre.length = b) (hn : b ≤ n) : (pre ++ List.replicate (n - b) 4 ++ r).take b = pre ∧ (pre ++ List.replicate (n - b) 4 ++ r).drop n = r := by
  constructor
  · rw [List.append_assoc, List.take_append, List.take_of_length_le (by omega), hb, Nat.sub_self]; simp
  · rw [List.drop_append, List.drop_eq_nil_of_le (by simp; omega), List.nil_append, List.length_append, List.length_replicate, show n - (pre.length + (n - b)) = 0 from by omega]; rfl
theorem stop_eq {pre r : List Int} {n b m : Nat} {mode : Int} (hb : pre.length = b) (hn : b ≤ n) :
    (if (m : Int) ≤ (n : Int) - (b : Int) then (pre ++ List.replicate (n - b) 4 ++ r).take b ++ List.replicate (n - b) mode ++ (pre ++ List.replicate (n - b) 4 ++ r).drop n else pre ++ List.replicate (n - b) 4 ++ r) = pre ++ outM m mode (n - b) ++ r := by
  obtain ⟨e1, e2⟩ := cut_n (r := r) hb hn
  rw [e1, e2]
  unfold outM
  by_cases h : m ≤ n - b
  · rw [if_pos (by omega), if_pos h]
  · rw [if_neg (by omega), if_neg h]
theorem mk_inv {row signs : List UInt8} {m : Nat} {mode : Int} {marks : List Int} (hl : marks.length = row.length) : ∀ n, n ≤ row.length → ∃ (pre : List Int) (b : Nat), mkRun row signs (m : Int) mode marks n = (pre ++ List.replicate (n - b) 4 ++ marks.drop n, b) ∧ pre.length = b ∧ b ≤ n ∧
    mr m mode 0 (gOf signs marks row) = pre ++ mr m mode (n - b) ((gOf signs marks row).drop n)
  | 0, _ => ⟨[], 0, by simp [mkRun], rfl, Nat.le_refl _, by simp⟩
  | n + 1, h => by
    obtain ⟨pre, b, h1, h2, h3, h4⟩ := mk_inv (signs := signs) (m := m) (mode := mode) hl n (by omega)
    have hd : marks.drop n = marks.getD n 0 :: marks.drop (n + 1) := by
      rw [List.drop_eq_getElem_cons (by omega), List.getD_eq_getElem?_getD, List.getElem?_eq_getElem (by omega)]; rfl
    rw [hd] at h1
    rw [gOf_at hl (by omega)] at h4
    rw [mkRun_succ, h1]
    unfold mkStep
    dsimp only
    rw [at_n h2 h3]
    by_cases hc : marks.getD n 0 = 4 ∧ signs.contains (row.getD n 0) = true
    · rw [if_neg (by rintro (h | h | h); omega; exact h hc.1; rw [hc.2] at h; cases h)]
      refine ⟨pre, b, ?_, h2, by omega, ?_⟩
      · rw [hc.1, show n + 1 - b = (n - b) + 1 from by omega, List.replicate_succ']; simp
      · rw [h4]; unfold gOne; rw [if_pos hc]; simp only [mr]; rw [show n + 1 - b = (n - b) + 1 from by omega]
    · rw [if_pos (by by_cases h5 : marks.getD n 0 = 4; exact .inr (.inr (by cases h6 : signs.contains (row.getD n 0); rfl; exact absurd ⟨h5, h6⟩ hc)); exact .inr (.inl h5)), stop_eq h2 h3]
      refine ⟨pre ++ outM m mode (n - b) ++ [marks.getD n 0], n + 1, by simp, by simp [outM]; omega, Nat.le_refl _, ?_⟩
      rw [h4]; unfold gOne; rw [if_neg hc]; simp [mr]
theorem mk_mr {row signs : List UInt8} {m : Nat} {mode : Int} {marks : List Int} (hl : marks.length = row.length) : (mkRun row signs (m : Int) mode marks (row.length + 1)).1 = mr m mode 0 (gOf signs marks row) := by
  obtain ⟨pre, b, h1, h2, h3, h4⟩ := mk_inv (signs := signs) (m := m) (mode := mode) hl row.length (Nat.le_refl _)
  rw [h4, List.drop_eq_nil_of_le (by rw [gOf_len hl]; omega), mkRun_succ, h1]
  unfold mkStep
  dsimp only
  rw [if_pos (.inl rfl), stop_eq h2 h3, List.drop_eq_nil_of_le (by omega)]
  simp [mr]
-- GROUPS
def marksA (ps : List (Int × List UInt8)) : List Int := ps.flatMap fun p => List.replicate p.2.length p.1
def gz (ps : List (Int × List UInt8)) (q : Int × UInt8) : List (Int × List UInt8) := match ps.getLast? with
  | some p => if p.1 = q.1 then ps.set (ps.length - 1) (q.1, p.2 ++ [q.2]) else ps ++ [(q.1, [q.2])]
  | none => ps ++ [(q.1, [q.2])]
theorem group_zip {marks : List Int} {row : List UInt8} (hl : marks.length = row.length) : groupF marks row = (marks.zip row).foldl gz [] := by
  have e : marks.zip row = (List.range row.length).map fun k => (marks.getD k 0, row.getD k 0) := by
    apply List.ext_getElem
    · simp; omega
    · intro i h1 h2
      simp at h1 h2
      rw [List.getElem_zip, List.getElem_map, List.getElem_range, List.getD_eq_getElem?_getD, List.getD_eq_getElem?_getD, List.getElem?_eq_getElem (by omega), List.getElem?_eq_getElem (by omega)]; rfl
  rw [e, List.foldl_map]
  rfl
theorem gz_more {acc : List (Int × List UInt8)} {k : Int} {b : List UInt8} {x : UInt8} : gz (acc ++ [(k, b)]) (k, x) = acc ++ [(k, b ++ [x])] := by
  unfold gz
  rw [List.getLast?_concat]
  simp
theorem gz_run {acc : List (Int × List UInt8)} {k : Int} : ∀ (b a : List UInt8), ((List.replicate b.length k).zip b).foldl gz (acc ++ [(k, a)]) = acc ++ [(k, a ++ b)]
  | [], a => by simp
  | x :: b, a => by
    rw [List.length_cons, List.replicate_succ, List.zip_cons_cons, List.foldl_cons, gz_more, gz_run b]; simp
theorem gz_new {acc : List (Int × List UInt8)} {k : Int} {x : UInt8} (h : ∀ p, acc.getLast? = some p → p.1 ≠ k) : gz acc (k, x) = acc ++ [(k, [x])] := by
  unfold gz
  split
  · rename_i p e; rw [if_neg (h p e)]
  · rfl
theorem gz_all : ∀ (ps acc : List (Int × List UInt8)), Alt ps → (∀ p, acc.getLast? = some p → ∀ q, ps.head? = some q → p.1 ≠ q.1) → ((marksA ps).zip (rowOf ps)).foldl gz acc = acc ++ ps
  | [], acc, _, _ => by simp [marksA]
  | (k, b) :: r, acc, h, hn => by
    have hb : b ≠ [] := by cases h <;> assumption
    obtain ⟨x, b, rfl⟩ := List.exists_cons_of_ne_nil hb
    have ez : (marksA ((k, x :: b) :: r)).zip (rowOf ((k, x :: b) :: r)) = (k, x) :: ((List.replicate b.length k).zip b ++ (marksA r).zip (rowOf r)) := by
      unfold marksA rowOf
      rw [List.flatMap_cons, List.flatMap_cons, List.zip_append (by simp), List.length_cons, List.replicate_succ, List.zip_cons_cons, List.cons_append]
    rw [ez, List.foldl_cons, List.foldl_append, gz_new fun p hp => hn p hp _ rfl, gz_run]
    have hr : Alt r ∧ ∀ q, r.head? = some q → k ≠ q.1 := by
      cases h with
      | one _ => exact ⟨.nil, by simp⟩
      | cons _ h2 h3 => exact ⟨h3, fun q hq => by simp at hq; subst hq; exact h2⟩
    rw [gz_all r _ hr.1 fun p hp q hq => by rw [List.getLast?_concat] at hp; cases hp; exact hr.2 q hq]
    simp
theorem marksA_len : ∀ ps : List (Int × List UInt8), (marksA ps).length = (rowOf ps).length
  | [] => rfl
  | p :: r => by have := marksA_len r; unfold marksA rowOf at this ⊢; rw [List.flatMap_cons, List.flatMap_cons, List.length_append, List.length_append, this, List.length_replicate]
theorem group_alt {ps : List (Int × List UInt8)} (h : Alt ps) : groupF (marksA ps) (rowOf ps) = ps := by
  rw [group_zip (marksA_len ps), gz_all ps [] h (by simp)]; rfl
-- THE CHUNKS
def F2 (m : Nat) (q : Bool × List UInt8) : List (Int × List UInt8) := if q.1 = true then [(1, q.2)] else (splitL (PW alphaS m) q.2).map fun r => (if r.1 = true then 2 else 4, r.2)
theorem alt_map {ps : List (Bool × List UInt8)} (h : Alt ps) : Alt (ps.map fun r => ((if r.1 = true then 2 else 4 : Int), r.2)) := by
  induction h with
  | nil => exact .nil
  | one h => exact .one h
  | cons h1 h2 h3 ih =>
    refine .cons h1 ?_ ih
    rename_i p q r
    obtain ⟨p1, p2⟩ := p
    obtain ⟨q1, q2⟩ := q
    cases p1 <;> cases q1 <;> simp at h2 ⊢
theorem alt_app {a b : List (Int × List UInt8)} (ha : Alt a) (hb : Alt b) (h : ∀ p ∈ a, ∀ q, b.head? = some q → p.1 ≠ q.1) : Alt (a ++ b) := by
  induction ha with
  | nil => exact hb
  | one h1 =>
    cases b with
    | nil => exact .one h1
    | cons q r => exact .cons h1 (h _ (.head _) q rfl) hb
  | cons h1 h2 h3 ih => exact .cons h1 h2 (ih fun p hp => h p (.tail _ hp))
theorem F2_ok {m : Nat} (hm : 0 < m) {q : Bool × List UInt8} (h : q.2 ≠ []) : Alt (F2 m q) ∧ F2 m q ≠ [] ∧ rowOf (F2 m q) = q.2 ∧ ∀ p ∈ F2 m q, (p.1 = 1 ↔ q.1 = true) := by
  obtain ⟨q1, q2⟩ := q
  cases q1 with
  | true => exact ⟨.one h, by simp [F2], by simp [F2, rowOf], by simp [F2]⟩
  | false =>
    have e : F2 m (false, q2) = (splitL (PW alphaS m) q2).map fun r => (if r.1 = true then 2 else 4, r.2) := rfl
    have er : rowOf (F2 m (false, q2)) = q2 := by
      rw [e]; unfold rowOf; rw [List.flatMap_map]
      exact sp_row hm q2
    refine ⟨by rw [e]; exact alt_map (sp_alt hm q2), fun h0 => ?_, er, fun p hp => ?_⟩
    · rw [h0] at er; exact h er.symm
    · rw [e] at hp
      obtain ⟨r, _, rfl⟩ := List.mem_map.mp hp
      dsimp only
      split <;> simp
theorem F2_all {m : Nat} (hm : 0 < m) {ps : List (Bool × List UInt8)} (h : Alt ps) : Alt (ps.flatMap (F2 m)) ∧ rowOf (ps.flatMap (F2 m)) = rowOf ps ∧ (∀ p, (ps.flatMap (F2 m)).head? = some p → ∃ q, ps.head? = some q ∧ (p.1 = 1 ↔ q.1 = true)) := by
  have one : ∀ (p : Bool × List UInt8) (r : List (Bool × List UInt8)), p.2 ≠ [] → (∀ q, r.head? = some q → p.1 ≠ q.1) → (Alt (r.flatMap (F2 m)) ∧ rowOf (r.flatMap (F2 m)) = rowOf r ∧ (∀ p, (r.flatMap (F2 m)).head? = some p → ∃ q, r.head? = some q ∧ (p.1 = 1 ↔ q.1 = true))) →
      (Alt ((p :: r).flatMap (F2 m)) ∧ rowOf ((p :: r).flatMap (F2 m)) = rowOf (p :: r) ∧ (∀ u, ((p :: r).flatMap (F2 m)).head? = some u → ∃ q, (p :: r).head? = some q ∧ (u.1 = 1 ↔ q.1 = true))) := by
    rintro p r hp hn ⟨i1, i2, i3⟩
    obtain ⟨f1, f2, f3, f4⟩ := F2_ok hm hp
    rw [List.flatMap_cons]
    refine ⟨alt_app f1 i1 fun a ha q hq => ?_, ?_, fun u hu => ⟨p, rfl, ?_⟩⟩
    · obtain ⟨z, hz, hzq⟩ := i3 q hq
      have h1 := f4 a ha
      have h2 := hn z hz
      intro e
      apply h2
      rw [e] at h1
      have := h1.symm.trans hzq
      cases hp1 : p.1 <;> cases hz1 : z.1 <;> simp_all
    · unfold rowOf at f3 i2 ⊢
      rw [List.flatMap_append, f3, i2, List.flatMap_cons]
    · obtain ⟨y, ys, e⟩ := List.exists_cons_of_ne_nil f2
      rw [e] at hu f4
      simp at hu
      subst hu
      exact f4 _ (.head _)
  induction h with
  | nil => exact ⟨.nil, rfl, by simp⟩
  | one h => exact one _ [] h (by simp) ⟨.nil, rfl, by simp⟩
  | cons h1 h2 h3 ih => exact one _ _ h1 (fun q hq => by simp at hq; subst hq; exact h2) ih
theorem gOf_app {s : List UInt8} {m1 m2 : List Int} {r1 r2 : List UInt8} (h : m1.length = r1.length) : gOf s (m1 ++ m2) (r1 ++ r2) = gOf s m1 r1 ++ gOf s m2 r2 := by unfold gOf; exact List.zipWith_append h
theorem gOf_four {s : List UInt8} : ∀ r : List UInt8, gOf s (List.replicate r.length 4) r = gR s r
  | [] => rfl
  | x :: r => by
    have := gOf_four (s := s) r
    unfold gOf gR at this ⊢
    rw [List.length_cons, List.replicate_succ, List.zipWith_cons_cons, this]; rfl
theorem gOf_one {s : List UInt8} : ∀ r : List UInt8, gOf s (List.replicate r.length 1) r = List.replicate r.length (some 1)
  | [] => rfl
  | x :: r => by
    have := gOf_one (s := s) r
    unfold gOf at this ⊢
    rw [List.length_cons, List.replicate_succ, List.replicate_succ, List.zipWith_cons_cons, this]
    congr 1
theorem F2_marks {m : Nat} (hm : 0 < m) {ps : List (Bool × List UInt8)} (h : Alt ps) : mr m 2 0 (gOf alphaS (marksOf 1 ps) (rowOf ps)) = marksA (ps.flatMap (F2 m)) := by
  have mA : ∀ a b : List (Int × List UInt8), marksA (a ++ b) = marksA a ++ marksA b := fun a b => by unfold marksA; rw [List.flatMap_append]
  have gf : ∀ c, mr m 2 0 (gR alphaS c) = marksA (F2 m (false, c)) := fun c => by
    rw [← sp_marks hm 2 c]
    unfold marksOf marksA F2
    rw [if_neg (by simp), List.flatMap_map]
  have gt : ∀ (b : List UInt8) X, mr m 2 0 (List.replicate b.length (some 1) ++ X) = marksA (F2 m (true, b)) ++ mr m 2 0 X := fun b X => by
    rw [mr_somes hm]
    simp [F2, marksA]
  have e1 : ∀ (p : Bool × List UInt8) r, marksOf 1 (p :: r) = List.replicate p.2.length (if p.1 = true then 1 else 4) ++ marksOf 1 r := fun p r => by unfold marksOf; rw [List.flatMap_cons]
  have e2 : ∀ (p : Bool × List UInt8) r, rowOf (p :: r) = p.2 ++ rowOf r := fun p r => by unfold rowOf; rw [List.flatMap_cons]
  induction h with
  | nil => simp [gOf, marksOf, rowOf, mr, outM, marksA]
  | @one p h =>
    obtain ⟨p1, p2⟩ := p
    rw [e1, e2, gOf_app (by simp), List.flatMap_cons, mA]
    cases p1 with
    | true =>
      rw [if_pos rfl, gOf_one, gt]
      simp [gOf, marksOf, rowOf, mr, outM, marksA]
    | false =>
      rw [if_neg (by simp), gOf_four, show gOf alphaS (marksOf 1 []) (rowOf (α := Bool) []) = [] from rfl, List.append_nil, gf]
      simp [marksA]
  | @cons p q r h1 h2 h3 ih =>
    obtain ⟨p1, p2⟩ := p
    rw [e1, e2, gOf_app (by simp), List.flatMap_cons, mA]
    cases p1 with
    | true =>
      rw [if_pos rfl, gOf_one, gt, ih]
    | false =>
      rw [if_neg (by simp), gOf_four, ← gf, ← ih]
      obtain ⟨q1, q2⟩ := q
      have hq1 : q1 = true := by cases q1; exact absurd rfl h2; rfl
      subst hq1
      have hq2 : q2 ≠ [] := by cases h3 <;> assumption
      obtain ⟨x, q2, rfl⟩ := List.exists_cons_of_ne_nil hq2
      have ex : gOf alphaS (marksOf 1 ((true, x :: q2) :: r)) (rowOf ((true, x :: q2) :: r)) = some 1 :: gOf alphaS (List.replicate q2.length 1 ++ marksOf 1 r) (q2 ++ rowOf r) := by
        rw [e1, e2]; rfl
      rw [ex, mr_cut]
      simp [mr, outM]
theorem long_parts {m : Nat} (hm : 0 < m) {d : List UInt8} (hd : m < d.length) : partsF d m = (splitL (PW digS m) d).flatMap (F2 m) := by
  have h0 : d ≠ [] := by rintro rfl; simp at hd
  obtain ⟨a1, a2, _⟩ := F2_all hm (sp_alt (s := digS) hm d)
  rw [sp_row hm d] at a2
  unfold partsF
  rw [if_neg h0, if_neg (by omega)]
  have e1 : (mkRun d digS (m : Int) 1 (List.replicate d.length 4) (d.length + 1)).1 = marksOf 1 (splitL (PW digS m) d) := by
    rw [mk_mr (by simp), gOf_four, sp_marks hm]
  have el : (marksOf 1 (splitL (PW digS m) d)).length = d.length := by rw [← e1]; exact (mkRun_inv (by simp) _ (Nat.le_refl _)).1
  have e2 : marks2 d (m : Int) = marksA ((splitL (PW digS m) d).flatMap (F2 m)) := by
    unfold marks2
    rw [e1, mk_mr el, ← F2_marks hm (sp_alt (s := digS) hm d), sp_row hm d]
  rw [e2]
  have e3 := group_alt a1
  rw [a2] at e3
  exact e3
-- A SHORT ROW
abbrev P0 (s : List UInt8) : Pat := ⟨s, none⟩
theorem p0_ok (s : List UInt8) : PatOk (P0 s) := by
  intro x a b h
  unfold runOf at h
  dsimp only at h
  split at h
  · rename_i hc
    simp only [Option.some.injEq, Prod.mk.injEq] at h
    obtain ⟨rfl, rfl⟩ := h
    refine ⟨hc.1, ?_⟩
    unfold endOf; split <;> omega
  · cases h
theorem p0_nl (s : List UInt8) : splitL (P0 s) [10] = [(false, [10])] := splitL_none (by simp) (by unfold runOf endOf; simp)
theorem p0_hit {s d : List UInt8} (hd : d ≠ []) (h : 0 < endOf d ∧ ((d.take (endOf d)).all fun x => s.contains x) = true) : splitL (P0 s) d = (true, d.take (endOf d)) :: (if d.getLast? = some 10 then [(false, [10])] else []) := by
  rw [splitL_some (p0_ok s) hd (show runOf (P0 s) d = some (0, endOf d) from if_pos h)]
  simp only [if_true, List.nil_append, List.drop_zero]
  congr 1
  unfold endOf
  by_cases hl : d.getLast? = some 10
  · rw [if_pos hl, if_pos hl]
    have e : d.drop (d.length - 1) = [10] := by
      obtain ⟨a, rfl⟩ := List.getLast?_eq_some_iff.mp hl
      rw [List.length_append, List.length_singleton, Nat.add_sub_cancel, List.drop_left]
    rw [e, p0_nl]
  · rw [if_neg hl, if_neg hl, List.drop_eq_nil_of_le (Nat.le_refl _), sp_nil]
theorem p0_miss {s d : List UInt8} (hd : d ≠ []) (h : ¬ (0 < endOf d ∧ ((d.take (endOf d)).all fun x => s.contains x) = true)) : splitL (P0 s) d = [(false, d)] := splitL_none hd (if_neg h)
def F0 (q : Bool × List UInt8) : List (Int × List UInt8) := if q.1 = true then [(1, q.2)] else (splitL (P0 alphaS) q.2).map fun r => (if r.1 = true then 2 else 4, r.2)
theorem short_parts {d : List UInt8} (hd : d ≠ []) : shortF d = (splitL (P0 digS) d).flatMap F0 := by
  have c1 : (d.getD (d.length - 1) 0 = 10) ↔ d.getLast? = some 10 := by
    rw [List.getLast?_eq_getElem?, List.getD_eq_getElem?_getD]
    have hl : d.length - 1 < d.length := by have := List.length_pos_iff.mpr hd; omega
    rw [List.getElem?_eq_getElem hl]; simp
  have cb : (if d.getLast? = some 10 then d.dropLast else d) = d.take (endOf d) := by
    unfold endOf; split
    · rw [List.dropLast_eq_take]
    · rw [List.take_of_length_le (Nat.le_refl _)]
  have ce : (d.take (endOf d) ≠ []) ↔ 0 < endOf d := by
    have hl := List.length_pos_iff.mpr hd
    rw [← List.length_pos_iff, List.length_take]; omega
  have nl : F0 (false, [10]) = [(4, [10])] := by unfold F0; rw [if_neg (by decide), p0_nl]; rfl
  unfold shortF
  simp only [c1]
  rw [cb]
  by_cases h1 : 0 < endOf d ∧ ((d.take (endOf d)).all fun x => digS.contains x) = true
  · rw [if_pos ⟨ce.mpr h1.1, h1.2⟩, p0_hit hd h1, List.flatMap_cons, show F0 (true, d.take (endOf d)) = [(1, d.take (endOf d))] from rfl]
    split
    · rw [List.flatMap_cons, nl]; rfl
    · rfl
  · rw [if_neg (by rintro ⟨a, b⟩; exact h1 ⟨ce.mp a, b⟩), p0_miss hd h1, List.flatMap_cons, List.flatMap_nil, List.append_nil, show F0 (false, d) = (splitL (P0 alphaS) d).map fun r => (if r.1 = true then 2 else 4, r.2) from rfl]
    by_cases h2 : 0 < endOf d ∧ ((d.take (endOf d)).all fun x => alphaS.contains x) = true
    · rw [if_pos ⟨ce.mpr h2.1, h2.2⟩, p0_hit hd h2, List.map_cons]
      split <;> rfl
    · rw [if_neg (by rintro ⟨a, b⟩; exact h2 ⟨ce.mp a, b⟩), p0_miss hd h2]; rfl
theorem short_row {d : List UInt8} (hd : d ≠ []) : rowOf (shortF d) = d := by
  have hl : d.length - 1 < d.length := by have := List.length_pos_iff.mpr hd; omega
  unfold shortF
  by_cases c : d.getD (d.length - 1) 0 = 10
  · have c2 : d.getLast? = some 10 := by
      rw [List.getLast?_eq_getElem?]
      rw [List.getD_eq_getElem?_getD, List.getElem?_eq_getElem hl] at c
      rw [List.getElem?_eq_getElem hl]; simpa using c
    obtain ⟨a, rfl⟩ := List.getLast?_eq_some_iff.mp c2
    simp only [if_pos c, List.dropLast_concat]
    split
    · simp [rowOf]
    · split <;> simp [rowOf]
  · simp only [if_neg c]
    split
    · simp [rowOf]
    · split <;> simp [rowOf]
-- BOTH
theorem chunks_parts {m : Nat} (hm : 0 < m) (d : List UInt8) : chunksV m d = (partsF d m).map fun p => qdV p.1 p.2 := by
  by_cases h0 : d = []
  · subst h0; unfold chunksV partsF; rw [sp_nil, if_pos rfl]; rfl
  have ex : ∀ (p : Pat), (if d.length ≤ m then (P0 alphaS) else PW alphaS m) = p → ∀ q : Bool × List UInt8, chunkF m d q = (if q.1 = true then [((1 : Int), q.2)] else (splitL p q.2).map fun r => ((if r.1 = true then 2 else 4 : Int), r.2)).map fun p => qdV p.1 p.2 := by
    rintro p rfl q
    unfold chunkF patW
    have e : (⟨alphaS, if d.length ≤ m then none else some m⟩ : Pat) = if d.length ≤ m then (P0 alphaS) else PW alphaS m := by split <;> rfl
    rw [e]
    split
    · rfl
    · rw [List.map_map]
      congr 1
  unfold chunksV
  by_cases hl : d.length ≤ m
  · have ep : partsF d m = shortF d := by unfold partsF; rw [if_neg h0, if_pos hl]
    have e1 : patW digS m d = P0 digS := by unfold patW; rw [if_pos hl]
    rw [e1, ep, short_parts h0, List.map_flatMap]
    congr 1
    funext q
    exact ex (P0 alphaS) (if_pos hl) q
  · have e1 : patW digS m d = PW digS m := by unfold patW; rw [if_neg hl]
    rw [e1, long_parts hm (by omega), List.map_flatMap]
    congr 1
    funext q
    exact ex (PW alphaS m) (if_neg hl) q
theorem parts_row {m : Nat} (hm : 0 < m) (d : List UInt8) : ((partsF d m).map (·.2)).flatten = d := by
  have e : ∀ ps : List (Int × List UInt8), (ps.map (·.2)).flatten = rowOf ps := fun ps => by unfold rowOf; rw [List.flatMap_def]
  rw [e]
  by_cases h0 : d = []
  · subst h0; rfl
  by_cases hl : d.length ≤ m
  · have ep : partsF d m = shortF d := by unfold partsF; rw [if_neg h0, if_pos hl]
    rw [ep, short_row h0]
  · rw [long_parts hm (by omega), (F2_all hm (sp_alt (s := digS) hm d)).2.1, sp_row hm]
theorem alt_len {ps : List (Int × List UInt8)} (h : Alt ps) : ps.length ≤ (rowOf ps).length := by
  have e2 : ∀ (p : Int × List UInt8) r, rowOf (p :: r) = p.2 ++ rowOf r := fun p r => by unfold rowOf; rw [List.flatMap_cons]
  induction h with
  | nil => simp
  | one h => rw [e2, List.length_append]; have := List.length_pos_iff.mpr h; simp only [List.length_cons, List.length_nil]; omega
  | cons h1 h2 h3 ih => rw [e2, List.length_append]; have := List.length_pos_iff.mpr h1; simp only [List.length_cons] at ih ⊢; omega
theorem parts_len {m : Nat} (hm : 0 < m) (d : List UInt8) : (partsF d m).length ≤ d.length + 2 := by
  by_cases h0 : d = []
  · subst h0; exact Nat.zero_le _
  by_cases hl : d.length ≤ m
  · have ep : partsF d m = shortF d := by unfold partsF; rw [if_neg h0, if_pos hl]
    rw [ep]
    unfold shortF
    by_cases hc : d.getD (d.length - 1) 0 = 10
    · simp only [if_pos hc]; split <;> (try split) <;> simp
    · simp only [if_neg hc]; split <;> (try split) <;> simp
  · obtain ⟨a1, a2, _⟩ := F2_all hm (sp_alt (s := digS) hm d)
    rw [long_parts hm (by omega)]
    have := alt_len a1
    rw [a2, sp_row hm] at this
    omega
end
section
open PySem PySem.W PyProof.Rows PySem.Calls
set_option maxRecDepth 100000
set_option maxHeartbeats 4000000
def shAO : Shape := fun a k v => ∃ s d m, a = [s, d] ∧ k = [(("optimize" : Str), m)] ∧ v = [s, d, m]
theorem shAO_ok {c : Cx} {fd : FuncData} {T : Addr} {o : Obj} {items : Array Value} {n : Nat} (ho : c.K.lookup T = some o) (hd : fd.defaults = .ref T) (hs : o.data = .seq items n)
    (h1 : ∀ a b d, ∃ k, bindArgs fd ⟨[a, b], [(("optimize" : Str), d)]⟩ = seqItems? fd.defaults >>= k ∧ k (some items) = pure [(("self" : Str), a), (("data" : Str), b), (("optimize" : Str), d)]) :
    ∀ args kw vals, shAO args kw vals → BindA c fd args kw (List.zip ["self", "data", "optimize"] vals) ∧ vals.length = List.length (α := Str) ["self", "data", "optimize"] := by
  rintro args kw vals ⟨s, d, m, rfl, rfl, rfl⟩
  refine ⟨bindD ho hd hs fun ws kws hw hk => ?_, rfl⟩
  obtain ⟨a, b, rfl⟩ := len2 hw
  obtain ⟨x, rfl⟩ := len1 hk
  obtain ⟨k, e1, e2⟩ := h1 a b x
  exact ⟨k, _, e1, e2, fun z ρ rl rk => ⟨rfl, .cons (vrl2 rl).1 (.cons (vrl2 rl).2 (.cons (vrl1 rk) .nil))⟩⟩
local macro_rules | `(tactic| walk_at "extR") => `(tactic| (
  (with_reducible show CE _ _ _ (Expr.Call (Expr.Attribute _ ("extend" : Str) _) _ _ _) _);
   refine' ce_extG (C3.pin ‹C3 _›) ?e ?hk ?ho ?ha ?hw; (case e => k_in); (case hk => k_in); (case ho => kda_here); (case ha => kda_here); (case hw => kda_here)))
local macro_rules | `(tactic| kda_here) => `(tactic| walk_at "extR")
local macro_rules | `(tactic| walk_at "isiR") => `(tactic| (
  (with_reducible show CE _ _ _ (Expr.Call (Expr.Name ("isinstance" : Str) _) _ _ _) _);
   refine' ce_isiN (C := 160) ?ek ?e ?hb ?ha ?hw; (case ek => (rw [C3.k ‹C3 _›]; first | kit_is | kernel_rfl)); (case e => k_in); (case hb => boot_by_name); (case ha => kda_here); (case hw => kda_here)))
local macro_rules | `(tactic| kda_here) => `(tactic| walk_at "isiR")
def qr_add : { w : WX // ∀ c, C3 c → Def c 303 ["self", "data", "optimize"] [] shAO w } := ⟨_, fun c hC => ⟨⟨_, _, _, _, _, by k_in, rfl, by k_in, ⟨by decide, by decide, by decide⟩, ⟨rfl, rfl, rfl, rfl, rfl⟩, (by
  refine' shAO_ok ?b1 ?a1 ?c1 ?d1
  case a1 => rfl
  case b1 => k_in
  case c1 => rfl
  case d1 => exact fun _ _ _ => ⟨_, rfl, rfl⟩), fun L env he => by
  simp only [List.cons_append, List.nil_append]
  kda_here⟩⟩⟩
/-- a code with its parts, in the heap -/
structure IsQR (σ : Hp) (n : Nat) (e : Int) (ver : V) (parts : List V) : Prop where
  inst : σ[n]? = some (.inst 392 (qrF n e ver .none))
  parts : σ[n + 4]? = some (.list parts)
theorem flat_bi {z : Led} {ρ : List Addr} {b : List UInt8} {m : Int} {ws : List Value} (h : VRL z ρ [.bytes b, .int m] ws) : VRL z [] [.bytes b, .int m] ws := by
  cases h with
  | cons h1 h => cases h with
    | cons h2 h => cases h; cases h1; cases h2; exact .cons (.bytes _ _) (.cons (.int _ _) .nil)
theorem qr_addO_ {c : Cx} (hC : C3 c) {D : Nat} {σ : Hp} {n m : Nat} {e : Int} {ver : V} {row : List UInt8} {Q : V → Hp → Prop} (hq : IsQR σ n e ver []) (hm : 0 < m) (hr : row.length ≤ 100)
    (h : Q .none (σ.set (n + 4) (.list (chunksV m row)))) : FC c (D + 90) (.val (.ref 303)) [.ref n, .bytes row] [("optimize", .int (m : Int))] σ Q := by
  obtain ⟨hi, hp⟩ := hq
  have hne : n + 4 ≠ n := by omega
  refine (qr_add.2 c hC).fc (X3 c (D + 89)) rfl (X3_ok hC _) ⟨_, _, _, rfl, rfl, rfl⟩ ?_
  repeat' walk_at "vc"
  conv => whnf
  refine isiS_of ?_
  repeat' walk_at "vc"
  conv => whnf
  have hpat : ∀ s : List UInt8, PatOk (patW s m row) := fun s => by
    have := patW_ok s hm row
    unfold patW
    by_cases hl : row.length ≤ m
    · rw [if_pos hl] at this ⊢; exact this
    · rw [if_neg hl] at this ⊢; exact this
  have hg := (chunks (D := D + 9) hC (run_ (D := D + 7) hC)).gfn (args := [.bytes row]) (kw := [(("minimum" : Str), .int (m : Int))]) ⟨_, _, rfl, rfl, rfl⟩ ⟨row, m, rfl, hr, hpat _, hpat _, rfl⟩ fun _ _ _ h => flat_bi h
  refine br_t (by simp; omega) ?_
  repeat' walk_at "vc"
  conv => whnf
  refine chk_of (show 40 ≤ D + 89 by omega) ?_
  repeat' walk_at "vc"
  conv => whnf
  refine extO_of hp ?_
  repeat' walk_at "vc"
  conv => whnf
  refine extG_of (us := chunksV m row) ?_ ?_ ?_
  · exact hg
  · have h1 := parts_len hm row
    rw [chunks_parts hm, List.length_map, List.length_nil]; omega
  · repeat' walk_at "vc"
    conv => whnf
    have e := Mine.set_same (at_other (o' := .list (chunksV m row)) hne hi)
    rw [← e] at h
    exact h
end
section
open PySem PySem.W PyProof.Rows PySem.Calls PySem.W.X
section
variable {c : Cx} {env : Env} {D Di : Nat} {l : Loc} {σ : Hp}
/-- y = [elt for target in f(..)], where f yields: the name is bound ahead of the frame's end -/
theorem ex_asgCompG {elt target iter : Expr} {y : Str} {py spos : Pos} {scope : Scope} {pos : Pos} {cl : List (Str × Addr)} {lc : Loc} {f : V → V} {Q : Fl → Loc → Hp → Prop} {ps : List (Nat × GenState)}
    (hsw : swapsWith (.ListComp elt [⟨target, iter, [], 0⟩] scope pos) (some (.Name y py)) spos.line env = pure true) (hy : env.kindOf y = some .local)
    (hclos : closureFor scope env = pure cl) (hcell : ∀ y ∈ scope.names, y.2 ≠ .cell) (hkind : scope.kind = .function) (hnames : ∀ y ∈ scope.names, y.2 = .local → scope.names.lookup y.1 = some .local) (hlc : CompLoc env scope cl l lc) (hnd : (lc.map (·.1)).Nodup)
    (hDi : Di + 40 ≤ D)
    (h : EVG c ps env D Di l σ iter fun us => us.length ≤ 1000000 ∧ (∀ ps C v, v ∈ us → EA (c.pin ps) (compEnvC scope cl C env) D target v lc σ fun l₂ σ₂ => EV (c.pin ps) (compEnvC scope cl C env) D (eval elt (compEnvC scope cl C env)) l₂ σ₂ fun u σ₃ => u = f v ∧ σ₃ = σ) ∧ ∃ l', Up y (.ref σ.length) l l' ∧ Q .next l' (σ ++ [.list (us.map f)]))
    (hs : ∀ x, foldedSetIterable iter env x = pure x) : EX (c.pin ps) env D (exec (.Assign [.Name y py] (.ListComp elt [⟨target, iter, [], 0⟩] scope pos) spos) env) l σ Q := by
  intro A g ρ z s Q' E' ok R q
  rw [exec_Assign_Name_used _ _ _ _ hsw]
  refine wpAny_bind (wpAny_standAt (wpAny_bind ?_))
  show wpAny _ A (do let _ ← comprehension (.ListComp elt [⟨target, iter, [], 0⟩] scope pos) scope env _ (newList []) false (eval iter env) (some (assign (.Name y py) env))) _ _ s
  have hroom : A.depth < recursionLimit := by have := ok.d; omega
  have okS : OkS A.in1 Di := ⟨ok.h, by have := ok.d; show A.depth + 3 * Di + 60 < _; omega, by have := ok.u; show A.units + 1 + 20 * Di + 400 < _; omega⟩
  refine wpAny_bind (wpAny_mono (wpAny_comprehension_free (use := some (assign (.Name y py) env)) (Q := fun _ s' => Q' .next s') rfl hs hclos hkind hnames (h A g ρ z s _ _ ok R fun us a k L ρ1 z1 s1 s2 hQg R1 G1 n => wpAny_pyIter_gen n.gn.gen ?_)) (fun _ s' hq => wpAny_pure (wpAny_pure hq)) fun _ _ e => e)
  obtain ⟨hlen, step, lN, hu, fin⟩ := hQg
  have P2 := n.add R1.toRp
  have exL0 : ∃ o, s1.heap.get? env.locals = some o := (R1.off env.locals (by simp)).2
  have gn0 := n.gn
  have k12 := n.keep
  have sl12 := n.slots
  have G2 : Go g ρ z s ρ1 z1 s2 := G1.trans n.go
  have naL : env.locals ≠ a ∧ env.locals ≠ L := by
    obtain ⟨o, e⟩ := exL0
    exact ⟨fun q => by (rw [q, n.fa] at e; cases e), fun q => by (rw [q, n.fL] at e; cases e)⟩
  have naT : ∀ x ∈ [a, L], x ∉ c.tk := fun x hx hT => by
    obtain ⟨o, e⟩ := (R1.off x (List.mem_append_right _ hT)).2
    rcases List.mem_cons.mp hx with rfl | hx
    · rw [n.fa] at e; cases e
    · rw [List.mem_singleton.mp hx, n.fL] at e; cases e
  have exL : ∃ o, s2.heap.get? env.locals = some o := let ⟨o, e⟩ := exL0; ⟨o, k12 _ _ e⟩
  have exAL : ∀ x ∈ [a, L], ∃ o, s2.heap.get? x = some o := fun x hx => (P2.off x (List.mem_append_left _ (List.mem_append_left _ hx))).2
  obtain ⟨mL, hmL, hlL⟩ := R1.ns
  have hmL2 := hmL.keeps k12
  have kG0 : ∀ b o, s.heap.get? b = some o → b ≠ a ∧ b ≠ L := fun b o e => by
    obtain ⟨o1, e1⟩ := G1.dom b o e
    exact ⟨fun q => by (rw [q, n.fa] at e1; cases e1), fun q => by (rw [q, n.fL] at e1; cases e1)⟩
  have neaL := n.ne
  clear n
  obtain ⟨hp2, gens2, dr2, tk2, os2⟩ := s2
  dsimp only at exL exAL hmL2 gn0 ⊢
  refine wpAny_newObj_type (wpAny_newFunctionEnv hcell (by intro y hy; simp at hy) (fun h₁ hns₁ hsb₁ => ?_) hkind)
  dsimp only at hns₁ hsb₁ ⊢
  generalize hH2 : hp2.push { cls := .type "list", dict := none, data := .seq ([] : List Value).toArray } = H2 at hns₁ hsb₁ ⊢
  have hD2 : H2.get? hp2.objs.size = some (listOf #[] 0) := by rw [← hH2]; exact Heap.get?_push_size _ rfl
  have nD2 : hp2.get? hp2.objs.size = none := fresh_at (Nat.le_refl _)
  have k23 : ∀ b o, hp2.get? b = some o → H2.get? b = some o := fun b o e => by rw [← hH2]; exact Heap.get?_push_of_some _ e
  have nC2 : H2.get? H2.objs.size = none := fresh_at (Nat.le_refl _)
  have k3 : ∀ b o, H2.get? b = some o → h₁.get? b = some o := fun b o e => (hsb₁.2 b (Nat.ne_of_lt (Heap.lt_size e))).trans (Heap.get?_push_of_some _ e)
  have eC : ∃ o, h₁.get? H2.objs.size = some o := let ⟨o, _, _, e, _⟩ := hns₁; ⟨o, e⟩
  generalize hp2.objs.size = Da at hD2 nD2 ⊢
  generalize H2.objs.size = C at nC2 hns₁ hsb₁ eC ⊢
  have P3 : Rp (c.pin ps) g (Da :: ([a, L] ++ [env.locals])) ρ1 z1 σ ⟨H2, gens2, dr2, tk2, os2⟩ := P2.addX' (s' := ⟨H2, gens2, dr2, tk2, os2⟩) k23 nD2 ⟨_, hD2⟩
  have P4 : Rp (c.pin ps) g (C :: Da :: ([a, L] ++ [env.locals])) ρ1 z1 σ ⟨h₁, gens2, dr2, tk2, os2⟩ := P3.addX' (s' := ⟨h₁, gens2, dr2, tk2, os2⟩) k3 nC2 eC
  have notTk : ∀ {x : Addr} {XX : List Addr} {ss : Shared} {ρρ zz σσ}, Rp (c.pin ps) g XX ρρ zz σσ ss → ss.heap.get? x = none → x ∉ c.tk := fun PP e hm => by
    obtain ⟨_, e'⟩ := (PP.off _ (List.mem_append_right _ hm)).2
    rw [e] at e'; cases e'
  have tD : Da ∉ c.tk := notTk P2 nD2
  have tC : C ∉ c.tk := notTk P3 nC2
  have nDL : Da ≠ env.locals := fun e => by obtain ⟨o, e'⟩ := exL; rw [e, e'] at nD2; cases nD2
  have nDa : ∀ x ∈ [a, L], Da ≠ x := fun x hx e => by obtain ⟨o, e'⟩ := exAL x hx; rw [e, e'] at nD2; cases nD2
  have nCD : C ≠ Da := fun e => by rw [e, hD2] at nC2; cases nC2
  have nCL : C ≠ env.locals := fun e => by obtain ⟨o, e'⟩ := exL; rw [e, k23 _ _ e'] at nC2; cases nC2
  have nCa : ∀ x ∈ [a, L], C ≠ x := fun x hx e => by obtain ⟨o, e'⟩ := exAL x hx; rw [e, k23 _ _ e'] at nC2; cases nC2
  obtain ⟨oL, eL⟩ := exL
  have k13 : ∀ b o, hp2.get? b = some o → h₁.get? b = some o := fun b o e => k3 _ _ (k23 _ _ e)
  have G4 : Go g ρ z s ρ1 z1 ⟨h₁, gens2, dr2, tk2, os2⟩ := G2.trans (Go.same _ _ _ _ _ k13)
  have nrc : ∀ {ρ' z' m'}, Ext ρ1 z1 ρ' z' → ∀ p ∈ lc, NR (compEnvC scope cl C env) ρ' z' m' p := fun {ρ' z' m'} ex p hp => by
    rcases hlc p hp with h | ⟨i, h1, h2, h3, h4⟩
    · exact .inl h
    · rcases hlL p h2 with h5 | ⟨i', a, h5, _, h6, h7⟩ | ⟨h5, w', h6, h7⟩
      · rw [h1] at h5; cases h5
      · rw [h1] at h5; cases h5
        exact .inr (.inl ⟨i, a, h1, h4, h3.trans h6, ex.r _ _ h7⟩)
      · rw [h1] at h7; cases h7
  have loop : ∀ tk, codeAny c.M A (.compLoop (.ListComp elt [⟨target, iter, [], 0⟩] scope pos) 0 (.ref a) (.ref Da) (compEnvC scope cl C env)) (compPost c.M A E' (some (assign (.Name y py) env)) (fun _ s' => Q' .next s') (.ref Da) C) ⟨h₁, gens2, dr2, tk, os2⟩ := fun tk => by
    refine compLoop_gen (fun kk s' => ∃ i Xs Ys zi ρ' z' ws n, kk = us.length + 1 - i ∧ i ≤ us.length ∧ Rp (c.pin ps) g (a :: Xs ++ [C, Da, env.locals]) ρ' z' σ s' ∧ (∀ x ∈ [C, Da, env.locals], x ∉ a :: Xs) ∧ (∀ x ∈ Xs, x ∉ c.tk) ∧ Gn c Di ps a k (us.drop i) Xs Ys zi s' ∧ (∀ p ∈ zi, p ∈ z') ∧ s'.heap.get? Da = some (listOf ws n) ∧ VRL z' ρ' ((us.take i).map f) ws.toList ∧ (∃ m, s'.heap.Ns C m) ∧ s'.heap.get? env.locals = some oL ∧ Go g ρ z s ρ' z' s' ∧ Ext ρ1 z1 ρ' z') ?_ (us.length + 1)
      ⟨0, [L], [], z1, ρ1, z1, #[], 0, by simp, Nat.zero_le _, (P4.grow (s' := ⟨h₁, gens2, dr2, tk, os2⟩) (fun _ _ e => e)).perm (fun x hx => by simp only [List.mem_append, List.mem_cons, List.not_mem_nil, or_false] at hx ⊢; rcases hx with (h | h) | h | h | h <;> simp [h]), ?_, fun x hx => naT x (.tail _ hx), ?_, fun _ h => h, k3 _ _ hD2, .nil, ⟨_, hns₁⟩, k13 _ _ eL, G4.trans (Go.same _ _ _ _ _ fun _ _ e => e), Ext.refl ..⟩
    · rintro kk s' ⟨i, Xs, Ys, zi, ρ', z', ws, n, rfl, hi, P', hdj, hXt, gn, hzi, hD, hVR, ⟨mC, hmC⟩, hL, G', X'⟩
      have htk : ∀ x ∈ a :: [C, Da, env.locals], x ∉ c.tk := by
        intro x hx
        simp only [List.mem_cons, List.not_mem_nil, or_false] at hx
        rcases hx with rfl | rfl | rfl | rfl
        · exact naT _ (.head _)
        · exact tC
        · exact tD
        · exact R1.lt
      have nX : ∀ x ∈ [C, Da, env.locals], x ∉ Xs ++ c.tk := fun x hx hm => by
        rcases List.mem_append.mp hm with h | h
        · exact hdj x hx (.tail _ h)
        · exact htk x (.tail _ hx) h
      refine gn_next ok.h hroom okS P' hdj htk gn hzi ?_ ?_
      · intro v vs' hv w Xs' Ys' zg' z2 s2' hz2 P₂ G₂ k₂ rv gn₂ hdj₂ sl₂ _ hXt₂ _
        have hlt : i < us.length := by
          rcases Nat.lt_or_ge i us.length with h | h
          · exact h
          · rw [List.drop_eq_nil_of_le h] at hv; cases hv
        have hget : us[i]? = some v := by
          have := congrArg List.head? hv
          rw [List.head?_drop] at this
          simpa using this
        have hdrop : us.drop (i + 1) = vs' := by
          have := congrArg List.tail hv
          rw [List.tail_drop] at this
          simpa using this
        obtain ⟨o, nm, qn, eo, ec, _⟩ := gn₂.gen
        refine lg_plain eo ec (by decide) ?_
        obtain ⟨g1, ps1, Pg, back⟩ := (P₂.perm (Y := C :: ([Da, env.locals] ++ (a :: Xs'))) (fun x hx => by simp only [List.mem_append, List.mem_cons, List.not_mem_nil, or_false] at hx ⊢; rcases hx with h | (h | h) | h | h <;> simp [h])).turnIn (by
          intro x hx
          simp only [List.mem_cons, List.mem_append, List.not_mem_nil, or_false] at hx
          rcases hx with (rfl | rfl) | rfl | hx
          · exact ⟨nCD.symm, tD⟩
          · exact ⟨nCL.symm, R1.lt⟩
          · exact ⟨(nCa _ (.head _)).symm, naT _ (.head _)⟩
          · exact ⟨fun e => hdj₂ C (by simp) (by simp [← e, hx]), hXt₂ x hx⟩)
        have RR : Rep (c.pin ps1) (compEnvC scope cl C env) g1 ρ' z2 σ lc s2' :=
          ⟨Pg, ⟨mC, hmC.at' fun o e => k₂ _ o (nX C (by simp)) e, nrc (X'.trans G₂.toExt)⟩, hnd, hkind, R1.glob, R1.bltn, tC⟩
        refine step ps1 C v (List.mem_of_getElem? hget) A g1 ρ' z2 _ _ _ w ok RR rv fun l3 σ3 ρ3 z3 s3 h3 R3 G3 => ?_
        refine wpAny_tests_nil ?_
        rw [if_pos rfl]
        refine h3 A g1 ρ3 z3 s3 _ _ ok R3 fun u wu σ4 ρ4 z4 s4 h4 R4 G4' r4 => ?_
        obtain ⟨rfl, rfl⟩ := h4
        obtain ⟨PB, GB, kO, kS⟩ := back _ _ _ _ R4.toRp (G3.trans G4')
        have hD4 : s4.heap.get? Da = some (listOf ws n) := kO Da (by simp) _ (k₂ _ _ (nX Da (by simp)) hD)
        have hVR4 := hVR.mono (G₂.trans GB).toExt
        have hws : ws.size ≤ sizeLine := by
          have := hVR.length
          simp only [Array.length_toList, List.length_map, List.length_take] at this
          rw [sizeLine_eq]; omega
        refine wpAny_list_append_plain ⟨n, hD4⟩ (fun h₅ hD5 hs5 => ?_) hws
        obtain ⟨n5, hD5⟩ := hD5
        have P5 : Rp (c.pin ps) g (C :: ([Da, env.locals] ++ (a :: Xs'))) ρ4 z4 σ4 { s4 with heap := h₅ } := PB.atX' (a := Da) (by simp) tD (fun b o hb e => (hs5.2 b hb).trans e) ⟨_, hD5⟩
        have G5 : Go g ρ4 z4 s4 ρ4 z4 { s4 with heap := h₅ } := ⟨Ext.refl .., fun b o e => by
          by_cases hb : b = Da
          · subst hb; exact ⟨_, hD5⟩
          · exact ⟨o, (hs5.2 b hb).trans e⟩, fun _ h => .inl h⟩
        obtain ⟨m4, hm4, _⟩ := R4.ns
        have nDX : ∀ x ∈ a :: Xs', x ≠ Da := fun x hx e => hdj₂ Da (by simp) (e ▸ hx)
        refine ⟨us.length + 1 - (i + 1), by omega, i + 1, Xs', Ys', zg', ρ4, z4, ws.push wu, n5, rfl, hlt, P5.perm (fun x hx => by simp only [List.mem_append, List.mem_cons, List.not_mem_nil, or_false] at hx ⊢; rcases hx with (h | h) | h | h | h <;> simp [h]), hdj₂, hXt₂, hdrop ▸ gn₂.agr ⟨fun x hx o e => ?_, fun j _ x e => kS j x e⟩, fun p hp => GB.zz _ (hz2 p hp), hD5, ?_, ⟨m4, hm4.sameBut hs5 nCD⟩, ?_, (G'.trans G₂).trans (GB.trans G5), X'.trans (G₂.trans (GB.trans G5)).toExt⟩
        · exact (hs5.2 _ (nDX x hx)).trans (kO x (by simp only [List.mem_append]; exact .inr hx) o e)
        · have e1 : us.take (i + 1) = us.take i ++ [v] := by rw [List.take_add_one, hget]; rfl
          rw [e1, List.map_append]
          have := hVR4.append (.cons r4 .nil)
          simpa using this
        · exact (hs5.2 _ nDL.symm).trans (kO env.locals (by simp) _ (k₂ _ _ (nX env.locals (by simp)) hL))
      · intro hv z2 s2' hz2 P₂ G₂ k₂ sl₂
        have hin : i = us.length := by
          have := congrArg List.length hv
          simp only [List.length_drop, List.length_nil] at this
          omega
        subst hin
        rw [List.take_length] at hVR
        obtain ⟨P9, G9, r9⟩ := (P₂.perm (Y := Da :: [C, env.locals]) (fun x hx => by simp only [List.mem_cons, List.not_mem_nil, or_false] at hx ⊢; rcases hx with h | h | h <;> simp [h])).ownX (a := Da) (ws := ws.toList) (n := n) (hVR.mono G₂.toExt) (by
          simp only [List.mem_append, List.mem_cons, List.not_mem_nil, or_false]
          rintro ((h | h) | h)
          · exact nCD h.symm
          · exact nDL h
          · exact tD h) (by simpa using k₂ _ _ (nX Da (by simp)) hD)
        obtain ⟨g1, ps1, Pg, back⟩ := (P9.perm (Y := env.locals :: [C]) (fun x hx => by simp only [List.mem_cons, List.not_mem_nil, or_false] at hx ⊢; rcases hx with h | h <;> simp [h])).turnIn (by
          intro x hx
          rw [List.mem_singleton.mp hx]
          exact ⟨nCL, tC⟩)
        have hLs : s2'.heap.get? env.locals = some oL := k₂ _ _ (nX env.locals (by simp)) hL
        have hmLs : s2'.heap.Ns env.locals mL := by
          obtain ⟨o, es, ep, e, r⟩ := hmL2
          have : o = oL := Option.some.inj (e.symm.trans eL)
          subst this
          exact ⟨o, es, ep, hLs, r⟩
        have RL : Rep (c.pin ps1) env g1 (ρ' ++ [Da]) z2 (σ ++ [.list (us.map f)]) l s2' :=
          ⟨Pg, ⟨mL, hmLs, fun p hp => (hlL p hp).mono ((X'.trans G₂.toExt).trans G9.toExt)⟩, R1.nd, R1.kind, R1.glob, R1.bltn, R1.lt⟩
        show wpAny c.M A (assign (.Name y py) env (.ref Da)) _ E' s2'
        refine wpAny_assign_Name (store_local (c := c.pin ps1) RL r9 hy hu fun s3 R3 G3 => ?_)
        obtain ⟨PB, GB, kO, kS⟩ := back _ _ _ _ R3.toRp G3
        have hmC2 : s2'.heap.Ns C mC := hmC.at' fun o e => k₂ _ o (nX C (by simp)) e
        refine ⟨mC, hmC2.at' fun o e => kO C (by simp) o e, fun h₃ hs₃ => ?_⟩
        have kC : ∀ b o, b ≠ C → s3.heap.get? b = some o → h₃.get? b = some o := fun b o hb e => (hs₃.2 b hb).trans e
        have P8 : Rp (c.pin ps) g [env.locals] (ρ' ++ [Da]) z2 (σ ++ [.list (us.map f)]) { s3 with heap := h₃ } := (PB.perm (Y := C :: [env.locals]) (fun x hx => by simp only [List.mem_cons, List.not_mem_nil, or_false] at hx ⊢; rcases hx with h | h <;> simp [h])).offI (s' := { s3 with heap := h₃ }) (by
          simp only [List.mem_append, List.mem_cons, List.not_mem_nil, or_false]
          rintro (h | h)
          · exact nCL h
          · exact tC h) kC
        obtain ⟨m3, hm3, hl3⟩ := R3.ns
        have GA := ((G'.trans G₂).trans G9).trans GB
        have G8 : Go g ρ z s (ρ' ++ [Da]) z2 { s3 with heap := h₃ } := ⟨GA.toExt, fun b o e => by
          obtain ⟨o1, e1⟩ := G2.dom b o e
          obtain ⟨o', e'⟩ := GA.dom b o e
          exact ⟨o', kC _ _ (fresh_ne (k23 _ _ e1) nC2) e'⟩, GA.fr⟩
        exact q _ _ _ _ _ _ _ fin ⟨P8, ⟨m3, hm3.at' fun o e => kC _ o nCL.symm e, hl3⟩, R3.nd, R3.kind, R3.glob, R3.bltn, R3.lt⟩ G8 .next
    · intro x hx hm
      simp only [List.mem_cons, List.not_mem_nil, or_false] at hx hm
      rcases hx with rfl | rfl | rfl
      · rcases hm with h | h
        · exact nCa _ (.head _) h
        · exact nCa _ (.tail _ (.head _)) h
      · rcases hm with h | h
        · exact nDa _ (.head _) h
        · exact nDa _ (.tail _ (.head _)) h
      · rcases hm with h | h
        · exact naL.1 h
        · exact naL.2 h
    · exact gn0.agr ⟨fun x hx o e => k13 _ _ e, fun j _ x e => e⟩
  exact codeAny_compStart_list (loop _) (wpAny_pyIter_gen (gn0.agr (s' := ⟨h₁, gens2, dr2, _, os2⟩) ⟨fun x hx o e => k13 _ _ e, fun j _ x e => e⟩).gen (loop _))
end
theorem EX.of_pin' {c : Cx} {env : Env} {D : Nat} {t : Sem Flow} {l : Loc} {σ : Hp} {Q : Fl → Loc → Hp → Prop} (hgi : ∃ ps, ∀ a, c.gi a ↔ PIN ps a) (h : ∀ ps, (∀ a, c.gi a ↔ PIN ps a) → EX (c.pin ps) env D t l σ Q) : EX c env D t l σ Q := by
  obtain ⟨ps, hp⟩ := hgi
  exact fun A g ρ z s Q' E' ok R q => h ps hp A g ρ z s Q' E' ok (R.pin hp) fun f fw l' σ' ρ' z' s' hq R' G' r => q f fw l' σ' ρ' z' s' hq (R'.unpin hp) G' r
section
variable {c : Cx} {env : Env} {ns : List Str} {pos : Pos}
theorem cx_asgG {elt target : Expr} {y : Str} {py spos : Pos} {i : Nat} {x : Str} {p pos2 : Pos} {args : List Expr} {kws : List Keyword} {scope : Scope} {cl : List (Str × Addr)} {xs : List Str} {sl : List (Option Nat)} {wt : WA} {we : WE} {f : Addr} {ws : WL} {wk : WK} {XX : Cx → Nat → List (Nat × GenState) → Ex} (h : V → V)
    (hx : At ns i y) (hgi : ∃ ps, ∀ a, c.gi a ↔ PIN ps a) (hXX : ∀ D, XXok c D (XX c D)) (e : nsIn c.K mainGlobals x = some (some (.ref f))) (hk : keepIn c.K (.ref f) = true)
    (hclos : closureFor scope env = pure cl) (hcell : ∀ y ∈ scope.names, y.2 ≠ .cell) (hkind : scope.kind = .function) (hnames : ∀ y ∈ scope.names, y.2 = .local → scope.names.lookup y.1 = some .local) (hnd : xs.Nodup)
    (hsl : CSlots env scope cl ns xs sl) (ha : CL c env ns pos2 args ws) (hw : CK c env ns pos2 kws wk)
    (ht : ∀ ps C env', env' = compEnvC scope cl C env → CAs (c.pin ps) env' xs target wt) (hel : ∀ ps C env', env' = compEnvC scope cl C env → CE (c.pin ps) env' xs elt we)
    (hsw : swapsWith (.ListComp elt [⟨target, .Call (.Name x p) args kws pos2, [], 0⟩] scope pos) (some (.Name y py)) spos.line env = pure true := by (subst_vars; kernel_rfl)) (hy : env.kindOf y = some .local := by (subst_vars; kernel_rfl))
    (he3 : eval (.Call (.Name x p) args kws pos2) env = (do callWith pos2 (← eval (.Name x p) env) [] (backTo pos2 (starEach args env)) (backToKw pos2 (keywordEach kws env))) := by (subst_vars; kernel_rfl))
    (hs : ∀ y, foldedSetIterable (.Call (.Name x p) args kws pos2) env y = pure y := by (subst_vars; intro _; kernel_rfl))
    (hkd : env.kindOf x = some .globalImplicit := by (subst_vars; kernel_rfl)) (hd : (x == ("__debug__" : Str)) = false := by decide +kernel) :
    CX c env ns (.Assign [.Name y py] (.ListComp elt [⟨target, .Call (.Name x p) args kws pos2, [], 0⟩] scope pos) spos) (asgX i (compGW h XX f sl wt we ws wk)) :=
  fun X ec ok l σ Q hl h1 => by
    subst ec
    refine EX.of_pin' hgi fun ps hp => ?_
    obtain ⟨lc, h5, h6, h7⟩ := slotK_inv hl hsl h1
    obtain ⟨hD, h7⟩ := of_chk h7
    refine ex_asgCompG (f := h) (Di := X.D - 40) hsw hy hclos hcell hkind hnames h6 (by rw [List.map_fst_zip (by omega)]; exact hnd) (by omega) (evgC hp hw.1 (ev_glob e ⟨hk, (ha.2 X rfl ok l σ _ hl h7).mono fun xs σ₂ h8 => (hw.2 X rfl ok l σ₂ _ hl h8).mono fun ks σ₃ h9 => ?_⟩ hkd hd) he3) hs
    unfold compG at h9
    obtain ⟨us, rfl, hg, hz, hst, hq⟩ := h9
    obtain ⟨hi, h3⟩ := updK_set hq
    refine ⟨rfl, us, hg, hz, fun ps C v hv => ?_, _, zip_up _ hx hl, _, by simpa using hl, rfl, h3⟩
    obtain ⟨e1, e2, e3⟩ := hXX X.D ps
    have h10 := ht ps C _ rfl _ e1 e3 v lc _ _ h5 (hst ps v hv)
    rw [e2] at h10
    refine h10.mono fun L τ h11 => ?_
    obtain ⟨l', hl', rfl, h12⟩ := h11
    have h13 := hel ps C _ rfl _ e1 e3 l' τ _ hl' h12
    rw [e2] at h13
    exact h13
end
end
section
open PySem PySem.W PyProof.Rows PySem.Calls
set_option maxRecDepth 100000
set_option maxHeartbeats 4000000
def tplV : V → V
  | .obj _ [(_, m), (_, b)] => .tup [m, b]
  | _ => .none
local macro_rules | `(tactic| walk_at "lawR") => `(tactic| (first
  | ((with_reducible show CX _ _ _ (Stmt.Assign [Expr.Name _ _] (Expr.ListComp _ [⟨_, Expr.Call (Expr.Name ("optimal_data_chunks" : Str) _) _ _ _, _, _⟩] _ _) _) _);
      refine' cx_asgG (xs := ["part"]) (XX := fun c D ps => X3 (c.pin ps) D) tplV ?hx (C3.pin ‹C3 _›) (fun D => XX_ok ‹C3 _› D) ?e ?hk ?hclos ?hcell ?hkind ?hnames ?hnd ?hsl ?ha ?hw ?ht ?hel;
      (case hx => k_mem); (case e => k_in); (case hk => k_in); (case hclos => (subst_vars; rfl)); (case hcell => decide); (case hkind => rfl); (case hnames => decide); (case hnd => decide); (case hsl => exact .loc .nil); (case ha => kda_here); (case hw => kda_here);
      (case ht => (intro ps C env' he'; have := C3.pinned ‹C3 _› ps; kda_here)); (case hel => (intro ps C env' he'; have := C3.pinned ‹C3 _› ps; kda_here)))
  | ((with_reducible show CE _ _ _ (Expr.ListComp _ _ _ _) _); refine' ce_comp (xs := ["part"]) ?c1 ?c2 ?c3 ?c4 ?c5 ?c6 ?c7 ?c8 ?c9 ?c10; (case c1 => (subst_vars; rfl)); (case c2 => decide); (case c3 => rfl); (case c4 => decide); (case c5 => decide);
      (case c6 => exact .loc .nil); (case c7 => kda_here); (case c8 => (intro C env' he'; kda_here)); (case c9 => (intro C env' he'; exact cbt_nil)); (case c10 => (intro C env' he'; kda_here)))
  | ((with_reducible show CB _ _ _ (Expr.Compare (Expr.Name ("told" : Str) _) _ [Expr.Call _ _ _ _] _) _); refine' cb_lcmp ?lwa ?lwb; (case lwa => kda_here); (case lwb => kda_here))
  | ((with_reducible show CE _ _ _ (Expr.Compare (Expr.ListComp _ _ _ _) _ _ _) _); refine' ce_lcmp ?lwa ?lwb; (case lwa => kda_here); (case lwb => kda_here))
  | ((with_reducible show CE _ _ _ (Expr.Call (Expr.Attribute _ ("join" : Str) _) _ _ _) _); refine' ce_bjoin ?ho ?h; (case ho => kda_here); (case h => kda_here))))
local macro_rules | `(tactic| kda_here) => `(tactic| walk_at "lawR")
def law : { w : WX // ∀ c, C3 c → Def c 427 ["script"] ["state", "least", "row", "told", "code"] (shP 1) w } := ⟨_, fun c hC => ⟨⟨_, _, _, _, _, by k_in, rfl, by k_in, ⟨by decide, by decide, by decide⟩, ⟨rfl, rfl, rfl, rfl, rfl⟩, sh1 (fun _ => rfl), fun L env he => by
  simp only [List.cons_append, List.nil_append]
  kda_here⟩⟩⟩
end
section
open PySem PySem.W PyProof.Rows PySem.Calls
set_option maxRecDepth 100000
set_option maxHeartbeats 4000000
theorem chunks_gfn {c : Cx} (hC : C3 c) {D m : Nat} {row : List UInt8} (hm : 0 < m) (hr : row.length ≤ 100) : GFn c (D + 2 + 40) (.val (.ref 100)) [.bytes row] [(("minimum" : Str), .int (m : Int))] (chunksV m row) := by
  have hpat : ∀ s : List UInt8, PatOk (patW s m row) := fun s => by
    have := patW_ok s hm row
    unfold patW
    by_cases hl : row.length ≤ m
    · rw [if_pos hl] at this ⊢; exact this
    · rw [if_neg hl] at this ⊢; exact this
  exact (chunks (D := D + 2) hC (run_ (D := D) hC)).gfn (args := [.bytes row]) (kw := [(("minimum" : Str), .int (m : Int))]) ⟨_, _, rfl, rfl, rfl⟩ ⟨row, m, rfl, hr, hpat _, hpat _, rfl⟩ fun _ _ _ h => flat_bi h
theorem law_ {c : Cx} (hC : C3 c) {D : Nat} {ns : List Int} (hn : ns.length ≤ 63) : FC c (D + 100) (.val (.ref 427)) [.lst (ns.map V.int)] [] [] fun v _ => v = .bool true := by
  refine (law.2 c hC).fc (X3 c (D + 99)) rfl (X3_ok hC _) ⟨rfl, rfl, rfl⟩ ?_
  have e50 := cutN (ns.map V.int) 50
  rw [← List.map_take] at e50
  repeat' walk_at "vc"
  conv => whnf
  rw [show cut (List.map V.int ns) none (some 50) = (ns.take 50).map V.int from e50]
  have hs0 : IsSt [.list ((ns.take 50).map V.int), stO 0 0 17] 1 0 (ns.take 50) 0 17 := ⟨rfl, rfl, by omega, by omega, by omega, by rw [List.length_take]; omega⟩
  rw [show (List.length (([] : List AO) ++ [AO.list (List.map V.int (List.take 50 ns))])) = 1 from rfl]
  refine next_ (D := D + 98) (σ := [.list ((ns.take 50).map V.int), stO 0 0 17]) hC hs0 (by omega) fun r p1 s1 r0 r1 a0 a1 a2 => ?_
  have hs1 := hs0.set a0 a1 a2
  repeat' walk_at "vc"
  conv => whnf
  have hs2 := hs1.app [.list [.int 1, .int 2, .int 3, .int 4, .int 20, .int (1 + r)]]
  refine next_ (D := D + 98) hC hs2 (by omega) fun q p2 s2 q0 q1 b0 b1 b2 => ?_
  have hs3 := hs2.set b0 b1 b2
  obtain ⟨rn, rfl⟩ := Int.eq_ofNat_of_zero_le r0
  obtain ⟨qn, rfl⟩ := Int.eq_ofNat_of_zero_le q0
  have hv : ∃ m : Nat, ([.int 1, .int 2, .int 3, .int 4, .int 20, .int (1 + (rn : Int))] : List V)[qn]? = some (.int (m : Int)) ∧ 0 < m ∧ m ≤ 24 := by
    match qn, (show qn < 6 by omega) with
    | 0, _ => exact ⟨1, rfl, by omega, by omega⟩
    | 1, _ => exact ⟨2, rfl, by omega, by omega⟩
    | 2, _ => exact ⟨3, rfl, by omega, by omega⟩
    | 3, _ => exact ⟨4, rfl, by omega, by omega⟩
    | 4, _ => exact ⟨20, rfl, by omega, by omega⟩
    | 5, _ => exact ⟨1 + rn, by simp, by omega, by omega⟩
  obtain ⟨m, hv1, hm0, hm24⟩ := hv
  have hin : (([.list ((ns.take 50).map V.int), stO 0 0 17].set 1 (stO 0 p1 s1) ++ [AO.list [.int 1, .int 2, .int 3, .int 4, .int 20, .int (1 + (rn : Int))]]).set 1 (stO 0 p2 s2))[2]? = some (.list [.int 1, .int 2, .int 3, .int 4, .int 20, .int (1 + (rn : Int))]) := rfl
  have hlT : (([.list ((ns.take 50).map V.int), stO 0 0 17].set 1 (stO 0 p1 s1) ++ [AO.list [.int 1, .int 2, .int 3, .int 4, .int 20, .int (1 + (rn : Int))]]).set 1 (stO 0 p2 s2)).length = 3 := rfl
  generalize (([.list ((ns.take 50).map V.int), stO 0 0 17].set 1 (stO 0 p1 s1) ++ [AO.list [.int 1, .int 2, .int 3, .int 4, .int 20, .int (1 + (rn : Int))]]).set 1 (stO 0 p2 s2)) = T1 at hs3 hin hlT ⊢
  walk_at "vc"
  walk_at "vc"
  conv => whnf
  refine getV_of hv1 ?_
  repeat' walk_at "vc"
  conv => whnf
  refine row_ (D := D + 97) hC hs3 fun row p3 s3 hrow c0 c1 c2 => ?_
  have hs4 := hs3.set c0 c1 c2
  have hlT2 : (T1.set 1 (stO 0 p3 s3)).length = 3 := by simp [hlT]
  generalize T1.set 1 (stO 0 p3 s3) = T2 at hs4 hlT2 ⊢
  repeat' walk_at "vc"
  conv => whnf
  refine chk_of (show 40 ≤ D + 99 by omega) ?_
  repeat' walk_at "vc"
  conv => whnf
  have hcp := chunks_parts hm0 row
  have hPl := parts_len hm0 row
  have hmap : (chunksV m row).map tplV = pairsV (partsF row m) := by rw [hcp, List.map_map]; rfl
  refine compG_of (chunksV m row) (chunks_gfn (D := D + 17) hC hm0 (by omega)) (by rw [hcp, List.length_map]; omega) (fun ps v hv => ?_) ?_
  · rw [hcp] at hv
    obtain ⟨⟨md, b⟩, _, rfl⟩ := List.mem_map.mp hv
    have hCp := hC.pinned ps
    repeat' walk_at "vc"
    conv => whnf
    exact ⟨rfl, rfl⟩
  rw [hmap]
  repeat' walk_at "vc"
  conv => whnf
  have hi3 : (T2 ++ [AO.list (pairsV (partsF row m))])[T2.length]? = some (.list (pairsV (partsF row m))) := at_new
  generalize T2 ++ [AO.list (pairsV (partsF row m))] = T3 at hi3 ⊢
  generalize T2.length = i at hi3 ⊢
  refine parts_ (D := D + 97) hC (by omega) fun g j hj => ?_
  have hi4 := at_app (τ := g) hi3
  clear hi3
  generalize T3 ++ g = T4 at hi4 hj ⊢
  repeat' walk_at "vc"
  conv => whnf
  refine lcmp_ne hi4 hj ?_
  repeat' walk_at "vc"
  conv => whnf
  refine br_f (by simp) ?_
  repeat' walk_at "vc"
  conv => whnf
  have hPz : (pairsV (partsF row m)).length ≤ 1000000 := by unfold pairsV; rw [List.length_map]; omega
  refine chk_of hPz ?_
  conv => whnf
  have hfl : (((partsF row m).map (·.2))).flatten = row := parts_row hm0 row
  clear hj
  generalize partsF row m = P at hPl hPz hfl hi4 hcp hmap ⊢
  refine compJ_of (fun k acc T => acc = ((P.take k).map (·.2)).map V.bytes ∧ T = T4) ⟨rfl, rfl⟩ ?_ ?_ ?_
  · rintro k acc T ⟨rfl, rfl⟩
    exact hi4
  · rintro k v acc T hk ⟨rfl, rfl⟩
    have hkb : k < P.length := by have := (List.getElem?_eq_some_iff.mp hk).1; unfold pairsV at this; rw [List.length_map] at this; exact this
    obtain rfl : v = .tup [.int P[k].1, .bytes P[k].2] := by
      unfold pairsV at hk
      rw [List.getElem?_map, List.getElem?_eq_getElem hkb] at hk; cases hk; rfl
    repeat' walk_at "vc"
    conv => whnf
    refine ⟨?_, rfl⟩
    rw [List.take_add_one, List.getElem?_eq_getElem hkb, List.map_append, List.map_append]
    rfl
  · rintro acc T ⟨rfl, rfl⟩
    have hPl2 : (pairsV P).length = P.length := by unfold pairsV; rw [List.length_map]
    rw [hPl2, List.take_length]
    repeat' walk_at "vc"
    conv => whnf
    refine bjoin_of at_new (by rw [hfl]; omega) ?_
    rw [hfl]
    repeat' walk_at "vc"
    conv => whnf
    refine br_f (by simp) ?_
    repeat' walk_at "vc"
    conv => whnf
    have hi5 := at_app (τ := [AO.list (List.map V.bytes (List.map (fun x => x.snd) P))]) hi4
    clear hi4
    generalize T ++ [AO.list (List.map V.bytes (List.map (fun x => x.snd) P))] = T5 at hi5 ⊢
    refine qr_new_ (D := D + 94) hC ?_
    have hq0 : IsQR (T5 ++ qrH T5.length 0 .none []) T5.length 0 .none [] := ⟨by rw [List.getElem?_append_right (by omega), Nat.sub_self]; rfl, by rw [List.getElem?_append_right (by omega), Nat.add_sub_cancel_left]; rfl⟩
    have hi6 := at_app (τ := qrH T5.length 0 .none []) hi5
    have hil : i < T5.length := by
      rw [List.getElem?_eq_some_iff] at hi5; exact hi5.1
    generalize T5 ++ qrH T5.length 0 .none [] = T6 at hq0 hi6 ⊢
    generalize T5.length = n at hq0 hil ⊢
    have hqi := hq0.inst
    have hqp := hq0.parts
    repeat' walk_at "vc"
    conv => whnf
    refine qr_addO_ (D := D + 9) (row := row) hC hq0 hm0 (by omega) ?_
    have hq1 : (T6.set (n + 4) (.list (chunksV m row)))[n]? = some (.inst 392 (qrF n 0 .none .none)) := at_other (by omega) hq0.inst
    have hq2 : (T6.set (n + 4) (.list (chunksV m row)))[n + 4]? = some (.list (chunksV m row)) := at_same hq0.parts
    have hi7 : (T6.set (n + 4) (.list (chunksV m row)))[i]? = some (.list (pairsV P)) := at_other (by omega) hi6
    generalize T6.set (n + 4) (.list (chunksV m row)) = T7 at hq1 hq2 hi7 ⊢
    repeat' walk_at "vc"
    conv => whnf
    have hcz : (chunksV m row).length ≤ 1000000 := by rw [hcp, List.length_map]; omega
    refine chk_of hcz ?_
    conv => whnf
    refine compJ_of (fun k acc T => acc = pairsV (P.take k) ∧ T = T7) ⟨rfl, rfl⟩ ?_ ?_ ?_
    · rintro k acc T ⟨rfl, rfl⟩
      exact hq2
    · rintro k v acc T hk ⟨rfl, rfl⟩
      rw [hcp] at hk
      have hkb : k < P.length := by have := (List.getElem?_eq_some_iff.mp hk).1; rw [List.length_map] at this; exact this
      obtain rfl : v = qdV P[k].1 P[k].2 := by
        rw [List.getElem?_map, List.getElem?_eq_getElem hkb] at hk; cases hk; rfl
      repeat' walk_at "vc"
      conv => whnf
      refine ⟨?_, rfl⟩
      unfold pairsV
      rw [List.take_add_one, List.getElem?_eq_getElem hkb, List.map_append]
      rfl
    · rintro acc T ⟨rfl, rfl⟩
      have hPl2 : (chunksV m row).length = P.length := by rw [hcp, List.length_map]
      rw [hPl2, List.take_length]
      repeat' walk_at "vc"
      conv => whnf
      refine lcmp_eq at_new (at_app hi7) ?_
      repeat' walk_at "vc"
      conv => whnf
      exact congrArg V.bool (decide_eq_true rfl)
end
section
open PySem PySem.W PyProof.Rows PySem.Calls
set_option maxRecDepth 100000
set_option maxHeartbeats 4000000
theorem tab2 {p : Program} {loose : List Str} {mean : ExcName → Option Value} {mg mb : Str → Option Value} {w : World} {h : Heap} (hp : p = Mine.hd.view_39) (T : Top p loose mean mg mb h) (KX : (Mine.hd.heap_39 w.params).In h) : ∀ t ∈ [((68, 64) : Addr × Addr)], h.IsCode t.1 t.2 #[] ∧ h.TableAt t.1 t.2 #[] := by
  have e1 : nsIn (Mine.hd.heap_39 w.params) mainGlobals "run_of" = some (some (.ref 69)) := by k_is
  have hd : ∃ d, (recsOf p).find? (fun e => e.name == ("run_of" : Str)) = some d := by subst hp; exact ⟨_, by rfl⟩
  obtain ⟨d, hd⟩ := hd
  have hn : d.name = "run_of" := beq_iff_eq.mp (List.find?_some (p := fun e : DefRec => e.name == ("run_of" : Str)) hd)
  obtain ⟨a, o, fd, c, P, h1, h2, h3, h4, h5, h6⟩ := T.tab d (List.mem_of_find?_eq_some hd)
  rw [hn, mg_of KX T.g e1] at h1
  cases h1
  have e2 : ∃ oc od osl fd', (Mine.hd.heap_39 w.params).lookup 69 = some ⟨oc, od, .func fd', osl⟩ ∧ fd'.code = .ref 68 := ⟨_, _, _, _, by k_is, rfl⟩
  obtain ⟨oc, od, osl, fd', e2, e3⟩ := e2
  have e4 := KX _ _ e2
  rw [h2] at e4
  cases e4
  cases h3
  rw [e3] at h4
  cases h4
  have e5 : ∃ oc od osl vs, (Mine.hd.heap_39 w.params).lookup 68 = some ⟨oc, od, .fields vs, osl⟩ ∧ vs[11]? = some (.ref 64) := ⟨_, _, _, _, by k_is, rfl⟩
  obtain ⟨oc, od, osl, vs, e5, e6⟩ := e5
  have e7 := KX _ _ e5
  obtain ⟨⟨o', vs', a1, a2, a3, a4⟩, _⟩ := id h6
  rw [e7] at a1
  cases a1
  cases a3
  rw [e6] at a4
  cases a4
  intro t ht
  cases List.mem_singleton.mp ht
  exact ⟨h5, h6⟩
theorem kz2_ok (P : Params) : ∀ q ∈ kzOf (KF P), (q.1, q.2) ∈ KF P ∧ (KF P).lookup q.1 = some q.2 := by
  intro q hq
  unfold kzOf at hq
  obtain ⟨a, ha, e⟩ := List.mem_filterMap.mp hq
  obtain ⟨o, ho, rfl⟩ := Option.map_eq_some_iff.mp e
  exact ⟨assoc_mem ho, ho⟩
theorem nott2 (P : Params) : ((KF P).all fun q => !(q.1 == 64)) = true := by kernel_rfl
theorem law_at (P : Params) : nsIn (Mine.hd.heap_39 P) mainGlobals "law" = some (some (.ref 427)) := by k_is

theorem end2 : PySem.Challenge.rw_bj0064_02.Holds := Mine.hd (by
  intro w s₀ s₁ mg mb G Y fa o pm cd doc dV kV ho hd hcd hD hmg hg args vals as hpre hlay hrd hwl hlo
  have KX := kIn_of Y
  refine Ground.open G ?_
  intro T B D TE TW
  have e1 := mg_of KX T.g (law_at w.params)
  have e2 : mg ("law" : Str) = some (.ref fa) := hmg
  rw [e2] at e1
  cases e1
  wrow_args hpre hlay hrd hwl hlo
  rename_i ns _ _ _ _ _ _ _ l vs _ hL ra w1 r0 hI hr hlen _
  clear hD hcd
  cases w1 with
  | list hl hW =>
  rename_i vs'
  have ev : vs = vs' := by
    obtain ⟨o', e1, _, n, e2⟩ := hL
    rw [hl] at e1; cases e1
    have := e2
    simp only [Data.seq.injEq] at this
    have h1 := congrArg Array.toList this.1
    simpa using h1.symm
  subst ev
  have hl' : s₁.heap.get? l = some (listOf vs.toArray 0) := hl
  refine bridge (kz := kzOf (KF w.params)) (tt := [(68, 64)]) (Kf := KF) (D := 230) T KX hg (kz2_ok _) (tab2 rfl T KX) (fun q hq hm => ?_) hl' hI ⟨rfl, by decide, by decide⟩
    (FC.fn (law_ (D := 130) ⟨rfl, rfl, rfl, rfl, ⟨[], fun _ => PIN.nil.symm⟩⟩ (by omega))) fun s' ho hos hge => ?_
  · have h1 := List.all_eq_true.mp (nott2 w.params) q hq
    have h2 : q.1 = 64 := by simpa using hm
    rw [h2] at h1; exact absurd h1 (by decide)
  · refine ⟨.inl ⟨_, _, [], rfl, fun _ => rfl, ReadsW.bool true, ?_, fun _ => ⟨List.nodup_nil, fun _ hm => (nomatch hm)⟩⟩, ho, hos, hge⟩
    first | rfl | wrow_post)
end
end Mine
theorem PySem.Challenge.cw_bj0064_02_holds : PySem.Challenge.rw_bj0064_02.Holds :=
  Mine.end2
