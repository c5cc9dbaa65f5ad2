import PyProof.Rows.All
import Wide.All
import OpenK.AllK
import Wide.FinOn
import PySem.Challenge.RW_pg0271_01
set_option Elab.async false
set_option maxRecDepth 100000
set_option linter.unusedVariables false

section
open PySem PySem.W PyProof.Rows
set_option maxHeartbeats 8000000
namespace Mine
open_top hd for PySem.Challenge.rw_pg0271_01
end Mine

end

section
open PySem PySem.W PyProof.Rows
namespace Mine

/-- plain values: what a Python value stands for -/
inductive PV where
  | int (i : Int)
  | str (x : Str)
  | bool (b : Bool)
  | none
  | flo (b : UInt64)
  | tup (l : List PV)
  | lst (l : List PV)
  | ref (a : Addr)
  | blt (id : String)
  | typ (id : String)
  | inst (l : Addr)

/-- the dict of one of Headers, that holds _headers alone -/
def InstD (l : Addr) (o : Obj) : Prop := ∀ name : Str, lookIn name o = some (if name = "_headers" then some (.ref l) else none)

/-- heap grows; only the addresses of X may change -/
def Ext (X : List Addr) (h h' : Heap) : Prop := ∀ b o, b ∉ X → h.get? b = some o → h'.get? b = some o

theorem Ext.refl {X : List Addr} {h : Heap} : Ext X h h := fun _ _ _ e => e
theorem Ext.trans {X : List Addr} {h h' h'' : Heap} (x : Ext X h h') (y : Ext X h' h'') : Ext X h h'' := fun b o hb e => y b o hb (x b o hb e)
theorem Ext.mono {X Y : List Addr} {h h' : Heap} (x : Ext X h h') (s : ∀ b ∈ X, b ∈ Y) : Ext Y h h' := fun b o hb e => x b o (fun q => hb (s b q)) e
theorem Ext.of_keeps {X : List Addr} {h h' : Heap} (k : ∀ b o, h.get? b = some o → h'.get? b = some o) : Ext X h h' := fun b o _ e => k b o e
theorem Ext.of_same {a : Addr} {h h' : Heap} (k : Heap.SameBut a h h') : Ext [a] h h' := fun b o hb e => k.extBut b o (by simpa using hb) e

mutual
/-- the value v stands for the plain value, by objects that lie outside W -/
def Rep (h : Heap) (W : List Addr) : PV → Value → Prop
  | .int i, v => ∃ t, v = .int i t
  | .str x, v => ∃ t, v = .str x t
  | .bool b, v => v = .bool b
  | .none, v => v = .none
  | .flo b, v => ∃ t, t ≠ 0 ∧ v = .float b t
  | .tup l, v => ∃ a vs, v = .ref a ∧ a ∉ W ∧ IsTup h a (List.toArray vs) ∧ RepL h W l vs
  | .lst l, v => ∃ a vs, v = .ref a ∧ a ∉ W ∧ h.PlainList a (List.toArray vs) ∧ RepL h W l vs
  | .ref a, v => v = .ref a
  | .blt i, v => v = .builtin i
  | .typ i, v => v = .type i
  | .inst l, v => ∃ x dx sl od, v = .ref x ∧ x ∉ W ∧ dx ∉ W ∧ h.get? x = some ⟨.ref 213, some dx, .plain, sl⟩ ∧ h.get? dx = some od ∧ InstD l od
def RepL (h : Heap) (W : List Addr) : List PV → List Value → Prop
  | [], vs => vs = []
  | p :: l, vs => ∃ v r, vs = v :: r ∧ Rep h W p v ∧ RepL h W l r
end

theorem isTup_keep {h h' : Heap} {a : Addr} {vs : Array Value} (x : IsTup h a vs) (k : ∀ o, h.get? a = some o → h'.get? a = some o) : IsTup h' a vs :=
  let ⟨o, ho, r⟩ := x; ⟨o, k o ho, r⟩

mutual
theorem Rep.imp {h h' : Heap} {W W' : List Addr} (k : ∀ a o, a ∉ W → h.get? a = some o → a ∉ W' ∧ h'.get? a = some o) : ∀ {p : PV} {v : Value}, Rep h W p v → Rep h' W' p v
  | .int _, _, x => by simpa only [Rep] using x
  | .str _, _, x => by simpa only [Rep] using x
  | .bool _, _, x => by simpa only [Rep] using x
  | .none, _, x => by simpa only [Rep] using x
  | .flo _, _, x => by simpa only [Rep] using x
  | .tup l, v, x => by
    simp only [Rep] at x ⊢
    obtain ⟨a, vs, e, n, t, r⟩ := x
    obtain ⟨o, ho, q⟩ := t
    exact ⟨a, vs, e, (k a o n ho).1, ⟨o, (k a o n ho).2, q⟩, RepL.imp k r⟩
  | .lst l, v, x => by
    simp only [Rep] at x ⊢
    obtain ⟨a, vs, e, n, t, r⟩ := x
    obtain ⟨m, ho⟩ := t
    exact ⟨a, vs, e, (k a _ n ho).1, ⟨m, (k a _ n ho).2⟩, RepL.imp k r⟩
  | .ref _, _, x => by simpa only [Rep] using x
  | .blt _, _, x => by simpa only [Rep] using x
  | .typ _, _, x => by simpa only [Rep] using x
  | .inst l, v, x => by
    simp only [Rep] at x ⊢
    obtain ⟨a, dx, sl, od, e, n, n', h1, h2, h3⟩ := x
    exact ⟨a, dx, sl, od, e, (k a _ n h1).1, (k dx _ n' h2).1, (k a _ n h1).2, (k dx _ n' h2).2, h3⟩
theorem RepL.imp {h h' : Heap} {W W' : List Addr} (k : ∀ a o, a ∉ W → h.get? a = some o → a ∉ W' ∧ h'.get? a = some o) : ∀ {l : List PV} {vs : List Value}, RepL h W l vs → RepL h' W' l vs
  | [], _, x => by simpa only [RepL] using x
  | p :: l, vs, x => by
    simp only [RepL] at x ⊢
    obtain ⟨v, r, e, a, b⟩ := x
    exact ⟨v, r, e, Rep.imp k a, RepL.imp k b⟩
end

theorem Rep.ext {h h' : Heap} {X W : List Addr} {p : PV} {v : Value} (x : Rep h W p v) (e : Ext X h h') (s : ∀ b ∈ X, b ∈ W) : Rep h' W p v :=
  x.imp fun a o n ho => ⟨n, e a o (fun q => n (s a q)) ho⟩
theorem Rep.keeps {h h' : Heap} {W : List Addr} {p : PV} {v : Value} (x : Rep h W p v) (k : ∀ b o, h.get? b = some o → h'.get? b = some o) : Rep h' W p v :=
  x.imp fun a o n ho => ⟨n, k a o ho⟩
theorem Rep.weak {h : Heap} {W W' : List Addr} {p : PV} {v : Value} (x : Rep h W p v) (s : ∀ b ∈ W', b ∈ W) : Rep h W' p v :=
  x.imp fun a o n ho => ⟨fun q => n (s a q), ho⟩
theorem Rep.more {h : Heap} {a : Addr} {W : List Addr} {p : PV} {v : Value} (x : Rep h W p v) (n : h.get? a = none) : Rep h (a :: W) p v :=
  x.imp fun b o nb ho => ⟨fun q => by rcases List.mem_cons.mp q with rfl | q; · rw [n] at ho; cases ho
                                      · exact nb q, ho⟩
theorem RepL.ext {h h' : Heap} {X W : List Addr} {p : List PV} {v : List Value} (x : RepL h W p v) (e : Ext X h h') (s : ∀ b ∈ X, b ∈ W) : RepL h' W p v :=
  x.imp fun a o n ho => ⟨n, e a o (fun q => n (s a q)) ho⟩
theorem RepL.keeps {h h' : Heap} {W : List Addr} {p : List PV} {v : List Value} (x : RepL h W p v) (k : ∀ b o, h.get? b = some o → h'.get? b = some o) : RepL h' W p v :=
  x.imp fun a o n ho => ⟨n, k a o ho⟩
theorem RepL.weak {h : Heap} {W W' : List Addr} {p : List PV} {v : List Value} (x : RepL h W p v) (s : ∀ b ∈ W', b ∈ W) : RepL h W' p v :=
  x.imp fun a o n ho => ⟨fun q => n (s a q), ho⟩
theorem RepL.more {h : Heap} {a : Addr} {W : List Addr} {p : List PV} {v : List Value} (x : RepL h W p v) (n : h.get? a = none) : RepL h (a :: W) p v :=
  x.imp fun b o nb ho => ⟨fun q => by rcases List.mem_cons.mp q with rfl | q; · rw [n] at ho; cases ho
                                      · exact nb q, ho⟩

theorem RepL.length {h : Heap} {W : List Addr} : ∀ {l : List PV} {vs : List Value}, RepL h W l vs → vs.length = l.length
  | [], _, x => by simp only [RepL] at x; subst x; rfl
  | p :: l, _, x => by
    simp only [RepL] at x
    obtain ⟨v, r, rfl, _, b⟩ := x
    simp [RepL.length b]
theorem RepL.get {h : Heap} {W : List Addr} : ∀ {l : List PV} {vs : List Value} {i : Nat} {p : PV}, RepL h W l vs → l[i]? = some p → ∃ v, vs[i]? = some v ∧ Rep h W p v
  | [], _, _, _, _, e => by simp at e
  | q :: l, _, i, p, x, e => by
    simp only [RepL] at x
    obtain ⟨v, r, rfl, a, b⟩ := x
    cases i with
    | zero => simp at e; subst e; exact ⟨v, rfl, a⟩
    | succ i => simp at e; simpa using RepL.get b e
theorem RepL.get' {h : Heap} {W : List Addr} : ∀ {l : List PV} {vs : List Value} {i : Nat} {v : Value}, RepL h W l vs → vs[i]? = some v → ∃ p, l[i]? = some p ∧ Rep h W p v
  | [], _, _, _, x, e => by simp only [RepL] at x; subst x; simp at e
  | q :: l, _, i, p, x, e => by
    simp only [RepL] at x
    obtain ⟨v, r, rfl, a, b⟩ := x
    cases i with
    | zero => simp at e; subst e; exact ⟨q, rfl, a⟩
    | succ i => simp at e; simpa using RepL.get' b e
theorem RepL.append {h : Heap} {W : List Addr} : ∀ {l l' : List PV} {vs vs' : List Value}, RepL h W l vs → RepL h W l' vs' → RepL h W (l ++ l') (vs ++ vs')
  | [], _, _, _, x, y => by simp only [RepL] at x; subst x; exact y
  | q :: l, _, _, _, x, y => by
    simp only [RepL] at x
    obtain ⟨v, r, rfl, a, b⟩ := x
    simp only [List.cons_append, RepL]
    exact ⟨v, _, rfl, a, RepL.append b y⟩
theorem RepL.nil {h : Heap} {W : List Addr} : RepL h W [] [] := by simp [RepL]
theorem RepL.cons {h : Heap} {W : List Addr} {p : PV} {v : Value} {l : List PV} {vs : List Value} (a : Rep h W p v) (b : RepL h W l vs) : RepL h W (p :: l) (v :: vs) := by
  simp only [RepL]; exact ⟨v, vs, rfl, a, b⟩
theorem RepL.one {h : Heap} {W : List Addr} {p : PV} {v : Value} (a : Rep h W p v) : RepL h W [p] [v] := .cons a .nil
theorem RepL.set {h : Heap} {W : List Addr} : ∀ {l : List PV} {vs : List Value} {i : Nat} {p : PV} {v : Value}, RepL h W l vs → Rep h W p v → RepL h W (l.set i p) (vs.set i v)
  | [], _, _, _, _, x, _ => by simp only [RepL] at x; subst x; exact .nil
  | q :: l, _, i, p, v, x, y => by
    simp only [RepL] at x
    obtain ⟨v', r, rfl, a, b⟩ := x
    cases i with
    | zero => exact .cons y b
    | succ i => exact .cons a (RepL.set b y)
theorem RepL.take {h : Heap} {W : List Addr} : ∀ {l : List PV} {vs : List Value} (n : Nat), RepL h W l vs → RepL h W (l.take n) (vs.take n)
  | [], _, _, x => by simp only [RepL] at x; subst x; simpa using RepL.nil
  | q :: l, _, n, x => by
    simp only [RepL] at x
    obtain ⟨v', r, rfl, a, b⟩ := x
    cases n with
    | zero => exact .nil
    | succ n => exact .cons a (RepL.take n b)
theorem RepL.drop {h : Heap} {W : List Addr} : ∀ {l : List PV} {vs : List Value} (n : Nat), RepL h W l vs → RepL h W (l.drop n) (vs.drop n)
  | [], _, _, x => by simp only [RepL] at x; subst x; simpa using RepL.nil
  | q :: l, _, n, x => by
    simp only [RepL] at x
    obtain ⟨v', r, rfl, a, b⟩ := x
    cases n with
    | zero => exact .cons a b
    | succ n => exact RepL.drop n b
theorem RepL.reverse {h : Heap} {W : List Addr} : ∀ {l : List PV} {vs : List Value}, RepL h W l vs → RepL h W l.reverse vs.reverse
  | [], _, x => by simp only [RepL] at x; subst x; exact .nil
  | q :: l, _, x => by
    simp only [RepL] at x
    obtain ⟨v', r, rfl, a, b⟩ := x
    simp only [List.reverse_cons]
    exact (RepL.reverse b).append (.one a)

/-- what holds of the whole: the heap as the law's call found it, and the top's objects in it -/
structure Gl (w : World) (K : Frag) (H : Heap) : Prop where
  kin : K.In H
  b : ∃ mb, H.Ns builtinsNs mb ∧ ∀ x : Str, x ≠ "__name__" → mb x = bootBuiltins x
  nolimit : H.NoLimit
  nodigits : ∃ mc, H.Ns cStatics mc ∧ mc "sys.int_max_str_digits" = none

/-- a frame: its locals and cells by plain values; its lists -/
structure Cf where
  env : Env
  s0 : Shared
  X : List Addr
  W : List Addr
  ρ : Str → Option PV
  μ : List (Addr × List PV)
  τ : List (PV × Value) := []
  /-- lists that are read only -/
  κ : List (Addr × List PV) := []
  /-- the caller's changeable objects -/
  B : List Addr := []

/-- what the frame may change: its locals, its cells (a comprehension's are another's), its lists -/
def ownL (env : Env) (μ : List (Addr × List PV)) : List Addr := env.locals :: ((if env.func.isSome = true then env.cells.map (·.2) else []) ++ μ.map (·.1))
/-- what the frame reads -/
def allL (env : Env) (μ : List (Addr × List PV)) : List Addr := env.locals :: (env.cells.map (·.2) ++ μ.map (·.1))
theorem all_more {env : Env} {μ κ : List (Addr × List PV)} {b : Addr} (h : b ∈ allL env μ) : b ∈ allL env (μ ++ κ) := by
  unfold allL at h ⊢
  rw [List.map_append, ← List.append_assoc]
  rcases List.mem_cons.mp h with rfl | h
  · exact .head _
  · exact .tail _ (List.mem_append_left _ h)
theorem own_all0 {env : Env} {μ : List (Addr × List PV)} {b : Addr} (h : b ∈ ownL env μ) : b ∈ allL env μ := by
  unfold ownL at h
  unfold allL
  rcases List.mem_cons.mp h with rfl | h
  · exact .head _
  · refine .tail _ (List.mem_append.mpr ?_)
    rcases List.mem_append.mp h with h | h
    · split at h
      · exact .inl h
      · cases h
    · exact .inr h
theorem own_all {env : Env} {μ κ : List (Addr × List PV)} {b : Addr} (h : b ∈ ownL env μ) : b ∈ allL env (μ ++ κ) := all_more (own_all0 h)
theorem all_list {env : Env} {μ : List (Addr × List PV)} {a : Addr} {l : List PV} (h : (a, l) ∈ μ) : a ∈ allL env μ :=
  .tail _ (List.mem_append_right _ (List.mem_map_of_mem (f := (·.1)) h))
theorem own_loc {env : Env} {μ : List (Addr × List PV)} : env.locals ∈ ownL env μ := .head _
theorem own_cell {env : Env} {μ : List (Addr × List PV)} {n : Str} {c : Addr} (hf : env.func.isSome = true) (h : env.cells.lookup n = some c) : c ∈ ownL env μ := by
  unfold ownL
  rw [if_pos hf]
  exact .tail _ (List.mem_append_left _ (List.mem_map_of_mem (f := (·.2)) (mem_of_lookup h)))
theorem all_cell {env : Env} {μ : List (Addr × List PV)} {n : Str} {c : Addr} (h : env.cells.lookup n = some c) : c ∈ allL env μ :=
  .tail _ (List.mem_append_left _ (List.mem_map_of_mem (f := (·.2)) (mem_of_lookup h)))
theorem own_list {env : Env} {μ : List (Addr × List PV)} {a : Addr} {l : List PV} (h : (a, l) ∈ μ) : a ∈ ownL env μ :=
  .tail _ (List.mem_append_right _ (List.mem_map_of_mem (f := (·.1)) h))

structure FZ (H : Heap) (C : Cf) (s : Shared) : Prop where
  same : ∃ h tk, s = { C.s0 with heap := h, toks := tk }
  ext : Ext C.X C.s0.heap s.heap
  old : ∀ b o, H.get? b = some o → s.heap.get? b = some o
  fresh : ∀ b ∈ C.W, H.get? b = none
  live : ∀ b ∈ C.W, ∃ o, s.heap.get? b = some o
  vars : ∃ m cm : Str → Option Value, s.heap.Ns C.env.locals m ∧ (∀ n c, C.env.cells.lookup n = some c → s.heap.IsCell c (cm n)) ∧
    ∀ x pv, C.ρ x = some pv → ∃ v, (match C.env.cells.lookup x with | some _ => cm x | none => m x) = some v ∧ Rep s.heap C.W pv v
  lists : ∀ p ∈ C.μ ++ C.κ, ∃ vs : List Value, s.heap.PlainList p.1 vs.toArray ∧ RepL s.heap C.W p.2 vs
  inW : ∀ b ∈ allL C.env (C.μ ++ C.κ), b ∈ C.W
  xB : ∀ b ∈ C.X, b ∈ C.B
  bW : ∀ b ∈ C.B, b ∈ C.W
  apart : ∀ n n' c, C.env.cells.lookup n = some c → C.env.cells.lookup n' = some c → n = n'
  nodup : ((C.μ ++ C.κ).map (·.1)).Nodup
  temps : ∀ p ∈ C.τ, Rep s.heap C.W p.1 p.2
  mine : ∀ b ∈ ownL C.env C.μ, b ∈ C.X ∨ C.s0.heap.get? b = none

def KeepS (s s' : Shared) : Prop := ∃ h' tk, s' = { s with heap := h', toks := tk } ∧ (0 < s.toks → 0 < tk) ∧ ∀ b o, s.heap.get? b = some o → h'.get? b = some o
theorem KeepS.refl {s : Shared} : KeepS s s := ⟨s.heap, s.toks, rfl, fun h => h, fun _ _ e => e⟩
theorem KeepS.trans {s s' s'' : Shared} (x : KeepS s s') (y : KeepS s' s'') : KeepS s s'' := by
  obtain ⟨h, t, rfl, z, k⟩ := x
  obtain ⟨h', t', rfl, z', k'⟩ := y
  exact ⟨h', t', rfl, fun q => z' (z q), fun b o e => k' b o (k b o e)⟩
theorem KeepS.keep {s s' : Shared} (x : KeepS s s') : ∀ b o, s.heap.get? b = some o → s'.heap.get? b = some o := by
  obtain ⟨h, t, rfl, _, k⟩ := x; exact k
theorem KeepS.pos {s s' : Shared} (x : KeepS s s') : 0 < s.toks → 0 < s'.toks := by
  obtain ⟨h, t, rfl, z, k⟩ := x; exact z
theorem KeepS.tok {s : Shared} {t : Nat} (z : 0 < s.toks → 0 < t := by first | exact fun h => h | exact fun _ => Nat.succ_pos _ | assumption) : KeepS s { s with toks := t } := ⟨s.heap, t, rfl, z, fun _ _ e => e⟩
theorem KeepS.push {s : Shared} {o : Obj} : KeepS s { s with heap := s.heap.push o } := ⟨_, s.toks, rfl, fun h => h, fun _ _ e => Heap.get?_push_of_some _ e⟩
theorem KeepS.of {s : Shared} {h : Heap} {t : Nat} (k : ∀ b o, s.heap.get? b = some o → h.get? b = some o) (z : 0 < s.toks → 0 < t := by first | exact fun h => h | exact fun _ => Nat.succ_pos _ | assumption) : KeepS s { s with heap := h, toks := t } := ⟨h, t, rfl, z, k⟩

theorem isCell_keep {h h' : Heap} {c : Addr} {v : Option Value} (x : h.IsCell c v) (k : ∀ o, h.get? c = some o → h'.get? c = some o) : h'.IsCell c v :=
  let ⟨o, ho, hd⟩ := x; ⟨o, k o ho, hd⟩
theorem plain_keep {h h' : Heap} {c : Addr} {v : Array Value} (x : h.PlainList c v) (k : ∀ o, h.get? c = some o → h'.get? c = some o) : h'.PlainList c v :=
  let ⟨n, ho⟩ := x; ⟨n, k _ ho⟩

theorem FZ.keeps {H : Heap} {C : Cf} {s s' : Shared} (F : FZ H C s) (k : KeepS s s') : FZ H C s' := by
  obtain ⟨h', t', rfl, _, k⟩ := k
  obtain ⟨⟨h, t, e⟩, a2, a3, a4, a5, ⟨m, cm, b1, b2, b3⟩, a7, a8, aX, aB, a9, a10, aT, a11⟩ := F
  refine ⟨⟨h', t', by rw [e]⟩, fun b o n q => k b o (a2 b o n q), fun b o q => k b o (a3 b o q), a4, fun b q => let ⟨o, z⟩ := a5 b q; ⟨o, k b o z⟩,
    ⟨m, cm, b1.keeps k, fun n c q => (b2 n c q).keeps k, fun x pv q => ?_⟩, fun p hp => ?_, a8, aX, aB, a9, a10, fun p hp => (aT p hp).keeps k, a11⟩
  · obtain ⟨v, z1, z2⟩ := b3 x pv q
    exact ⟨v, z1, z2.keeps k⟩
  · obtain ⟨vs, z1, z2⟩ := a7 p hp
    exact ⟨vs, plain_keep z1 fun o e => k _ o e, z2.keeps k⟩

theorem not_mem_of_noneZ {H : Heap} {C : Cf} {s : Shared} (F : FZ H C s) {a : Addr} (n : s.heap.get? a = none) : a ∉ C.W := fun q => by
  obtain ⟨o, z⟩ := F.live a q
  rw [n] at z; cases z
theorem get_size_none (h : Heap) : h.get? h.objs.size = none := by
  cases q : h.get? h.objs.size with
  | none => rfl
  | some o => exact absurd (Heap.lt_size q) (Nat.lt_irrefl _)
theorem get_ge_none {h : Heap} {a : Addr} (l : h.objs.size ≤ a) : h.get? a = none := by
  cases q : h.get? a with
  | none => rfl
  | some o => exact absurd (Heap.lt_size q) (Nat.not_lt.mpr l)

def upd (ρ : Str → Option PV) (x : Str) (v : PV) : Str → Option PV := fun y => if y = x then some v else ρ y

/-- the old objects of the frame's own are not touched by what the frame changes -/
theorem FZ.notOld {H : Heap} {C : Cf} {s : Shared} (F : FZ H C s) {b : Addr} (q : b ∈ C.W) : H.get? b = none := F.fresh b q

/-- one local is stored -/
theorem FZ.setLocal {H : Heap} {C : Cf} {s : Shared} (F : FZ H C s) {x : Str} {v : Value} {pv : PV} {m : Str → Option Value} {h' : Heap} {tk : Nat}
    (hn : s.heap.Ns C.env.locals m) (hl : C.env.cells.lookup x = none) (hn' : h'.Ns C.env.locals (fun y => if y = x then some v else m y)) (hs : Heap.SameBut C.env.locals s.heap h') (r : Rep s.heap C.W pv v) :
    FZ H { C with ρ := upd C.ρ x pv } { s with heap := h', toks := tk } := by
  have LW : C.env.locals ∈ C.W := F.inW _ (own_all own_loc)
  have kp : ∀ b o, b ≠ C.env.locals → s.heap.get? b = some o → h'.get? b = some o := fun b o n e => hs.extBut b o n e
  have kW : Ext C.W s.heap h' := fun b o n e => kp b o (fun q => n (q ▸ LW)) e
  obtain ⟨⟨h, t, e⟩, a2, a3, a4, a5, ⟨m0, cm, b1, b2, b3⟩, a7, a8, aX, aB, a9, a10, aT, a11⟩ := F
  have mm : m0 = m := by
    obtain ⟨o, es, ep, z1, z2, z3, z4⟩ := b1
    obtain ⟨o', es', ep', y1, y2, y3, y4⟩ := hn
    have : o = o' := Option.some.inj (z1.symm.trans y1)
    subst this
    have : es = es' := by rw [z2] at y2; cases y2; rfl
    subst this
    funext n
    rw [← z4, ← y4]
  subst mm
  refine ⟨⟨h', tk, by rw [e]⟩, fun b o n q => ?_, fun b o q => kp b o ?_ (a3 b o q), a4, fun b q => ?_, ⟨_, cm, hn', fun n c q => ?_, fun y pv' q => ?_⟩, fun p hp => ?_, a8, aX, aB, a9, a10, fun p hp => (aT p hp).ext kW fun _ q => q, a11⟩
  · refine kp b o ?_ (a2 b o n q)
    rintro rfl
    rcases a11 _ own_loc with z | z
    · exact n z
    · rw [z] at q; cases q
  · rintro rfl
    rw [a4 _ LW] at q; cases q
  · by_cases hb : b = C.env.locals
    · subst hb; obtain ⟨o, _, _, z, _⟩ := hn'; exact ⟨o, z⟩
    · obtain ⟨o, z⟩ := a5 b q; exact ⟨o, kp b o hb z⟩
  · refine isCell_keep (b2 n c q) fun o z => kp c o ?_ z
    rintro rfl
    obtain ⟨o1, y1, y2⟩ := b2 n _ q
    obtain ⟨o2, es, ep, z1, z2, _⟩ := hn
    rw [y1] at z1; cases z1; rw [y2] at z2; cases z2
  · simp only [upd] at q
    by_cases hy : y = x
    · subst hy
      rw [if_pos rfl] at q
      cases q
      refine ⟨v, ?_, r.ext kW fun _ q => q⟩
      rw [hl]; simp
    · rw [if_neg hy] at q
      obtain ⟨v', z1, z2⟩ := b3 y pv' q
      refine ⟨v', ?_, z2.ext kW fun _ q => q⟩
      split
      · rename_i c hc; rw [hc] at z1; exact z1
      · rename_i hc; rw [hc] at z1; simp only [if_neg hy]; exact z1
  · obtain ⟨vs, z1, z2⟩ := a7 p hp
    refine ⟨vs, plain_keep z1 fun o z => kp _ o ?_ z, z2.ext kW fun _ q => q⟩
    intro eq
    obtain ⟨n1, y1⟩ := z1
    obtain ⟨o2, es, ep, w1, w2, _⟩ := hn
    rw [eq, w1] at y1; cases y1; cases w2

/-- one cell is stored -/
theorem FZ.setCell {H : Heap} {C : Cf} {s : Shared} (F : FZ H C s) {x : Str} {v : Value} {pv : PV} {c : Addr} {h' : Heap} {tk : Nat}
    (hf : C.env.func.isSome = true) (hl : C.env.cells.lookup x = some c) (hc' : h'.IsCell c (some v)) (hs : Heap.SameBut c s.heap h') (r : Rep s.heap C.W pv v) :
    FZ H { C with ρ := upd C.ρ x pv } { s with heap := h', toks := tk } := by
  have cW : c ∈ C.W := F.inW _ (all_cell hl)
  have kp : ∀ b o, b ≠ c → s.heap.get? b = some o → h'.get? b = some o := fun b o n e => hs.extBut b o n e
  have kW : Ext C.W s.heap h' := fun b o n e => kp b o (fun q => n (q ▸ cW)) e
  obtain ⟨⟨h, t, e⟩, a2, a3, a4, a5, ⟨m, cm, b1, b2, b3⟩, a7, a8, aX, aB, a9, a10, aT, a11⟩ := F
  have hcx := b2 x c hl
  refine ⟨⟨h', tk, by rw [e]⟩, fun b o n q => ?_, fun b o q => kp b o ?_ (a3 b o q), a4, fun b q => ?_, ⟨m, fun y => if y = x then some v else cm y, ?_, fun n c' q => ?_, fun y pv' q => ?_⟩, fun p hp => ?_, a8, aX, aB, a9, a10, fun p hp => (aT p hp).ext kW fun _ q => q, a11⟩
  · refine kp b o ?_ (a2 b o n q)
    rintro rfl
    rcases a11 _ (own_cell hf hl) with z | z
    · exact n z
    · rw [z] at q; cases q
  · rintro rfl
    rw [a4 _ cW] at q; cases q
  · by_cases hb : b = c
    · subst hb; obtain ⟨o, z, _⟩ := hc'; exact ⟨o, z⟩
    · obtain ⟨o, z⟩ := a5 b q; exact ⟨o, kp b o hb z⟩
  · refine b1.sameBut hs ?_
    intro eq
    obtain ⟨o1, y1, y2⟩ := hcx
    obtain ⟨o2, es, ep, z1, z2, _⟩ := b1
    rw [eq, y1] at z1; cases z1; rw [y2] at z2; cases z2
  · by_cases hn : n = x
    · subst hn
      rw [hl] at q; cases q
      simpa using hc'
    · dsimp only
      rw [if_neg hn]
      refine isCell_keep (b2 n c' q) fun o z => kp c' o ?_ z
      rintro rfl
      exact hn (a9 n x _ q hl)
  · simp only [upd] at q
    by_cases hy : y = x
    · subst hy
      rw [if_pos rfl] at q
      cases q
      refine ⟨v, ?_, r.ext kW fun _ q => q⟩
      rw [hl]; simp
    · rw [if_neg hy] at q
      obtain ⟨v', z1, z2⟩ := b3 y pv' q
      refine ⟨v', ?_, z2.ext kW fun _ q => q⟩
      split
      · rename_i c' hc2; rw [hc2] at z1; simp only [if_neg hy]; exact z1
      · rename_i hc2; rw [hc2] at z1; exact z1
  · obtain ⟨vs, z1, z2⟩ := a7 p hp
    refine ⟨vs, plain_keep z1 fun o z => kp _ o ?_ z, z2.ext kW fun _ q => q⟩
    intro eq
    obtain ⟨n1, y1⟩ := z1
    obtain ⟨o2, w1, w2⟩ := hcx
    rw [eq, w1] at y1; cases y1; cases w2

/-- forget -/
theorem FZ.forget {H : Heap} {C : Cf} {s : Shared} (F : FZ H C s) {ρ' : Str → Option PV} (k : ∀ x pv, ρ' x = some pv → C.ρ x = some pv) : FZ H { C with ρ := ρ' } s := by
  obtain ⟨a1, a2, a3, a4, a5, ⟨m, cm, b1, b2, b3⟩, a7, a8, aX, aB, a9, a10, aT, a11⟩ := F
  exact ⟨a1, a2, a3, a4, a5, ⟨m, cm, b1, b2, fun x pv q => b3 x pv (k x pv q)⟩, a7, a8, aX, aB, a9, a10, aT, a11⟩

/-- one list of the frame's is written -/
theorem FZ.setList {H : Heap} {C : Cf} {s : Shared} (F : FZ H C s) {a : Addr} {l l' : List PV} {i : Nat} {vs : List Value} {h' : Heap} {tk : Nat}
    (hi : C.μ[i]? = some (a, l)) (hp : h'.PlainList a vs.toArray) (he : Ext [a] s.heap h') (r : RepL h' C.W l' vs) :
    FZ H { C with μ := C.μ.set i (a, l') } { s with heap := h', toks := tk } := by
  have hm : (a, l) ∈ C.μ := List.mem_of_getElem? hi
  have aW : a ∈ C.W := F.inW _ (own_all (own_list hm))
  have kp : ∀ b o, b ≠ a → s.heap.get? b = some o → h'.get? b = some o := fun b o n e => he b o (by simpa using n) e
  have kW : Ext C.W s.heap h' := fun b o n e => kp b o (fun q => n (q ▸ aW)) e
  obtain ⟨⟨h, t, e⟩, a2, a3, a4, a5, ⟨m, cm, b1, b2, b3⟩, a7, a8, aX, aB, a9, a10, aT, a11⟩ := F
  obtain ⟨vs0, p0, r0⟩ := a7 _ (List.mem_append_left _ hm)
  have hlt0 : i < C.μ.length := (List.getElem?_eq_some_iff.mp hi).1
  have happ : C.μ.set i (a, l') ++ C.κ = (C.μ ++ C.κ).set i (a, l') := (List.set_append_left i (a, l') hlt0).symm
  have hiA : (C.μ ++ C.κ)[i]? = some (a, l) := by rw [List.getElem?_append_left hlt0]; exact hi
  have hfst : (C.μ.set i (a, l')).map (·.1) = C.μ.map (·.1) := by
    rw [List.map_set]
    apply List.ext_getElem?
    intro j
    by_cases hj : i = j
    · subst hj
      rw [List.getElem?_set_self' ]
      simp [hi]
    · rw [List.getElem?_set_ne hj]
  have own : ownL C.env (C.μ.set i (a, l')) = ownL C.env C.μ := by unfold ownL; rw [hfst]
  have hfstA : (C.μ.set i (a, l') ++ C.κ).map (·.1) = (C.μ ++ C.κ).map (·.1) := by rw [List.map_append, List.map_append, hfst]
  have all : allL C.env (C.μ.set i (a, l') ++ C.κ) = allL C.env (C.μ ++ C.κ) := by unfold allL; rw [hfstA]
  refine ⟨⟨h', tk, by rw [e]⟩, fun b o n q => ?_, fun b o q => kp b o ?_ (a3 b o q), a4, fun b q => ?_, ⟨m, cm, ?_, fun n c q => ?_, fun y pv' q => ?_⟩, fun p hp' => ?_, fun b q => a8 b (all ▸ q), aX, aB, a9, ?_, fun p hp => (aT p hp).ext kW fun _ q => q, fun b q => a11 b (own ▸ q)⟩
  · refine kp b o ?_ (a2 b o n q)
    rintro rfl
    rcases a11 _ (own_list hm) with z | z
    · exact n z
    · rw [z] at q; cases q
  · rintro rfl
    rw [a4 _ aW] at q; cases q
  · by_cases hb : b = a
    · subst hb; obtain ⟨o, z⟩ := hp; exact ⟨_, z⟩
    · obtain ⟨o, z⟩ := a5 b q; exact ⟨o, kp b o hb z⟩
  · refine b1.at' fun o q => kp _ o ?_ q
    intro eq
    obtain ⟨n1, y1⟩ := p0
    obtain ⟨o2, es, ep, w1, w2, _⟩ := b1
    rw [eq, y1] at w1; cases w1; cases w2
  · refine isCell_keep (b2 n c q) fun o z => kp c o ?_ z
    rintro rfl
    obtain ⟨n1, y1⟩ := p0
    obtain ⟨o2, w1, w2⟩ := b2 n _ q
    rw [y1] at w1; cases w1; cases w2
  · obtain ⟨v', z1, z2⟩ := b3 y pv' q
    exact ⟨v', z1, z2.ext kW fun _ q => q⟩
  · have hp' : p ∈ (C.μ ++ C.κ).set i (a, l') := happ ▸ hp'
    obtain ⟨j, hj⟩ := List.getElem?_of_mem hp'
    by_cases hij : i = j
    · subst hij
      have : ((C.μ ++ C.κ).set i (a, l'))[i]? = some (a, l') := by
        have hlt : i < (C.μ ++ C.κ).length := (List.getElem?_eq_some_iff.mp hiA).1
        exact List.getElem?_set_self hlt
      have hj' : ((C.μ ++ C.κ).set i (a, l'))[i]? = some p := hj
      rw [this] at hj'
      cases hj'
      exact ⟨vs, hp, r⟩
    · have hj' : ((C.μ ++ C.κ).set i (a, l'))[j]? = some p := hj
      rw [List.getElem?_set_ne hij] at hj'
      have hne : p.1 ≠ a := by
        intro eq
        have n1 : ((C.μ ++ C.κ).map (·.1))[i]? = some a := by rw [List.getElem?_map, hiA]; rfl
        have n2 : ((C.μ ++ C.κ).map (·.1))[j]? = some a := by rw [List.getElem?_map, hj', ← eq]; rfl
        have hlt : i < ((C.μ ++ C.κ).map (·.1)).length := (List.getElem?_eq_some_iff.mp n1).1
        exact hij ((List.getElem?_inj hlt a10).mp (n1.trans n2.symm))
      obtain ⟨vs1, z1, z2⟩ := a7 p (List.mem_of_getElem? hj')
      exact ⟨vs1, plain_keep z1 fun o z => kp _ o hne z, z2.ext kW fun _ q => q⟩
  · show ((C.μ.set i (a, l') ++ C.κ).map (·.1)).Nodup
    rw [hfstA]; exact a10

/-- the frame's base is laid anew -/
theorem FZ.rebase {H : Heap} {C : Cf} {s : Shared} (F : FZ H C s) (Z : List Addr) (hZ : ∀ b ∈ Z, b ∈ C.W) : FZ H { C with s0 := s, X := ownL C.env C.μ, B := Z ++ (ownL C.env C.μ ++ C.B) } s := by
  obtain ⟨a1, a2, a3, a4, a5, a6, a7, a8, aX, aB, a9, a10, aT, a11⟩ := F
  exact ⟨⟨s.heap, s.toks, rfl⟩, Ext.refl, a3, a4, a5, a6, a7, a8, fun b q => List.mem_append_right _ (List.mem_append_left _ q), fun b q => by
    rcases List.mem_append.mp q with q | q
    · exact hZ b q
    · rcases List.mem_append.mp q with q | q
      · exact a8 b (own_all q)
      · exact aB b q, a9, a10, aT, fun b q => .inl q⟩

theorem FZ.unbase {H : Heap} {C : Cf} {s s2 : Shared} {W Z : List Addr} {ρ : Str → Option PV} {μ : List (Addr × List PV)} {τ : List (PV × Value)} (F : FZ H C s)
    (G : FZ H ⟨C.env, s, ownL C.env C.μ, W, ρ, μ, τ, C.κ, Z ++ (ownL C.env C.μ ++ C.B)⟩ s2) : FZ H ⟨C.env, C.s0, C.X, W, ρ, μ, τ, C.κ, C.B⟩ s2 := by
  obtain ⟨⟨h, t, e⟩, a2, a3, a4, a5, a6, a7, a8, aX, aB, a9, a10, aT, a11⟩ := F
  obtain ⟨⟨h', t', e'⟩, b2, b3, b4, b5, b6, b7, b8, bX, bB, b9, b10, bT, b11⟩ := G
  have key : ∀ b, b ∈ ownL C.env C.μ → b ∈ C.X ∨ C.s0.heap.get? b = none := a11
  refine ⟨⟨h', t', by rw [e', e]⟩, fun b o n q => b2 b o (fun z => ?_) (a2 b o n q), b3, b4, b5, b6, b7, b8, aX, fun b q => bB b (List.mem_append_right _ (List.mem_append_right _ q)), b9, b10, bT, fun b q => ?_⟩
  · rcases a11 b z with z | z
    · exact n z
    · rw [z] at q; cases q
  · rcases b11 b q with z | z
    · exact a11 b z
    · by_cases hx : b ∈ C.X
      · exact .inl hx
      · refine .inr ?_
        cases w : C.s0.heap.get? b with
        | none => rfl
        | some o =>
          have := a2 b o hx w
          rw [show s.heap.get? b = none from z] at this
          cases this

/-- an object of W that is none of the frame's own is changed (an iterator) -/
theorem FZ.touch {H : Heap} {C : Cf} {s : Shared} (F : FZ H C s) {I : Addr} {h' : Heap} {tk : Nat} (hI : I ∈ C.W) (ho : I ∉ allL C.env (C.μ ++ C.κ)) (h0 : I ∈ C.X ∨ C.s0.heap.get? I = none)
    (e : Ext [I] s.heap h') (al : ∃ o, h'.get? I = some o) : FZ H C { s with heap := h', toks := tk } := by
  have kp : ∀ b o, b ≠ I → s.heap.get? b = some o → h'.get? b = some o := fun b o n q => e b o (by simpa using n) q
  have kW : Ext C.W s.heap h' := fun b o n q => kp b o (fun z => n (z ▸ hI)) q
  have kO : ∀ b ∈ allL C.env (C.μ ++ C.κ), b ≠ I := fun b q z => ho (z ▸ q)
  obtain ⟨⟨h, t, e1⟩, a2, a3, a4, a5, ⟨m, cm, b1, b2, b3⟩, a7, a8, aX, aB, a9, a10, aT, a11⟩ := F
  refine ⟨⟨h', tk, by rw [e1]⟩, fun b o n q => kp b o ?_ (a2 b o n q), fun b o q => kp b o ?_ (a3 b o q), a4, fun b q => ?_, ⟨m, cm, b1.at' fun o q => kp _ o (kO _ (own_all own_loc)) q, fun n c q => isCell_keep (b2 n c q) fun o z => kp c o (kO _ (all_cell q)) z,
    fun y pv q => ?_⟩, fun p hp => ?_, a8, aX, aB, a9, a10, fun p hp => (aT p hp).ext kW fun _ q => q, a11⟩
  · rintro rfl; rcases h0 with h0 | h0; · exact n h0
    · rw [h0] at q; cases q
  · rintro rfl; rw [a4 _ hI] at q; cases q
  · by_cases hb : b = I
    · subst hb; exact al
    · obtain ⟨o, z⟩ := a5 b q; exact ⟨o, kp b o hb z⟩
  · obtain ⟨v, z1, z2⟩ := b3 y pv q
    exact ⟨v, z1, z2.ext kW fun _ q => q⟩
  · obtain ⟨vs, z1, z2⟩ := a7 p hp
    exact ⟨vs, plain_keep z1 fun o z => kp _ o (kO _ (all_list (l := p.2) hp)) z, z2.ext kW fun _ q => q⟩

/-- a new object is taken among the changeable ones -/
theorem FZ.widen {H : Heap} {C : Cf} {s s' : Shared} (F : FZ H C s) {a : Addr} (n : s.heap.get? a = none) (k : KeepS s s') (al : ∃ o, s'.heap.get? a = some o) : FZ H { C with W := a :: C.W } s' := by
  have fr : H.get? a = none := by
    cases q : H.get? a with
    | none => rfl
    | some o => rw [F.old a o q] at n; cases n
  obtain ⟨h', t', rfl, _, k⟩ := k
  obtain ⟨⟨h, t, e⟩, a2, a3, a4, a5, ⟨m, cm, b1, b2, b3⟩, a7, a8, aX, aB, a9, a10, aT, a11⟩ := F
  refine ⟨⟨h', t', by rw [e]⟩, fun b o n q => k b o (a2 b o n q), fun b o q => k b o (a3 b o q), fun b q => ?_, fun b q => ?_,
    ⟨m, cm, b1.keeps k, fun n c q => (b2 n c q).keeps k, fun x pv q => ?_⟩, fun p hp => ?_, fun b q => .tail _ (a8 b q), aX, fun b q => .tail _ (aB b q), a9, a10, fun p hp => ((aT p hp).more n).keeps k, a11⟩
  · rcases List.mem_cons.mp q with rfl | q
    · exact fr
    · exact a4 b q
  · rcases List.mem_cons.mp q with rfl | q
    · exact al
    · obtain ⟨o, z⟩ := a5 b q; exact ⟨o, k b o z⟩
  · obtain ⟨v, z1, z2⟩ := b3 x pv q
    exact ⟨v, z1, (z2.more n).keeps k⟩
  · obtain ⟨vs, z1, z2⟩ := a7 p hp
    exact ⟨vs, plain_keep z1 fun o e => k _ o e, (z2.more n).keeps k⟩

theorem FZ.temp {H : Heap} {C : Cf} {s : Shared} (F : FZ H C s) {p : PV} {v : Value} (r : Rep s.heap C.W p v) : FZ H { C with τ := (p, v) :: C.τ } s := by
  obtain ⟨a1, a2, a3, a4, a5, a6, a7, a8, aX, aB, a9, a10, aT, a11⟩ := F
  exact ⟨a1, a2, a3, a4, a5, a6, a7, a8, aX, aB, a9, a10, fun q hq => (List.mem_cons.mp hq).elim (fun e => by subst e; exact r) (aT q), a11⟩
theorem FZ.untemp {H : Heap} {C : Cf} {s : Shared} (F : FZ H C s) {τ : List (PV × Value)} (k : ∀ p ∈ τ, p ∈ C.τ) : FZ H { C with τ := τ } s := by
  obtain ⟨a1, a2, a3, a4, a5, a6, a7, a8, aX, aB, a9, a10, aT, a11⟩ := F
  exact ⟨a1, a2, a3, a4, a5, a6, a7, a8, aX, aB, a9, a10, fun q hq => aT q (k q hq), a11⟩

theorem FZ.xW {H : Heap} {C : Cf} {s : Shared} (F : FZ H C s) : ∀ b ∈ C.X, b ∈ C.W := fun b q => F.bW b (F.xB b q)

/-- fewer changeable objects -/
theorem FZ.shrink {H : Heap} {C : Cf} {s : Shared} (F : FZ H C s) {W : List Addr} (h1 : ∀ b ∈ W, b ∈ C.W) (h2 : ∀ b ∈ allL C.env (C.μ ++ C.κ), b ∈ W) (h3 : ∀ b ∈ C.B, b ∈ W) : FZ H { C with W := W } s := by
  obtain ⟨a1, a2, a3, a4, a5, ⟨m, cm, b1, b2, b3⟩, a7, a8, aX, aB, a9, a10, aT, a11⟩ := F
  exact ⟨a1, a2, a3, fun b q => a4 b (h1 b q), fun b q => a5 b (h1 b q), ⟨m, cm, b1, b2, fun x pv q => let ⟨v, z1, z2⟩ := b3 x pv q; ⟨v, z1, z2.weak h1⟩⟩, fun p hp => let ⟨vs, z1, z2⟩ := a7 p hp; ⟨vs, z1, z2.weak h1⟩, h2, aX, h3, a9, a10,
    fun p hp => (aT p hp).weak h1, a11⟩

/-- a list is no more written: from now on it is a plain value -/
theorem FZ.freeze {H : Heap} {C : Cf} {s : Shared} {μ : List (Addr × List PV)} {D : Addr} {l : List PV} {y : Str} (F : FZ H C s) (hm : C.μ = (D, l) :: μ) (hy : C.ρ y = some (.ref D)) (hB : D ∉ C.B) (hL : D ≠ C.env.locals) (hc : D ∉ C.env.cells.map (·.2)) :
    FZ H { C with ρ := upd C.ρ y (.lst l), μ := μ, W := C.W.filter (· != D) } s := by
  have nd := F.nodup
  rw [hm, List.cons_append, List.map_cons, List.nodup_cons] at nd
  have h2 : ∀ b ∈ allL C.env (μ ++ C.κ), b ∈ C.W.filter (· != D) := fun b q => by
    have hb : b ≠ D := by
      rintro rfl
      unfold allL at q
      rcases List.mem_cons.mp q with q | q
      · exact hL q
      · rcases List.mem_append.mp q with q | q
        · exact hc q
        · exact nd.1 q
    refine List.mem_filter.mpr ⟨F.inW b ?_, by simpa using hb⟩
    rw [hm]
    unfold allL at q ⊢
    rcases List.mem_cons.mp q with rfl | q
    · exact .head _
    · refine .tail _ ?_
      rcases List.mem_append.mp q with q | q
      · exact List.mem_append_left _ q
      · exact List.mem_append_right _ (by rw [List.cons_append, List.map_cons]; exact .tail _ q)
  have h1 : ∀ b ∈ C.W.filter (· != D), b ∈ C.W := fun b q => (List.mem_filter.mp q).1
  obtain ⟨a1, a2, a3, a4, a5, ⟨m, cm, b1, b2, b3⟩, a7, a8, aX, aB, a9, a10, aT, a11⟩ := F
  refine ⟨a1, a2, a3, fun b q => a4 b (h1 b q), fun b q => a5 b (h1 b q), ⟨m, cm, b1, b2, fun x pv q => ?_⟩, fun p hp => ?_, h2, aX, fun b q => List.mem_filter.mpr ⟨aB b q, ?_⟩, a9, nd.2, fun p hp => (aT p hp).weak h1, fun b q => a11 b ?_⟩
  · simp only [upd] at q
    by_cases hx : x = y
    · subst hx
      rw [if_pos rfl] at q
      cases q
      obtain ⟨v, z1, z2⟩ := b3 x _ hy
      refine ⟨v, z1, ?_⟩
      simp only [Rep] at z2
      subst z2
      obtain ⟨vs, w1, w2⟩ := a7 (D, l) (by rw [hm]; exact .head _)
      simp only [Rep]
      exact ⟨D, vs, rfl, fun z => by simp at z, w1, w2.weak h1⟩
    · rw [if_neg hx] at q
      obtain ⟨v, z1, z2⟩ := b3 x pv q
      exact ⟨v, z1, z2.weak h1⟩
  · obtain ⟨vs, z1, z2⟩ := a7 p (by rw [hm]; exact .tail _ hp)
    exact ⟨vs, z1, z2.weak h1⟩
  · have : b ≠ D := fun z => hB (z ▸ q)
    simpa using this
  · rw [hm]
    unfold ownL at q ⊢
    rcases List.mem_cons.mp q with rfl | q
    · exact .head _
    · refine .tail _ ?_
      rcases List.mem_append.mp q with q | q
      · exact List.mem_append_left _ q
      · exact List.mem_append_right _ (.tail _ q)

/-- a fresh list is taken among the frame's own -/
theorem FZ.take {H : Heap} {C : Cf} {s s' : Shared} (F : FZ H C s) {D : Addr} {l : List PV} {vs : List Value} (n : s.heap.get? D = none) (k : KeepS s s') (hl : s'.heap.PlainList D vs.toArray) (r : RepL s'.heap (D :: C.W) l vs) :
    FZ H { C with W := D :: C.W, μ := (D, l) :: C.μ } s' := by
  have F' := F.widen n k (let ⟨n, e⟩ := hl; ⟨_, e⟩)
  obtain ⟨z1, z2, z3, z4, z5, z6, z7, z8, zX, zB, z9, z10, zT, z11⟩ := F
  obtain ⟨a1, a2, a3, a4, a5, a6, a7, a8, aX, aB, a9, a10, aT, a11⟩ := F'
  refine ⟨a1, a2, a3, a4, a5, a6, fun p hp => ?_, fun b q => ?_, aX, aB, a9, ?_, aT, fun b q => ?_⟩
  · rcases List.mem_cons.mp hp with rfl | hp
    · exact ⟨vs, hl, r⟩
    · exact a7 p hp
  · unfold allL at q
    rcases List.mem_cons.mp q with rfl | q
    · exact a8 _ (own_all own_loc)
    · rcases List.mem_append.mp q with q | q
      · exact a8 _ (.tail _ (List.mem_append_left _ q))
      · rw [List.cons_append, List.map_cons] at q
        rcases List.mem_cons.mp q with rfl | q
        · exact .head _
        · exact a8 _ (.tail _ (List.mem_append_right _ q))
  · rw [List.cons_append, List.map_cons, List.nodup_cons]
    refine ⟨fun q => ?_, a10⟩
    obtain ⟨p, hp, e⟩ := List.mem_map.mp q
    obtain ⟨vs', ⟨m, x⟩, _⟩ := z7 p hp
    have e' : p.1 = D := e
    rw [e', n] at x; cases x
  · unfold ownL at q
    rcases List.mem_cons.mp q with rfl | q
    · exact a11 _ own_loc
    · rcases List.mem_append.mp q with q | q
      · exact a11 _ (.tail _ (List.mem_append_left _ q))
      · rw [List.map_cons] at q
        rcases List.mem_cons.mp q with rfl | q
        · by_cases hx : b ∈ C.X
          · exact .inl hx
          · refine .inr ?_
            show C.s0.heap.get? b = none
            cases w : C.s0.heap.get? b with
            | none => rfl
            | some o => rw [z2 b o hx w] at n; cases n
        · exact a11 _ (.tail _ (List.mem_append_right _ q))

/-- a frame; and no value's token is 0 where the heap at the start says so -/
structure FS (H : Heap) (C : Cf) (s : Shared) : Prop where
  z : FZ H C s
  tk : H.life.known = 0 → 0 < s.toks
  up : 0 < C.s0.toks → 0 < s.toks
section
variable {H : Heap} {C : Cf} {s : Shared}
theorem FS.same (F : FS H C s) : ∃ h tk, s = { C.s0 with heap := h, toks := tk } := F.z.same
theorem FS.ext (F : FS H C s) : Ext C.X C.s0.heap s.heap := F.z.ext
theorem FS.old (F : FS H C s) : ∀ b o, H.get? b = some o → s.heap.get? b = some o := F.z.old
theorem FS.fresh (F : FS H C s) : ∀ b ∈ C.W, H.get? b = none := F.z.fresh
theorem FS.live (F : FS H C s) : ∀ b ∈ C.W, ∃ o, s.heap.get? b = some o := F.z.live
theorem FS.vars (F : FS H C s) : ∃ m cm : Str → Option Value, s.heap.Ns C.env.locals m ∧ (∀ n c, C.env.cells.lookup n = some c → s.heap.IsCell c (cm n)) ∧
    ∀ x pv, C.ρ x = some pv → ∃ v, (match C.env.cells.lookup x with | some _ => cm x | none => m x) = some v ∧ Rep s.heap C.W pv v := F.z.vars
theorem FS.lists (F : FS H C s) : ∀ p ∈ C.μ ++ C.κ, ∃ vs : List Value, s.heap.PlainList p.1 vs.toArray ∧ RepL s.heap C.W p.2 vs := F.z.lists
theorem FS.inW (F : FS H C s) : ∀ b ∈ allL C.env (C.μ ++ C.κ), b ∈ C.W := F.z.inW
theorem FS.xB (F : FS H C s) : ∀ b ∈ C.X, b ∈ C.B := F.z.xB
theorem FS.bW (F : FS H C s) : ∀ b ∈ C.B, b ∈ C.W := F.z.bW
theorem FS.apart (F : FS H C s) : ∀ n n' c, C.env.cells.lookup n = some c → C.env.cells.lookup n' = some c → n = n' := F.z.apart
theorem FS.nodup (F : FS H C s) : ((C.μ ++ C.κ).map (·.1)).Nodup := F.z.nodup
theorem FS.temps (F : FS H C s) : ∀ p ∈ C.τ, Rep s.heap C.W p.1 p.2 := F.z.temps
theorem FS.mine (F : FS H C s) : ∀ b ∈ ownL C.env C.μ, b ∈ C.X ∨ C.s0.heap.get? b = none := F.z.mine
theorem FS.keeps {s' : Shared} (F : FS H C s) (k : KeepS s s') : FS H C s' := ⟨F.z.keeps k, fun h => k.pos (F.tk h), fun h => k.pos (F.up h)⟩
theorem not_mem_of_none (F : FS H C s) {a : Addr} (n : s.heap.get? a = none) : a ∉ C.W := not_mem_of_noneZ F.z n
theorem FS.notOld (F : FS H C s) {b : Addr} (q : b ∈ C.W) : H.get? b = none := F.fresh b q
theorem FS.setLocal (F : FS H C s) {x : Str} {v : Value} {pv : PV} {m : Str → Option Value} {h' : Heap} {tk : Nat}
    (hn : s.heap.Ns C.env.locals m) (hl : C.env.cells.lookup x = none) (hn' : h'.Ns C.env.locals (fun y => if y = x then some v else m y)) (hs : Heap.SameBut C.env.locals s.heap h') (r : Rep s.heap C.W pv v)
    (ht : 0 < s.toks → 0 < tk := by first | exact fun h => h | exact fun _ => Nat.succ_pos _ | assumption) :
    FS H { C with ρ := upd C.ρ x pv } { s with heap := h', toks := tk } := ⟨F.z.setLocal hn hl hn' hs r, fun h => ht (F.tk h), fun h => ht (F.up h)⟩
theorem FS.setCell (F : FS H C s) {x : Str} {v : Value} {pv : PV} {c : Addr} {h' : Heap} {tk : Nat}
    (hf : C.env.func.isSome = true) (hl : C.env.cells.lookup x = some c) (hc' : h'.IsCell c (some v)) (hs : Heap.SameBut c s.heap h') (r : Rep s.heap C.W pv v)
    (ht : 0 < s.toks → 0 < tk := by first | exact fun h => h | exact fun _ => Nat.succ_pos _ | assumption) :
    FS H { C with ρ := upd C.ρ x pv } { s with heap := h', toks := tk } := ⟨F.z.setCell hf hl hc' hs r, fun h => ht (F.tk h), fun h => ht (F.up h)⟩
theorem FS.forget (F : FS H C s) {ρ' : Str → Option PV} (k : ∀ x pv, ρ' x = some pv → C.ρ x = some pv) : FS H { C with ρ := ρ' } s := ⟨F.z.forget k, F.tk, F.up⟩
theorem FS.setList (F : FS H C s) {a : Addr} {l l' : List PV} {i : Nat} {vs : List Value} {h' : Heap} {tk : Nat}
    (hi : C.μ[i]? = some (a, l)) (hp : h'.PlainList a vs.toArray) (he : Ext [a] s.heap h') (r : RepL h' C.W l' vs)
    (ht : 0 < s.toks → 0 < tk := by first | exact fun h => h | exact fun _ => Nat.succ_pos _ | assumption) :
    FS H { C with μ := C.μ.set i (a, l') } { s with heap := h', toks := tk } := ⟨F.z.setList hi hp he r, fun h => ht (F.tk h), fun h => ht (F.up h)⟩
theorem FS.rebase (F : FS H C s) (Z : List Addr) (hZ : ∀ b ∈ Z, b ∈ C.W) : FS H { C with s0 := s, X := ownL C.env C.μ, B := Z ++ (ownL C.env C.μ ++ C.B) } s := ⟨F.z.rebase Z hZ, F.tk, fun h => h⟩
theorem FS.unbase {s2 : Shared} {W Z : List Addr} {ρ : Str → Option PV} {μ : List (Addr × List PV)} {τ : List (PV × Value)} (F : FS H C s)
    (G : FS H ⟨C.env, s, ownL C.env C.μ, W, ρ, μ, τ, C.κ, Z ++ (ownL C.env C.μ ++ C.B)⟩ s2) : FS H ⟨C.env, C.s0, C.X, W, ρ, μ, τ, C.κ, C.B⟩ s2 := ⟨F.z.unbase G.z, G.tk, fun h => G.up (F.up h)⟩
theorem FS.touch (F : FS H C s) {I : Addr} {h' : Heap} {tk : Nat} (hI : I ∈ C.W) (ho : I ∉ allL C.env (C.μ ++ C.κ)) (h0 : I ∈ C.X ∨ C.s0.heap.get? I = none)
    (e : Ext [I] s.heap h') (al : ∃ o, h'.get? I = some o) (ht : 0 < s.toks → 0 < tk := by first | exact fun h => h | exact fun _ => Nat.succ_pos _ | assumption) : FS H C { s with heap := h', toks := tk } := ⟨F.z.touch hI ho h0 e al, fun h => ht (F.tk h), fun h => ht (F.up h)⟩
theorem FS.widen {s' : Shared} (F : FS H C s) {a : Addr} (n : s.heap.get? a = none) (k : KeepS s s') (al : ∃ o, s'.heap.get? a = some o) : FS H { C with W := a :: C.W } s' := ⟨F.z.widen n k al, fun h => k.pos (F.tk h), fun h => k.pos (F.up h)⟩
theorem FS.temp (F : FS H C s) {p : PV} {v : Value} (r : Rep s.heap C.W p v) : FS H { C with τ := (p, v) :: C.τ } s := ⟨F.z.temp r, F.tk, F.up⟩
theorem FS.untemp (F : FS H C s) {τ : List (PV × Value)} (k : ∀ p ∈ τ, p ∈ C.τ) : FS H { C with τ := τ } s := ⟨F.z.untemp k, F.tk, F.up⟩
theorem FS.xW (F : FS H C s) : ∀ b ∈ C.X, b ∈ C.W := F.z.xW
theorem FS.shrink (F : FS H C s) {W : List Addr} (h1 : ∀ b ∈ W, b ∈ C.W) (h2 : ∀ b ∈ allL C.env (C.μ ++ C.κ), b ∈ W) (h3 : ∀ b ∈ C.B, b ∈ W) : FS H { C with W := W } s := ⟨F.z.shrink h1 h2 h3, F.tk, F.up⟩
theorem FS.freeze {μ : List (Addr × List PV)} {D : Addr} {l : List PV} {y : Str} (F : FS H C s) (hm : C.μ = (D, l) :: μ) (hy : C.ρ y = some (.ref D)) (hB : D ∉ C.B) (hL : D ≠ C.env.locals) (hc : D ∉ C.env.cells.map (·.2)) :
    FS H { C with ρ := upd C.ρ y (.lst l), μ := μ, W := C.W.filter (· != D) } s := ⟨F.z.freeze hm hy hB hL hc, F.tk, F.up⟩
theorem FS.take {s' : Shared} (F : FS H C s) {D : Addr} {l : List PV} {vs : List Value} (n : s.heap.get? D = none) (k : KeepS s s') (hl : s'.heap.PlainList D vs.toArray) (r : RepL s'.heap (D :: C.W) l vs) :
    FS H { C with W := D :: C.W, μ := (D, l) :: C.μ } s' := ⟨F.z.take n k hl r, fun h => k.pos (F.tk h), fun h => k.pos (F.up h)⟩
end

/-! tokens are never taken back -/
theorem Runs.toks {M : Model} {Γ : Ctx} {p : Pos} {t : Sem PySem.Fin} {fs : List Frame} {s s' : Shared} {e : End} (h : Runs M Γ p t fs s e s') : s.toks ≤ s'.toks := by
  induction h with
  | fresh _ ih => exact Nat.le_trans (Nat.le_succ _) ih
  | call _ _ ih₁ ih₂ => exact Nat.le_trans ih₁ ih₂
  | resumeFresh _ _ _ _ ih₁ ih₂ => exact Nat.le_trans ih₁ ih₂
  | resumeSuspended _ _ _ _ ih₁ ih₂ => exact Nat.le_trans ih₁ ih₂
  | segRet _ _ ih₁ ih₂ => exact Nat.le_trans ih₁ ih₂
  | segGen _ _ ih₁ ih₂ => exact Nat.le_trans ih₁ ih₂
  | segSuspGen _ _ _ _ ih₁ ih₂ => exact Nat.le_trans ih₁ ih₂
  | _ => first | exact Nat.le_refl _ | assumption
theorem Wakes.toks {M : Model} {Γ : Ctx} {p : Pos} {g : Nat} {r : Resume} {s s' : Shared} {res : GenResult} (h : Wakes M Γ p g r s res s') : s.toks ≤ s'.toks := by
  unfold Wakes at h
  split at h
  · exact h.elim
  · split at h
    · obtain ⟨e, s₁, h1, _, _, rfl⟩ := h; have z := Runs.toks h1; exact z
    · obtain ⟨_, rfl⟩ := h; exact Nat.le_refl _
    · obtain ⟨_, rfl⟩ := h; exact Nat.le_refl _
  · obtain ⟨e, s₁, h1, _, _, rfl⟩ := h; have z := Runs.toks h1; exact z
  · obtain ⟨_, rfl⟩ := h; exact Nat.le_refl _
  · obtain ⟨_, rfl⟩ := h; exact Nat.le_refl _
theorem wp_toks {α : Type} (M : Model) (Γ : Ctx) (n : Nat) (t : Sem α) : ∀ (Q : α → Pos → Shared → Prop) (E : Value → Pos → Shared → Prop) (p : Pos) (s : Shared), n ≤ s.toks →
    Sem.wp M Γ t (fun a p s' => n ≤ s'.toks → Q a p s') (fun e p s' => n ≤ s'.toks → E e p s') p s → Sem.wp M Γ t Q E p s := by
  induction t with
  | call c h g l k ih =>
    intro Q E p s hn x
    rw [Sem.wp_call] at x ⊢
    obtain ⟨r, s', hr, hx⟩ := x
    exact ⟨r, s', hr, ih r Q E p s' (Nat.le_trans hn (Runs.toks hr)) hx⟩
  | resume g r l k ih =>
    intro Q E p s hn x
    rw [Sem.wp_resume] at x ⊢
    obtain ⟨r, s', hr, hx⟩ := x
    exact ⟨r, s', hr, ih r Q E p s' (Nat.le_trans hn (Wakes.toks hr)) hx⟩
  | fresh k ih =>
    intro Q E p s hn x
    rw [Sem.wp] at x ⊢
    exact ih _ Q E p _ (Nat.le_trans hn (Nat.le_succ _)) x
  | load a part k ih =>
    intro Q E p s hn x
    rw [Sem.wp] at x ⊢
    obtain ⟨o, ho, hx⟩ := x
    exact ⟨o, ho, ih o Q E p s hn hx⟩
  | update a part f k ih =>
    intro Q E p s hn x
    rw [Sem.wp] at x ⊢
    exact ⟨x.1, ih _ Q E p _ hn x.2⟩
  | choose src m k ih =>
    intro Q E p s hn x
    rw [Sem.wp] at x ⊢
    exact ⟨x.1, ih _ Q E p _ hn x.2⟩
  | genState g k ih =>
    intro Q E p s hn x
    rw [Sem.wp] at x ⊢
    obtain ⟨o, ho, hx⟩ := x
    exact ⟨o, ho, ih _ Q E p s hn hx⟩
  | pure a => intro Q E p s hn x; rw [Sem.wp] at x ⊢; exact x hn
  | raise a => intro Q E p s hn x; rw [Sem.wp] at x ⊢; exact x hn
  | unsupported => intro Q E p s hn x; rw [Sem.wp] at x; exact x.elim
  | finish => intro Q E p s hn x; rw [Sem.wp] at x; exact x.elim
  | register => intro Q E p s hn x; rw [Sem.wp] at x; exact x.elim
  | «yield» => intro Q E p s hn x; rw [Sem.wp] at x; exact x.elim
  | fork => intro Q E p s hn x; rw [Sem.wp] at x; exact x.elim
  | await => intro Q E p s hn x; rw [Sem.wp] at x; exact x.elim
  | _ =>
    rename_i ih
    intro Q E p s hn x
    rw [Sem.wp] at x ⊢
    exact ih _ Q E _ _ hn x
theorem wpAny_toks {α : Type} {M : Model} {A : Around} {t : Sem α} {Q : α → Shared → Prop} {E : Value → Shared → Prop} {s : Shared} (h : wpAny M A t (fun a s' => s.toks ≤ s'.toks → Q a s') E s) : wpAny M A t Q E s := fun Γ p hΓ =>
by
  refine wp_toks M Γ s.toks t _ _ p s (Nat.le_refl _) ?_
  refine Sem.wp_mono M Γ t (fun _ _ _ x => x) (fun _ _ _ x => ?_) p s (h Γ p hΓ)
  exact fun _ => x

end Mine

end

section
open PySem PySem.W PyProof.Rows PySem.Calls
namespace Mine

structure Room (n : Nat) (A : Around) : Prop where
  handled : A.handled = none
  depth : A.depth + n ≤ 900
  units : A.units + 20 * n ≤ 9000
  frames : ∃ l, A.frames = some l
  guards : A.guards = some []
theorem Room.in1 {n : Nat} {A : Around} (R : Room (n + 1) A) : Room n A.in1 := ⟨R.handled, by have := R.depth; simp; omega, by have := R.units; simp; omega, R.frames, R.guards⟩
theorem Room.less {n m : Nat} {A : Around} (R : Room n A) (h : m ≤ n) : Room m A := ⟨R.handled, by have := R.depth; omega, by have := R.units; omega, R.frames, R.guards⟩
theorem Room.deeper {n : Nat} {A : Around} {env : Env} (R : Room (n + 1) A) : Room n (A.deeper env) :=
  ⟨R.handled, by have := R.depth; simp [Around.deeper]; omega, by have := R.units; simp [Around.deeper]; omega, let ⟨l, e⟩ := R.frames; ⟨env :: l, by simp [Around.deeper, e]⟩, R.guards⟩
theorem Room.lim {n : Nat} {A : Around} (R : Room n A) : A.depth < recursionLimit := by have := R.depth; unfold recursionLimit; omega
theorem Room.room {n : Nat} {A : Around} (R : Room n A) : A.units < cLine := by have := R.units; unfold cLine; omega

section
variable {prog : Program} {w : World} {K : Frag} {H : Heap} {A : Around} {C : Cf}

/-- the expression stands for the plain value; nothing is changed -/
def Ev (prog : Program) (w : World) (H : Heap) (A : Around) (C : Cf) (e : Expr) (p : PV) : Prop :=
  ∀ (s : Shared) (Q : Value → Shared → Prop) (E : Value → Shared → Prop), FS H C s → (∀ v s', KeepS s s' → FS H C s' → Rep s'.heap C.W p v → Q v s') → wpAny (model prog w) A (eval e C.env) Q E s
/-- as a test -/
def EvT (prog : Program) (w : World) (H : Heap) (A : Around) (C : Cf) (e : Expr) (b : Bool) : Prop :=
  ∀ (s : Shared) (Q : Bool → Shared → Prop) (E : Value → Shared → Prop), FS H C s → (∀ s', KeepS s s' → FS H C s' → Q b s') → wpAny (model prog w) A (isTrue e C.env (eval e C.env)) Q E s
/-- a step upon one value, upon two, upon a list of them -/
def Op1 (prog : Program) (w : World) (H : Heap) (A : Around) (C : Cf) (t : Value → Sem Value) (p r : PV) : Prop :=
  ∀ (s : Shared) (u : Value) (Q : Value → Shared → Prop) (E : Value → Shared → Prop), FS H C s → Rep s.heap C.W p u → (∀ v s', KeepS s s' → FS H C s' → Rep s'.heap C.W r v → Q v s') → wpAny (model prog w) A (t u) Q E s
def Op2 (prog : Program) (w : World) (H : Heap) (A : Around) (C : Cf) (t : Value → Value → Sem Value) (p q r : PV) : Prop :=
  ∀ (s : Shared) (u v : Value) (Q : Value → Shared → Prop) (E : Value → Shared → Prop), FS H C s → Rep s.heap C.W p u → Rep s.heap C.W q v → (∀ x s', KeepS s s' → FS H C s' → Rep s'.heap C.W r x → Q x s') → wpAny (model prog w) A (t u v) Q E s
def OpN (prog : Program) (w : World) (H : Heap) (A : Around) (C : Cf) (t : List Value → Sem Value) (ps : List PV) (r : PV) : Prop :=
  ∀ (s : Shared) (vs : List Value) (Q : Value → Shared → Prop) (E : Value → Shared → Prop), FS H C s → RepL s.heap C.W ps vs → (∀ x s', KeepS s s' → FS H C s' → Rep s'.heap C.W r x → Q x s') → wpAny (model prog w) A (t vs) Q E s
def Tr (prog : Program) (w : World) (H : Heap) (A : Around) (C : Cf) (p : PV) (b : Bool) : Prop :=
  ∀ (s : Shared) (u : Value) (Q : Bool → Shared → Prop) (E : Value → Shared → Prop), FS H C s → Rep s.heap C.W p u → (∀ s', KeepS s s' → FS H C s' → Q b s') → wpAny (model prog w) A (truthy u) Q E s
def EvL (prog : Program) (w : World) (H : Heap) (A : Around) (C : Cf) (es : List Expr) (ps : List PV) : Prop :=
  ∀ (pos : Pos) (s : Shared) (Q : List Value → Shared → Prop) (E : Value → Shared → Prop), FS H C s → (∀ vs s', KeepS s s' → FS H C s' → RepL s'.heap C.W ps vs → Q vs s') → wpAny (model prog w) A (spliced (backTo pos (starEach es C.env))) Q E s

theorem tok_keep {s : Shared} {t : Nat} (F : FS H C s) (z : 0 < s.toks → 0 < t := by first | exact fun h => h | exact fun _ => Nat.succ_pos _ | assumption) : FS H C { s with toks := t } := F.keeps (.tok z)

/-! names -/
theorem ev_local {x : Str} {pos : Pos} {p : PV} (hρ : C.ρ x = some p) (hk : C.env.scope.kind = .function := by rfl) (hl : C.env.kindOf x = some .local := by rfl) (hc : C.env.cells.lookup x = none := by rfl)
    (hd : (x == ("__debug__" : Str)) = false := by decide) : Ev prog w H A C (.Name x pos) p := by
  intro s Q E F k
  obtain ⟨m, cm, b1, b2, b3⟩ := F.vars
  obtain ⟨v, e, r⟩ := b3 x p hρ
  rw [hc] at e
  exact wpAny_Name (wpAny_loadName_local hk hl b1 e (k v s .refl F r)) hd
theorem ev_cell {x : Str} {pos : Pos} {p : PV} {c : Addr} (hρ : C.ρ x = some p) (hk : C.env.scope.kind = .function := by rfl) (hl : C.env.kindOf x = some .cell := by rfl) (hc : C.env.cells.lookup x = some c := by rfl)
    (hd : (x == ("__debug__" : Str)) = false := by decide) : Ev prog w H A C (.Name x pos) p := by
  intro s Q E F k
  obtain ⟨m, cm, b1, b2, b3⟩ := F.vars
  obtain ⟨v, e, r⟩ := b3 x p hρ
  rw [hc] at e
  exact wpAny_Name (wpAny_loadName_cell hk hl hc (e ▸ b2 x c hc) (k v s .refl F r)) hd
theorem ev_free {x : Str} {pos : Pos} {p : PV} {c : Addr} (hρ : C.ρ x = some p) (hk : C.env.scope.kind = .function := by rfl) (hl : C.env.kindOf x = some .free := by rfl) (hc : C.env.cells.lookup x = some c := by rfl)
    (hn : (x == ("__classdict__" : Str)) = false := by decide) (hd : (x == ("__debug__" : Str)) = false := by decide) : Ev prog w H A C (.Name x pos) p := by
  intro s Q E F k
  obtain ⟨m, cm, b1, b2, b3⟩ := F.vars
  obtain ⟨v, e, r⟩ := b3 x p hρ
  rw [hc] at e
  exact wpAny_Name (wpAny_loadName_free hk hl hc (e ▸ b2 x c hc) (k v s .refl F r) hn) hd

/-- what a bootstrapped builtin is as a plain value -/
def ofBoot : Value → Option PV
  | .builtin i => some (.blt i)
  | .type i => some (.typ i)
  | .bool b => some (.bool b)
  | _ => none
theorem ofBoot_rep {v : Value} {p : PV} {h : Heap} {W : List Addr} (e : ofBoot v = some p) : Rep h W p v := by
  cases v <;> simp [ofBoot] at e <;> subst e <;> simp [Rep]

theorem ev_builtin {x : Str} {pos : Pos} {v : Value} {p : PV} (G : Gl w K H) (hg : nsIn K 3 x = some none) (hv : bootBuiltins x = some v) (hp : ofBoot v = some p)
    (hk : C.env.scope.kind = .function := by rfl) (hx : C.env.kindOf x = some .globalImplicit := by rfl) (hgl : C.env.globals = 3 := by rfl) (hbl : C.env.builtins = builtinsNs := by rfl)
    (hn : x ≠ "__name__" := by decide) (hd : (x == ("__debug__" : Str)) = false := by decide) : Ev prog w H A C (.Name x pos) p := by
  intro s Q E F k
  refine Name_function_global hk hx ?_ hd
  obtain ⟨mb, hb, hbe⟩ := G.b
  unfold loadGlobal
  rw [hgl, hbl]
  refine wpAny_bind ((looks_nsIn (G.kin.keeps F.old) hg).here ?_)
  refine wpAny_bind (wpAny_nsGet (hb.keeps F.old) ?_)
  rw [hbe x hn, hv]
  exact wpAny_pure (k _ _ .refl F (ofBoot_rep hp))
theorem ev_global {x : Str} {pos : Pos} {a : Addr} (G : Gl w K H) (hg : nsIn K 3 x = some (some (.ref a)))
    (hk : C.env.scope.kind = .function := by rfl) (hx : C.env.kindOf x = some .globalImplicit := by rfl) (hgl : C.env.globals = 3 := by rfl) (hd : (x == ("__debug__" : Str)) = false := by decide) :
    Ev prog w H A C (.Name x pos) (.ref a) := by
  intro s Q E F k
  refine Name_function_global hk hx ?_ hd
  unfold loadGlobal
  rw [hgl]
  refine wpAny_bind ((looks_nsIn (G.kin.keeps F.old) hg).here ?_)
  exact wpAny_pure (k _ _ .refl F (by simp [Rep]))

/-! constants -/
theorem ev_int {i : Int} {kd : Nat} {pos : Pos} : Ev prog w H A C (.Constant (.int i) kd pos) (.int i) := fun s Q E F k =>
  wpAny_Constant_int (k _ _ .tok (tok_keep F) (by simp [Rep]))
theorem ev_str {x : Str} {kd : Nat} {pos : Pos} : Ev prog w H A C (.Constant (.str x) kd pos) (.str x) := fun s Q E F k =>
  wpAny_Constant_str (k _ _ .tok (tok_keep F) (by simp [Rep]))
theorem ev_none {kd : Nat} {pos : Pos} : Ev prog w H A C (.Constant .none kd pos) .none := fun s Q E F k =>
  wpAny_Constant_none (k _ _ .refl F (by simp [Rep]))
theorem ev_bool {b : Bool} {kd : Nat} {pos : Pos} : Ev prog w H A C (.Constant (.bool b) kd pos) (.bool b) := fun s Q E F k =>
  wpAny_Constant_bool (k _ _ .refl F (by simp [Rep]))

/-! operations -/
theorem ev_BinOp {l r : Expr} {op : Operator} {pos : Pos} {p q z : PV} (hl : Ev prog w H A C l p) (hr : Ev prog w H A C r q) (ho : Op2 prog w H A C (binaryOp op) p q z) : Ev prog w H A C (.BinOp l op r pos) z :=
  fun s Q E F k => wpAny_BinOp (hl s _ E F fun u s₁ k₁ F₁ r₁ => hr s₁ _ E F₁ fun v s₂ k₂ F₂ r₂ => ho s₂ u v _ E F₂ (r₁.keeps k₂.keep) r₂ fun x s₃ k₃ F₃ r₃ => k x s₃ ((k₁.trans k₂).trans k₃) F₃ r₃)
theorem ev_Compare {l r : Expr} {op : CmpOp} {pos : Pos} {p q z : PV} (hl : Ev prog w H A C l p) (hr : Ev prog w H A C r q) (ho : Op2 prog w H A C (compareOp op) p q z)
    (hm : behindInMarks op r = false := by with_unfolding_all rfl) : Ev prog w H A C (.Compare l [op] [r] pos) z :=
  fun s Q E F k => wpAny_Compare1 (hl s _ E F fun u s₁ k₁ F₁ r₁ => hr s₁ _ E F₁ fun v s₂ k₂ F₂ r₂ => ho s₂ u v _ E F₂ (r₁.keeps k₂.keep) r₂ fun x s₃ k₃ F₃ r₃ => k x s₃ ((k₁.trans k₂).trans k₃) F₃ r₃) hm
theorem evt_Compare {l r : Expr} {op : CmpOp} {pos : Pos} {p q : PV} {b : Bool} (hl : Ev prog w H A C l p) (hr : Ev prog w H A C r q) (ho : Op2 prog w H A C (compareOp op) p q (.bool b))
    (hm : behindInMarks op r = false := by with_unfolding_all rfl) : EvT prog w H A C (.Compare l [op] [r] pos) b :=
  fun s Q E F k => wpAny_isTrue_Compare1 (hl s _ E F fun u s₁ k₁ F₁ r₁ => hr s₁ _ E F₁ fun v s₂ k₂ F₂ r₂ => ho s₂ u v _ E F₂ (r₁.keeps k₂.keep) r₂ fun x s₃ k₃ F₃ r₃ => by
    simp only [Rep] at r₃
    subst r₃
    exact wpAny_truthy_bool (k s₃ ((k₁.trans k₂).trans k₃) F₃)) hm
theorem evt_not {e : Expr} {pos : Pos} {b : Bool} (h : EvT prog w H A C e b) : EvT prog w H A C (.UnaryOp .Not e pos) (!b) :=
  fun s Q E F k => wpAny_isTrue_Not (h s _ E F fun s₁ k₁ F₁ => k s₁ k₁ F₁)
theorem evt_value {e : Expr} {p : PV} {b : Bool} (h : Ev prog w H A C e p) (t : Tr prog w H A C p b)
    (he : isTrue e C.env (eval e C.env) = (do let v ← eval e C.env; standAt e.pos; holding [v] (truthy v)) := by rfl) : EvT prog w H A C e b :=
  fun s Q E F k => wpAny_isTrue_value (h s _ E F fun v s₁ k₁ F₁ r₁ => t s₁ v _ E F₁ r₁ fun s₂ k₂ F₂ => k s₂ (k₁.trans k₂) F₂) he
theorem tr_bool {b : Bool} : Tr prog w H A C (.bool b) b := fun s u Q E F r k => by
  simp only [Rep] at r; subst r; exact wpAny_truthy_bool (k s .refl F)
theorem evt_and {x y : Expr} {pos : Pos} {a b : Bool} (hx : EvT prog w H A C x a) (hy : a = true → EvT prog w H A C y b) : EvT prog w H A C (.BoolOp .And [x, y] pos) (a && b) := fun s Q E F k => by
  refine wpAny_isTrue_BoolOp (wpAny_allTrue_And_cons (hx s _ E F fun s₁ k₁ F₁ => ?_))
  cases a with
  | false => exact k s₁ k₁ F₁
  | true =>
    refine wpAny_allTrue_And_cons (hy rfl s₁ _ E F₁ fun s₂ k₂ F₂ => ?_)
    cases b with
    | false => exact k s₂ (k₁.trans k₂) F₂
    | true => exact wpAny_allTrue_And_nil (k s₂ (k₁.trans k₂) F₂)
theorem evt_and3 {x y z : Expr} {pos : Pos} {a b c : Bool} (hx : EvT prog w H A C x a) (hy : a = true → EvT prog w H A C y b) (hz : a = true → b = true → EvT prog w H A C z c) : EvT prog w H A C (.BoolOp .And [x, y, z] pos) (a && (b && c)) := fun s Q E F k => by
  refine wpAny_isTrue_BoolOp (wpAny_allTrue_And_cons (hx s _ E F fun s₁ k₁ F₁ => ?_))
  cases a with
  | false => exact k s₁ k₁ F₁
  | true =>
    refine wpAny_allTrue_And_cons (hy rfl s₁ _ E F₁ fun s₂ k₂ F₂ => ?_)
    cases b with
    | false => exact k s₂ (k₁.trans k₂) F₂
    | true =>
      refine wpAny_allTrue_And_cons (hz rfl rfl s₂ _ E F₂ fun s₃ k₃ F₃ => ?_)
      cases c with
      | false => exact k s₃ ((k₁.trans k₂).trans k₃) F₃
      | true => exact wpAny_allTrue_And_nil (k s₃ ((k₁.trans k₂).trans k₃) F₃)
theorem evt_or {x y : Expr} {pos : Pos} {a b : Bool} (hx : EvT prog w H A C x a) (hy : a = false → EvT prog w H A C y b) : EvT prog w H A C (.BoolOp .Or [x, y] pos) (a || b) := fun s Q E F k => by
  refine wpAny_isTrue_BoolOp (wpAny_allTrue_Or_cons (hx s _ E F fun s₁ k₁ F₁ => ?_))
  cases a with
  | true => exact k s₁ k₁ F₁
  | false =>
    refine wpAny_allTrue_Or_cons (hy rfl s₁ _ E F₁ fun s₂ k₂ F₂ => ?_)
    cases b with
    | true => exact k s₂ (k₁.trans k₂) F₂
    | false => exact wpAny_allTrue_Or_nil (k s₂ (k₁.trans k₂) F₂)
theorem ev_IfExp {t b o : Expr} {pos : Pos} {c : Bool} {p : PV} (ht : EvT prog w H A C t c) (hb : c = true → Ev prog w H A C b p) (ho : c = false → Ev prog w H A C o p) : Ev prog w H A C (.IfExp t b o pos) p := fun s Q E F k => by
  refine wpAny_IfExp (ht s _ E F fun s₁ k₁ F₁ => ?_)
  cases c with
  | true => exact hb rfl s₁ _ E F₁ fun v s₂ k₂ F₂ r₂ => k v s₂ (k₁.trans k₂) F₂ r₂
  | false => exact ho rfl s₁ _ E F₁ fun v s₂ k₂ F₂ r₂ => k v s₂ (k₁.trans k₂) F₂ r₂

/-! arguments, displays -/
theorem evl_nil : EvL prog w H A C [] [] := fun pos s Q E F k => args_nil (k [] s .refl F .nil)
theorem evl_cons {e : Expr} {es : List Expr} {p : PV} {ps : List PV} (h : Ev prog w H A C e p) (hs : EvL prog w H A C es ps)
    (he : starEach (e :: es) C.env = (false, eval e C.env) :: starEach es C.env := by rfl) : EvL prog w H A C (e :: es) (p :: ps) := fun pos s Q E F k =>
  args_cons (h s _ E F fun v s₁ k₁ F₁ r₁ => hs pos s₁ _ E F₁ fun vs s₂ k₂ F₂ r₂ => k _ s₂ (k₁.trans k₂) F₂ (.cons (r₁.keeps k₂.keep) r₂)) he

theorem new_list {s : Shared} {vs : List Value} {ps : List PV} (F : FS H C s) (r : RepL s.heap C.W ps vs) :
    Rep (s.heap.push { cls := .type "list", data := .seq vs.toArray }) C.W (.lst ps) (.ref s.heap.objs.size) := by
  simp only [Rep]
  exact ⟨_, vs, rfl, not_mem_of_none F (get_size_none _), ⟨0, Heap.get?_push_size _ rfl⟩, r.keeps fun _ _ e => Heap.get?_push_of_some _ e⟩
theorem new_tup {s : Shared} {vs : List Value} {ps : List PV} (F : FS H C s) (r : RepL s.heap C.W ps vs) :
    Rep (s.heap.push { cls := .type "tuple", data := .seq vs.toArray }) C.W (.tup ps) (.ref s.heap.objs.size) := by
  simp only [Rep]
  exact ⟨_, vs, rfl, not_mem_of_none F (get_size_none _), ⟨_, Heap.get?_push_size _ rfl, rfl, 0, rfl⟩, r.keeps fun _ _ e => Heap.get?_push_of_some _ e⟩

theorem ev_Tuple {es : List Expr} {kd : Nat} {pos : Pos} {ps : List PV} (h : EvL prog w H A C es ps) (hn : ps.length ≤ 1000 := by decide) : Ev prog w H A C (.Tuple es kd pos) (.tup ps) := fun s Q E F k => by
  refine wpAny_Tuple_spliced (h pos s _ E F fun vs s₁ k₁ F₁ r₁ => ⟨?_, k _ _ (k₁.trans .push) (F₁.keeps .push) (new_tup F₁ r₁)⟩)
  rw [r₁.length, sizeLine_eq]; omega
theorem ev_List {es : List Expr} {pos : Pos} {ps : List PV} (h : EvL prog w H A C es ps) (hn : ps.length ≤ 1000 := by decide) : Ev prog w H A C (.List es pos) (.lst ps) := fun s Q E F k => by
  refine wpAny_List_spliced (h pos s _ E F fun vs s₁ k₁ F₁ r₁ => ⟨?_, k _ _ (k₁.trans .push) (F₁.keeps .push) (new_list F₁ r₁)⟩)
  rw [r₁.length, sizeLine_eq]; omega

/-! items -/
theorem ev_Subscript {a i : Expr} {pos : Pos} {p q z : PV} (ha : Ev prog w H A C a p) (hi : Ev prog w H A C i q) (ho : Op2 prog w H A C (subscriptTail a i) p q z) : Ev prog w H A C (.Subscript a i pos) z := fun s Q E F k =>
  Subscript_ (ha s _ E F fun u s₁ k₁ F₁ r₁ => hi s₁ _ E F₁ fun v s₂ k₂ F₂ r₂ => ho s₂ u v _ E F₂ (r₁.keeps k₂.keep) r₂ fun x s₃ k₃ F₃ r₃ => k x s₃ ((k₁.trans k₂).trans k₃) F₃ r₃)

def NoTemp (a i : Expr) : Prop := (∀ (l : Addr) (k : Int) (u : Tok), subscripted i false (.ref l) (.int k u) = operate [.ref l, .int k u] (getItem (.ref l) (.int k u)))

theorem op_item_list {a i : Expr} {l : List PV} {k : Int} {p : PV} (h0 : 0 ≤ k) (hf : k < 2 ^ 63) (hx : l[k.toNat]? = some p) (hs : NoTemp a i := by (intro _ _ _; with_unfolding_all rfl)) :
    Op2 prog w H A C (subscriptTail a i) (.lst l) (.int k) p := fun s u v Q E F r₁ r₂ kk => by
  simp only [Rep] at r₁ r₂
  obtain ⟨ad, vs, rfl, _, hp, rl⟩ := r₁
  obtain ⟨t, rfl⟩ := r₂
  obtain ⟨x, hx', rx⟩ := rl.get hx
  exact tail_any hp.isList.typeIs slot_list_getitem.lookup (wpAny_getItem_list hp.isList h0 hf (by simpa using hx') (kk x s .refl F rx)) (hs _ _ _)
theorem op_item_list_neg {a i : Expr} {l : List PV} {k : Int} {p : PV} (h0 : k < 0) (h1 : -(l.length : Int) ≤ k) (hf : -(2 ^ 63) ≤ k) (hx : l[(k + l.length).toNat]? = some p) (hs : NoTemp a i := by (intro _ _ _; with_unfolding_all rfl)) :
    Op2 prog w H A C (subscriptTail a i) (.lst l) (.int k) p := fun s u v Q E F r₁ r₂ kk => by
  simp only [Rep] at r₁ r₂
  obtain ⟨ad, vs, rfl, _, hp, rl⟩ := r₁
  obtain ⟨t, rfl⟩ := r₂
  obtain ⟨x, hx', rx⟩ := rl.get hx
  have hlen := rl.length
  exact tail_any hp.isList.typeIs slot_list_getitem.lookup (wpAny_getItem_list_neg hp.isList h0 (by simpa [hlen] using h1) hf (by simpa [hlen] using hx') (kk x s .refl F rx)) (hs _ _ _)
theorem op_item_mut {a i : Expr} {ad : Addr} {l : List PV} {k : Int} {p : PV} (hm : (ad, l) ∈ C.μ ++ C.κ) (h0 : 0 ≤ k) (hf : k < 2 ^ 63) (hx : l[k.toNat]? = some p) (hs : NoTemp a i := by (intro _ _ _; with_unfolding_all rfl)) :
    Op2 prog w H A C (subscriptTail a i) (.ref ad) (.int k) p := fun s u v Q E F r₁ r₂ kk => by
  simp only [Rep] at r₁ r₂
  subst r₁
  obtain ⟨t, rfl⟩ := r₂
  obtain ⟨vs, hp, rl⟩ := F.lists _ hm
  obtain ⟨x, hx', rx⟩ := rl.get hx
  exact tail_any hp.isList.typeIs slot_list_getitem.lookup (wpAny_getItem_list hp.isList h0 hf (by simpa using hx') (kk x s .refl F rx)) (hs _ _ _)
theorem op_item_tup {a i : Expr} {l : List PV} {k : Int} {p : PV} (h0 : 0 ≤ k) (hf : k < 2 ^ 63) (hx : l[k.toNat]? = some p) (hs : NoTemp a i := by (intro _ _ _; with_unfolding_all rfl)) :
    Op2 prog w H A C (subscriptTail a i) (.tup l) (.int k) p := fun s u v Q E F r₁ r₂ kk => by
  simp only [Rep] at r₁ r₂
  obtain ⟨ad, vs, rfl, _, hp, rl⟩ := r₁
  obtain ⟨t, rfl⟩ := r₂
  obtain ⟨x, hx', rx⟩ := rl.get hx
  have hl := (List.getElem?_eq_some_iff.mp hx').1
  exact item_tupleT hp (by omega) hf (seqIndex_of h0 (by omega)) hx' (kk x s .refl F rx) (hs _ _ _)

/-! ints -/
theorem op_int2 {t : Value → Value → Sem Value} {a b c : Int} (h : ∀ (s : Shared) (u v : Tok) (Q : Value → Shared → Prop) (E : Value → Shared → Prop), Q (.int c s.toks) { s with toks := s.toks + 1 } → wpAny (model prog w) A (t (.int a u) (.int b v)) Q E s) :
    Op2 prog w H A C t (.int a) (.int b) (.int c) := fun s u v Q E F r₁ r₂ k => by
  simp only [Rep] at r₁ r₂
  obtain ⟨t1, rfl⟩ := r₁
  obtain ⟨t2, rfl⟩ := r₂
  exact h s t1 t2 Q E (k _ _ .tok (tok_keep F) (by simp [Rep]))
theorem op_add {a b : Int} : Op2 prog w H A C (binaryOp .Add) (.int a) (.int b) (.int (a + b)) := op_int2 fun s u v Q E h => wpAny_add_int h
theorem op_sub {a b : Int} : Op2 prog w H A C (binaryOp .Sub) (.int a) (.int b) (.int (a - b)) := op_int2 fun s u v Q E h => P.sub_int h
theorem op_mul {a b : Int} (hm : IntMulOk a b) : Op2 prog w H A C (binaryOp .Mult) (.int a) (.int b) (.int (a * b)) := op_int2 fun s u v Q E h => P.mul_int h hm
theorem op_mod {a b : Int} (hb : b ≠ 0) : Op2 prog w H A C (binaryOp .Mod) (.int a) (.int b) (.int (a.fmod b)) := op_int2 fun s u v Q E h => mod_int' hb h
theorem op_fdiv {a b : Int} (hb : b ≠ 0) (hs : b.natAbs < 1073741824) : Op2 prog w H A C (binaryOp .FloorDiv) (.int a) (.int b) (.int (a.fdiv b)) := op_int2 fun s u v Q E h => floordiv_int hb h (.inl (PyProof.noPylong_small hs))
theorem op_pow {a n : Int} (hn : 0 ≤ n) (hn2 : n ≤ 1000000) (ha : a.natAbs < 2 ^ 64) : Op2 prog w H A C (binaryOp .Pow) (.int a) (.int n) (.int (a ^ n.toNat)) := op_int2 fun s u v Q E h => pow_int_small hn hn2 ha h
theorem op_shr1 {a : Int} (h0 : 0 ≤ a) : Op2 prog w H A C (binaryOp .RShift) (.int a) (.int 1) (.int (a / 2)) := op_int2 fun s u v Q E h => wpAny_rshift1_int h0 h
theorem op_cmp2 {t : Value → Value → Sem Value} {a b : Int} {c : Bool} (h : ∀ (s : Shared) (u v : Tok) (Q : Value → Shared → Prop) (E : Value → Shared → Prop), Q (.bool c) s → wpAny (model prog w) A (t (.int a u) (.int b v)) Q E s) :
    Op2 prog w H A C t (.int a) (.int b) (.bool c) := fun s u v Q E F r₁ r₂ k => by
  simp only [Rep] at r₁ r₂
  obtain ⟨t1, rfl⟩ := r₁
  obtain ⟨t2, rfl⟩ := r₂
  exact h s t1 t2 Q E (k _ _ .refl F (by simp [Rep]))
theorem op_eq {a b : Int} : Op2 prog w H A C (compareOp .Eq) (.int a) (.int b) (.bool (a == b)) := op_cmp2 fun s u v Q E h => P.eq_int h
theorem op_ne {a b : Int} : Op2 prog w H A C (compareOp .NotEq) (.int a) (.int b) (.bool (a != b)) := op_cmp2 fun s u v Q E h => P.ne_int h
theorem op_lt {a b : Int} : Op2 prog w H A C (compareOp .Lt) (.int a) (.int b) (.bool (decide (a < b))) := op_cmp2 fun s u v Q E h => P.lt_int h
theorem op_le {a b : Int} : Op2 prog w H A C (compareOp .LtE) (.int a) (.int b) (.bool (decide (a ≤ b))) := op_cmp2 fun s u v Q E h => P.le_int h
theorem op_gt {a b : Int} : Op2 prog w H A C (compareOp .Gt) (.int a) (.int b) (.bool (decide (a > b))) := op_cmp2 fun s u v Q E h => P.gt_int h

/-! calls of builtin functions and of types -/
theorem ev_Call_blt {f e : Expr} {es : List Expr} {id : String} {pos : Pos} {ps : List PV} {r : PV} (hf : Ev prog w H A C f (.blt id)) (ha : EvL prog w H A C (e :: es) ps)
    (ho : OpN prog w H A C (fun vs => call (.builtin id) vs) ps r)
    (he : eval (.Call f (e :: es) [] pos) C.env = (do callWith pos (← eval f C.env) [] (backTo pos (starEach (e :: es) C.env)) (backToKw pos (keywordEach [] C.env))) := by rfl)
    (hs : starEach (e :: es) C.env = (false, eval e C.env) :: starEach es C.env := by rfl) (hp : (backTo pos (starEach es C.env)).any (·.1) = false := by rfl) : Ev prog w H A C (.Call f (e :: es) [] pos) r := fun s Q E F k =>
  Call_ (hf s _ E F fun u s₁ k₁ F₁ r₁ => by
    simp only [Rep] at r₁
    subst r₁
    exact PyProof.Rows.callWith_builtin1 (ha pos s₁ _ E F₁ fun vs s₂ k₂ F₂ r₂ => ho s₂ vs _ E F₂ r₂ fun x s₃ k₃ F₃ r₃ => k x s₃ ((k₁.trans k₂).trans k₃) F₃ r₃) hs hp) he
theorem ev_Call_typ {f e : Expr} {es : List Expr} {id : String} {pos : Pos} {ps : List PV} {r : PV} (hf : Ev prog w H A C f (.typ id)) (ha : EvL prog w H A C (e :: es) ps)
    (ho : OpN prog w H A C (fun vs => call (.type id) vs) ps r)
    (he : eval (.Call f (e :: es) [] pos) C.env = (do callWith pos (← eval f C.env) [] (backTo pos (starEach (e :: es) C.env)) (backToKw pos (keywordEach [] C.env))) := by rfl)
    (hs : starEach (e :: es) C.env = (false, eval e C.env) :: starEach es C.env := by rfl) (hp : (backTo pos (starEach es C.env)).any (·.1) = false := by rfl) : Ev prog w H A C (.Call f (e :: es) [] pos) r := fun s Q E F k =>
  Call_ (hf s _ E F fun u s₁ k₁ F₁ r₁ => by
    simp only [Rep] at r₁
    subst r₁
    exact Pv.callWith_type1 (ha pos s₁ _ E F₁ fun vs s₂ k₂ F₂ r₂ => ho s₂ vs _ E F₂ r₂ fun x s₃ k₃ F₃ r₃ => k x s₃ ((k₁.trans k₂).trans k₃) F₃ r₃) hs hp) he
end
end Mine

end

section
open PySem PySem.W PyProof.Rows PySem.Calls
namespace Mine
section
variable {prog : Program} {w : World} {K : Frag} {H : Heap} {A : Around} {C : Cf}

abbrev Env0 := Str → Option PV
abbrev Sto := List (Addr × List PV)

/-- as Ev, and the frame's lists may be written -/
def EvM (prog : Program) (w : World) (H : Heap) (A : Around) (C : Cf) (e : Expr) (p : PV) (μ : Sto) : Prop :=
  ∀ (s : Shared) (Q : Value → Shared → Prop) (E : Value → Shared → Prop), FS H C s → (∀ v s', FS H { C with μ := μ } s' → Rep s'.heap C.W p v → Q v s') → wpAny (model prog w) A (eval e C.env) Q E s
theorem Ev.m {e : Expr} {p : PV} (h : Ev prog w H A C e p) : EvM prog w H A C e p C.μ := fun s Q E F k => h s Q E F fun v s' _ F' r => k v s' F' r

structure PQ where
  nxt : Env0 → Sto → Prop
  cnt : Env0 → Sto → Prop
  brk : Env0 → Sto → Prop
  ret : PV → Sto → Prop

def PQ.holds (P : PQ) (h : Heap) (W : List Addr) (ρ : Env0) (μ : Sto) : Flow → Prop
  | .next => P.nxt ρ μ
  | .cont => P.cnt ρ μ
  | .brk => P.brk ρ μ
  | .ret v => ∃ p, Rep h W p v ∧ P.ret p μ
def Holds (H : Heap) (C : Cf) (P : PQ) (f : Flow) (s : Shared) : Prop :=
  ∃ W ρ μ, FS H ⟨C.env, C.s0, C.X, W, ρ, μ, C.τ, C.κ, C.B⟩ s ∧ P.holds s.heap W ρ μ f
structure Run (prog : Program) (w : World) (H : Heap) (A : Around) (C : Cf) (sts : List Stmt) (P : PQ) : Prop where
  of ::
  go : ∀ s, FS H C s → wpAny (model prog w) A (execs sts C.env) (Holds H C P) (fun _ _ => False) s

theorem run_nil {P : PQ} (h : P.nxt C.ρ C.μ) : Run prog w H A C [] P := .of fun s F => wpAny_execs_nil ⟨C.W, C.ρ, C.μ, F, h⟩

theorem run_one {st : Stmt} {rest : List Stmt} {P : PQ} (h : ∀ s, FS H C s → wpAny (model prog w) A (exec st C.env) (fun f s' => match f with | .next => wpAny (model prog w) A (execs rest C.env) (Holds H C P) (fun _ _ => False) s' | f => Holds H C P f s') (fun _ _ => False) s) :
    Run prog w H A C (st :: rest) P := .of fun s F => wpAny_execs_cons (h s F)

/-! assignment to a target -/
def Asg (prog : Program) (w : World) (H : Heap) (A : Around) (C : Cf) (t : Expr) (p : PV) (ρ : Env0) : Prop :=
  ∀ (s : Shared) (v : Value) (Q : Unit → Shared → Prop) (E : Value → Shared → Prop), FS H C s → Rep s.heap C.W p v → (∀ s', FS H { C with ρ := ρ } s' → Q () s') → wpAny (model prog w) A (assign t C.env v) Q E s
def Able (prog : Program) (w : World) (H : Heap) (A : Around) (env : Env) (x : Str) : Prop :=
  ∀ s0 X W ρ μ τ κ B p (s : Shared) (v : Value) (Q : Unit → Shared → Prop) (E : Value → Shared → Prop), FS H ⟨env, s0, X, W, ρ, μ, τ, κ, B⟩ s → Rep s.heap W p v → (∀ s', FS H ⟨env, s0, X, W, upd ρ x p, μ, τ, κ, B⟩ s' → Q () s') → wpAny (model prog w) A (storeName env x v) Q E s

theorem able_local {env : Env} {x : Str} (hl : env.kindOf x = some .local) (hc : env.cells.lookup x = none)
    (hp : (env.scope.kind == .class || (env.scope.kind == .module && env.locals != env.globals)) = false) : Able prog w H A env x := fun s0 X W ρ μ τ κ B p s v Q E F r k => by
  obtain ⟨m, cm, b1, b2, b3⟩ := F.vars
  exact wpAny_storeName_local hl b1 (fun h' hn' hs => k _ (F.setLocal b1 hc hn' hs r)) hp
theorem able_cell {env : Env} {x : Str} {c : Addr} (hl : env.kindOf x = some .cell) (hc : env.cells.lookup x = some c) (hk : env.scope.kind = .function) (hf : env.func.isSome = true) : Able prog w H A env x := fun s0 X W ρ μ τ κ B p s v Q E F r k => by
  obtain ⟨m, cm, b1, b2, b3⟩ := F.vars
  exact wpAny_storeName_cell hk hl hc (b2 x c hc) (fun h' hc' hs => k _ (F.setCell hf hc hc' hs r))

theorem asg_name {x : Str} {pos : Pos} {p : PV} (h : Able prog w H A C.env x) : Asg prog w H A C (.Name x pos) p (upd C.ρ x p) := fun s v Q E F r k => wpAny_assign_Name (h _ _ _ _ _ _ _ _ p s v Q E F r k)
theorem asg_tuple2 {x y : Str} {px py pos : Pos} {kd : Nat} {p q : PV} (hh : A.handled = none) (hx : Able prog w H A C.env x) (hy : Able prog w H A C.env y) :
    Asg prog w H A C (.Tuple [.Name x px, .Name y py] kd pos) (.tup [p, q]) (upd (upd C.ρ x p) y q) := fun s v Q E F r k => by
  simp only [Rep, RepL] at r
  obtain ⟨a, vs, rfl, na, ht, v1, r1, rfl, rp, v2, r2, rfl, rq, rfl⟩ := r
  refine wpAny_assign_Tuple (items := #[v1, v2]) hh ht rfl rfl fun h' he => ?_
  have ks : KeepS s { s with heap := h' } := ⟨h', s.toks, rfl, fun h => h, fun b o e => he b o (Nat.ne_of_lt (Heap.lt_size e)) e⟩
  show wpAny _ A (do holding [v2] (assign (.Name x px) C.env v1); assignInOrder [assign (.Name y py) C.env] [v2]) Q E _
  refine wpAny_bind (wpAny_holding (wpAny_assign_Name (hx _ _ _ _ _ ((q, v2) :: C.τ) _ _ p _ v1 _ E ((F.temp rq).keeps ks) (rp.keeps ks.keep) fun s₂ F₂ => ?_)))
  show wpAny _ A (do holding [] (assign (.Name y py) C.env v2); assignInOrder [] []) Q E _
  have rq2 : Rep s₂.heap C.W q v2 := F₂.temps (q, v2) (.head _)
  exact wpAny_bind (wpAny_holding (wpAny_assign_Name (hy _ _ _ _ _ _ _ _ q _ v2 _ E F₂ rq2 fun s₃ F₃ => wpAny_pure (k s₃ (F₃.untemp fun _ z => .tail _ z)))))

/-! statements -/
theorem run_assign {x : Str} {px pos : Pos} {e : Expr} {p : PV} {μ : Sto} {rest : List Stmt} {P : PQ} (he : EvM prog w H A C e p μ) (hx : Able prog w H A C.env x)
    (k : Run prog w H A { C with ρ := upd C.ρ x p, μ := μ } rest P) (hs : swapsWith e (some (.Name x px)) pos.line C.env = pure false := by rfl) : Run prog w H A C (.Assign [.Name x px] e pos :: rest) P :=
  run_one fun s F => wpAny_Assign_Name (he s _ _ F fun v s₁ F₁ r₁ => hx _ _ _ _ _ _ _ _ p s₁ v _ _ F₁ r₁ fun s₂ F₂ => k.go s₂ F₂) hs
theorem run_expr {e : Expr} {pos : Pos} {μ : Sto} {rest : List Stmt} {P : PQ} (he : EvM prog w H A C e .none μ) (k : Run prog w H A { C with μ := μ } rest P)
    (hi : interactive C.env = false := by rfl) (hs : swapsWith e none pos.line C.env = pure false := by rfl) : Run prog w H A C (.Expr e pos :: rest) P :=
  run_one fun s F => wpAny_Expr (he s _ _ F fun v s₁ F₁ r₁ => by
    simp only [Rep] at r₁
    subst r₁
    exact k.go s₁ F₁) hi hs
theorem run_return {e : Expr} {pos : Pos} {p : PV} {μ : Sto} {rest : List Stmt} {P : PQ} (he : EvM prog w H A C e p μ) (k : P.ret p μ) : Run prog w H A C (.Return (some e) pos :: rest) P :=
  run_one fun s F => wpAny_Return_some (he s _ _ F fun v s₁ F₁ r₁ => ⟨C.W, C.ρ, μ, F₁, p, r₁, k⟩)
theorem run_cont {pos : Pos} {rest : List Stmt} {P : PQ} (k : P.cnt C.ρ C.μ) : Run prog w H A C (.Continue pos :: rest) P := run_one fun s F => wpAny_Continue ⟨C.W, C.ρ, C.μ, F, k⟩
theorem run_brk {pos : Pos} {rest : List Stmt} {P : PQ} (k : P.brk C.ρ C.μ) : Run prog w H A C (.Break pos :: rest) P := run_one fun s F => wpAny_Break ⟨C.W, C.ρ, C.μ, F, k⟩

/-- what is to be shown where a block ends and the rest goes on -/
def After (prog : Program) (w : World) (H : Heap) (A : Around) (C : Cf) (rest : List Stmt) (P : PQ) (ρ : Env0) (μ : Sto) : Prop :=
  ∀ W, Run prog w H A ⟨C.env, C.s0, C.X, W, ρ, μ, C.τ, C.κ, C.B⟩ rest P
theorem holds_after {rest : List Stmt} {P : PQ} {f : Flow} {s : Shared} (h : Holds H C { P with nxt := After prog w H A C rest P } f s) :
    match f with | .next => wpAny (model prog w) A (execs rest C.env) (Holds H C P) (fun _ _ => False) s | f => Holds H C P f s := by
  obtain ⟨W, ρ, μ, b, c⟩ := h
  cases f with
  | next => exact (c W).go s b
  | cont => exact ⟨W, ρ, μ, b, c⟩
  | brk => exact ⟨W, ρ, μ, b, c⟩
  | ret v => exact ⟨W, ρ, μ, b, c⟩
theorem run_if {t : Expr} {body orelse rest : List Stmt} {pos : Pos} {b : Bool} {P : PQ} (ht : EvT prog w H A C t b)
    (hb : b = true → Run prog w H A C body { P with nxt := After prog w H A C rest P }) (ho : b = false → Run prog w H A C orelse { P with nxt := After prog w H A C rest P }) : Run prog w H A C (.If t body orelse pos :: rest) P :=
  run_one fun s F => wpAny_If (ht s _ _ F fun s₁ k₁ F₁ => by
    cases b with
    | true => exact wpAny_mono ((hb rfl).go s₁ F₁) (fun f s' h => by have z := holds_after h; cases f <;> exact z) fun _ _ x => x
    | false => exact wpAny_mono ((ho rfl).go s₁ F₁) (fun f s' h => by have z := holds_after h; cases f <;> exact z) fun _ _ x => x)

theorem run_while {t : Expr} {body rest : List Stmt} {pos : Pos} {P : PQ} (J : Nat → Env0 → Sto → Prop) (Jx Jb : Env0 → Sto → Prop) (h0 : ∃ n, J n C.ρ C.μ)
    (turn : ∀ n W ρ μ, J n ρ μ → ∃ b, EvT prog w H A ⟨C.env, C.s0, C.X, W, ρ, μ, C.τ, C.κ, C.B⟩ t b ∧
      (b = true → Run prog w H A ⟨C.env, C.s0, C.X, W, ρ, μ, C.τ, C.κ, C.B⟩ body ⟨fun ρ' μ' => ∃ m, m < n ∧ J m ρ' μ', fun ρ' μ' => ∃ m, m < n ∧ J m ρ' μ', Jb, P.ret⟩) ∧ (b = false → Jx ρ μ))
    (fin : ∀ W ρ μ, (Jx ρ μ ∨ Jb ρ μ) → Run prog w H A ⟨C.env, C.s0, C.X, W, ρ, μ, C.τ, C.κ, C.B⟩ rest P) : Run prog w H A C (.While t body [] pos :: rest) P := by
  refine run_one fun s F => wpAny_While ?_
  obtain ⟨n, h0⟩ := h0
  refine codeAny_whileLoop (I := fun n s' => ∃ W ρ μ, J n ρ μ ∧ FS H ⟨C.env, C.s0, C.X, W, ρ, μ, C.τ, C.κ, C.B⟩ s') ?_ n ⟨C.W, C.ρ, C.μ, h0, F⟩
  rintro n s' ⟨W, ρ, μ, hJ, F'⟩
  obtain ⟨b, ht, htrue, hfalse⟩ := turn n W ρ μ hJ
  refine ht s' _ _ F' fun s₁ k₁ F₁ => ?_
  cases b with
  | true =>
    refine wpAny_mono ((htrue rfl).go s₁ F₁) (fun f s₂ h => ?_) fun _ _ x => x.elim
    obtain ⟨W₂, ρ₂, μ₂, b, c⟩ := h
    cases f with
    | next => obtain ⟨m, hm, hJ'⟩ := c; exact ⟨m, hm, W₂, ρ₂, μ₂, hJ', b⟩
    | cont => obtain ⟨m, hm, hJ'⟩ := c; exact ⟨m, hm, W₂, ρ₂, μ₂, hJ', b⟩
    | brk => exact (fin W₂ ρ₂ μ₂ (.inr c)).go s₂ b
    | ret v => exact ⟨W₂, ρ₂, μ₂, b, c⟩
  | false =>
    refine wpAny_execs_nil ?_
    exact (fin W ρ μ (.inl (hfalse rfl))).go s₁ F₁

/-! for -/
def GoodT (t : Expr) (v : Value) : Prop := (∃ x p, t = .Name x p) ∨ (∃ es k p T, t = .Tuple es k p ∧ v = .ref T)
/-- an iterator over the values ps -/
structure Wk (prog : Program) (w : World) (H : Heap) (A : Around) (I : Addr) (ps : List PV) (Ok : Cf → Prop) (St : Nat → Heap → Prop) : Prop where
  stay : ∀ i h h', St i h → (∀ o, h.get? I = some o → h'.get? I = some o) → St i h'
  item : ∀ i p (C : Cf) s (Q : Option Value → Shared → Prop) (E : Value → Shared → Prop), ps[i]? = some p → FS H C s → Ok C → St i s.heap →
    (∀ v h' tk, Rep s.heap C.W p v → St (i + 1) h' → Ext [I] s.heap h' → (∃ o, h'.get? I = some o) → (0 < s.toks → 0 < tk) → Q (some v) { s with heap := h', toks := tk }) → wpAny (model prog w) A (pyNext (.ref I)) Q E s
  done : ∀ (C : Cf) s (Q : Option Value → Shared → Prop) (E : Value → Shared → Prop), FS H C s → Ok C → St ps.length s.heap →
    (∀ h' tk, Ext [I] s.heap h' → (0 < s.toks → 0 < tk) → Q none { s with heap := h', toks := tk }) → wpAny (model prog w) A (pyNext (.ref I)) Q E s
  self : ∀ i s (Q : Value → Shared → Prop) (E : Value → Shared → Prop), St i s.heap → Q (.ref I) s → wpAny (model prog w) A (pyIter (.ref I)) Q E s
  go : ∀ i s t v (Q : Unit → Shared → Prop) (E : Value → Shared → Prop), St i s.heap → GoodT t v → Q () s → wpAny (model prog w) A (letOwnedTupleGo t (.ref I) v) Q E s

/-- the expression, and the iterator over it -/
def Itr (prog : Program) (w : World) (H : Heap) (A : Around) (C : Cf) (e : Expr) (ps : List PV) (need : Sto) : Prop :=
  ∀ (s : Shared) (Q : Value → Shared → Prop) (E : Value → Shared → Prop), FS H C s →
    (∀ I St τ s', KeepS s s' → s.heap.get? I = none → (∃ o, s'.heap.get? I = some o) → FS H { C with τ := τ, W := I :: C.W } s' → (∀ p ∈ C.τ, p ∈ τ) →
      Wk prog w H A I ps (fun C' => C'.τ = τ ∧ ∀ q ∈ need, q ∈ C'.μ ++ C'.κ) St → St 0 s'.heap → Q (.ref I) s') → wpAny (model prog w) A (eval e C.env) (fun x s₁ => wpAny (model prog w) A (pyIter x) Q E s₁) E s

theorem FZ.close {H : Heap} {C : Cf} {s : Shared} (F : FZ H C s) {I : Addr} {h' : Heap} {tk : Nat} (hI : I ∈ C.W) (ho : I ∉ allL C.env (C.μ ++ C.κ)) (h0 : C.s0.heap.get? I = none) (hB : ∀ b ∈ C.B, b ≠ I)
    (e : Ext [I] s.heap h') : FZ H { C with W := C.W.filter (· != I) } { s with heap := h', toks := tk } := by
  have kp : ∀ b o, b ≠ I → s.heap.get? b = some o → h'.get? b = some o := fun b o n q => e b o (by simpa using n) q
  have mW : ∀ b, b ∈ C.W.filter (· != I) → b ∈ C.W ∧ b ≠ I := fun b q => by
    obtain ⟨q1, q2⟩ := List.mem_filter.mp q
    exact ⟨q1, by simpa using q2⟩
  have kR : ∀ a o, a ∉ C.W → s.heap.get? a = some o → a ∉ C.W.filter (· != I) ∧ h'.get? a = some o := fun a o n q => ⟨fun z => n (mW a z).1, kp a o (fun z => n (z ▸ hI)) q⟩
  have kO : ∀ b ∈ allL C.env (C.μ ++ C.κ), b ≠ I := fun b q z => ho (z ▸ q)
  obtain ⟨⟨h, t, e1⟩, a2, a3, a4, a5, ⟨m, cm, b1, b2, b3⟩, a7, a8, aX, aB, a9, a10, aT, a11⟩ := F
  refine ⟨⟨h', tk, by rw [e1]⟩, fun b o n q => kp b o ?_ (a2 b o n q), fun b o q => kp b o ?_ (a3 b o q), fun b q => a4 b (mW b q).1, fun b q => ?_, ⟨m, cm, b1.at' fun o q => kp _ o (kO _ (own_all own_loc)) q, fun n c q => isCell_keep (b2 n c q) fun o z => kp c o (kO _ (all_cell q)) z,
    fun y pv q => ?_⟩, fun p hp => ?_, fun b q => List.mem_filter.mpr ⟨a8 b q, by simpa using kO b q⟩, aX, fun b q => List.mem_filter.mpr ⟨aB b q, by simpa using hB b q⟩, a9, a10, fun p hp => (aT p hp).imp kR, a11⟩
  · rintro rfl; rw [h0] at q; cases q
  · rintro rfl; rw [a4 _ hI] at q; cases q
  · obtain ⟨o, z⟩ := a5 b (mW b q).1; exact ⟨o, kp b o (mW b q).2 z⟩
  · obtain ⟨v, z1, z2⟩ := b3 y pv q
    exact ⟨v, z1, z2.imp kR⟩
  · obtain ⟨vs, z1, z2⟩ := a7 p hp
    exact ⟨vs, plain_keep z1 fun o z => kp _ o (kO _ (all_list (l := p.2) hp)) z, z2.imp kR⟩

theorem FS.close {H : Heap} {C : Cf} {s : Shared} (F : FS H C s) {I : Addr} {h' : Heap} {tk : Nat} (hI : I ∈ C.W) (ho : I ∉ allL C.env (C.μ ++ C.κ)) (h0 : C.s0.heap.get? I = none) (hB : ∀ b ∈ C.B, b ≠ I)
    (e : Ext [I] s.heap h') (ht : 0 < s.toks → 0 < tk) : FS H { C with W := C.W.filter (· != I) } { s with heap := h', toks := tk } := ⟨F.z.close hI ho h0 hB e, fun h => ht (F.tk h), fun h => ht (F.up h)⟩
theorem run_for {t iter : Expr} {body rest : List Stmt} {pos : Pos} {P : PQ} {ps : List PV} {need : Sto} (hi : Itr prog w H A C iter ps need) (J : Nat → Env0 → Sto → Prop) (Jb : Env0 → Sto → Prop)
    (h0 : J 0 C.ρ C.μ) (hok : ∀ i ρ μ, J i ρ μ → ∀ q ∈ need, q ∈ μ ++ C.κ)
    (step : ∀ i p s0 W ρ μ τ B, ps[i]? = some p → J i ρ μ → ∃ ρ', (∀ v h, Rep h W p v → GoodT t v) ∧ Asg prog w H A ⟨C.env, s0, ownL C.env μ, W, ρ, μ, τ, C.κ, B⟩ t p ρ' ∧
      Run prog w H A ⟨C.env, s0, ownL C.env μ, W, ρ', μ, τ, C.κ, B⟩ body ⟨J (i + 1), J (i + 1), Jb, P.ret⟩)
    (fin : ∀ W ρ μ, (J ps.length ρ μ ∨ Jb ρ μ) → Run prog w H A ⟨C.env, C.s0, C.X, W, ρ, μ, C.τ, C.κ, C.B⟩ rest P)
    (hs : ∀ x, foldedSetIterable iter C.env x = pure x := by intro _; rfl) : Run prog w H A C (.For t iter body [] pos :: rest) P := by
  refine run_one fun s F => wpAny_For (hi s _ _ F fun I St τ s₁ k₁ n₁ al₁ F₁ kτ W₁ st₁ => ?_) hs
  have nW : I ∉ C.W := not_mem_of_none F n₁
  have nX : I ∉ C.X := fun q => nW (F.xW _ q)
  have hI0 : C.s0.heap.get? I = none := by
    cases q : C.s0.heap.get? I with
    | none => rfl
    | some o => rw [F.ext I o nX q] at n₁; cases n₁
  have nO : I ∉ allL C.env (C.μ ++ C.κ) := fun q => nW (F.inW _ q)
  refine codeAny_forLoop_any (I := fun n s' => ∃ i W ρ μ, n = ps.length + 1 - i ∧ i ≤ ps.length ∧ J i ρ μ ∧ I ∈ W ∧ I ∉ allL C.env (μ ++ C.κ) ∧ St i s'.heap ∧ FS H ⟨C.env, C.s0, C.X, W, ρ, μ, τ, C.κ, C.B⟩ s') ?_ (ps.length + 1)
    ⟨0, I :: C.W, C.ρ, C.μ, rfl, Nat.zero_le _, h0, .head _, nO, st₁, F₁⟩
  rintro n s₂ ⟨i, W, ρ, μ, rfl, hi', hJ, hIW, hIO, hst, F₂⟩
  by_cases hlt : i < ps.length
  · refine W₁.item i ps[i] _ s₂ _ _ (List.getElem?_eq_getElem hlt) F₂ ⟨rfl, hok i ρ μ hJ⟩ hst fun v h' tk r st' e' al' ht' => ?_
    have F₃ : FS H ⟨C.env, C.s0, C.X, W, ρ, μ, τ, C.κ, C.B⟩ { s₂ with heap := h', toks := tk } := F₂.touch hIW hIO (.inr hI0) e' al' ht'
    have r₃ : Rep h' W ps[i] v := r.ext e' fun b q => by simp at q; subst q; exact hIW
    have F₄ := F₃.rebase [I] (fun b q => by simp at q; subst q; exact hIW)
    obtain ⟨ρ', hg, ha, hr⟩ := step i ps[i] _ W ρ μ τ _ (List.getElem?_eq_getElem hlt) hJ
    refine W₁.go _ _ _ _ _ _ st' (hg v _ r₃) ?_
    refine ha _ v _ _ F₄ r₃ fun s₅ F₅ => ?_
    refine wpAny_mono (hr.go s₅ F₅) (fun f s₆ h => ?_) fun _ _ x => x.elim
    obtain ⟨W₆, ρ₆, μ₆, F₆, hp⟩ := h
    have al6 : ∀ o, h'.get? I = some o → s₆.heap.get? I = some o := fun o q => F₆.ext I o (fun z => hIO (own_all z)) q
    have G := FS.unbase (C := ⟨C.env, C.s0, C.X, W, ρ, μ, τ, C.κ, C.B⟩) F₃ F₆
    have hIW6 : I ∈ W₆ := F₆.bW I (.head _)
    have hIO6 : I ∉ allL C.env (μ₆ ++ C.κ) := fun q => by
      have q' : I ∈ ownL C.env μ₆ := by
        rcases List.mem_cons.mp q with q | q
        · rw [q]; exact own_loc
        · rcases List.mem_append.mp q with q | q
          · exact absurd (List.mem_cons_of_mem _ (List.mem_append_left _ q)) hIO
          · rw [List.map_append] at q
            rcases List.mem_append.mp q with q | q
            · exact .tail _ (List.mem_append_right _ q)
            · exact absurd (List.mem_cons_of_mem _ (List.mem_append_right _ (by rw [List.map_append]; exact List.mem_append_right _ q))) hIO
      rcases F₆.mine I q' with z | z
      · exact hIO (own_all z)
      · obtain ⟨o, al'⟩ := al'
        rw [show h'.get? I = none from z] at al'; cases al'
    have next : J (i + 1) ρ₆ μ₆ → ∃ m, m < ps.length + 1 - i ∧ ∃ i W ρ μ, m = ps.length + 1 - i ∧ i ≤ ps.length ∧ J i ρ μ ∧ I ∈ W ∧ I ∉ allL C.env (μ ++ C.κ) ∧ St i s₆.heap ∧ FS H ⟨C.env, C.s0, C.X, W, ρ, μ, τ, C.κ, C.B⟩ s₆ := fun hJ' =>
      ⟨ps.length + 1 - (i + 1), by omega, i + 1, W₆, ρ₆, μ₆, rfl, hlt, hJ', hIW6, hIO6, W₁.stay _ _ _ st' al6, G⟩
    cases f with
    | next => exact next hp
    | cont => exact next hp
    | brk => exact (fin W₆ ρ₆ μ₆ (.inr hp)).go s₆ (G.untemp kτ)
    | ret v => exact ⟨W₆, ρ₆, μ₆, G.untemp kτ, hp⟩
  · have hin : i = ps.length := by omega
    subst hin
    refine W₁.done _ s₂ _ _ F₂ ⟨rfl, hok _ ρ μ hJ⟩ hst fun h' tk e' ht' => wpAny_execs_nil ?_
    have F₃ := FS.close F₂ (tk := tk) hIW hIO hI0 (fun b q z => nW (z ▸ F.bW b q)) e' ht'
    exact (fin _ ρ μ (.inl hJ)).go _ (F₃.untemp kτ)
end
end Mine

end

section
open PySem PySem.W PyProof.Rows PySem.Calls
namespace Mine
section
variable {prog : Program} {w : World} {K : Frag} {H : Heap} {A : Around} {C : Cf}

theorem ltg_other {M : Model} {E : Value → Shared → Prop} {I : Addr} {o : Obj} {T : String} {t : Expr} {v : Value} {s : Shared} {Q : Unit → Shared → Prop} (ho : s.heap.get? I = some o) (hc : o.cls = .type T) {vs : Array Value} (hd : o.data = .fields vs)
    (hT : (["enumerate", "zip", "dict_itemiterator", "dict_reverseitemiterator", "odict_iterator", "itertools.zip_longest", "itertools.pairwise"].contains T) = false) (g : GoodT t v) (q : Q () s) : wpAny M A (letOwnedTupleGo t (.ref I) v) Q E s := by
  rcases g with ⟨x, p, rfl⟩ | ⟨es, k, p, T', rfl, rfl⟩
  · exact wpAny_pure q
  · unfold letOwnedTupleGo
    refine wpAny_bind (wpAny_load ho ?_)
    rw [hc, hd]
    show wpAny _ A (if (["enumerate", "zip", "dict_itemiterator", "dict_reverseitemiterator", "odict_iterator", "itertools.zip_longest", "itertools.pairwise"].contains T && _) = true then _ else _) Q E s
    rw [hT, Bool.false_and, if_neg (by decide)]
    exact wpAny_pure q

theorem listIter_at {h h' : Heap} {a l : Addr} {i : Nat} (x : h.IsListIter a l i) (e : ∀ o, h.get? a = some o → h'.get? a = some o) : h'.IsListIter a l i := let ⟨o, ho, r⟩ := x; ⟨o, e o ho, r⟩

theorem wk_list {I ax : Addr} {ps : List PV} {Ok : Cf → Prop} (hh : A.handled = none)
    (hok : ∀ C s, FS H C s → Ok C → ∃ vs : List Value, s.heap.PlainList ax vs.toArray ∧ RepL s.heap C.W ps vs) :
    Wk prog w H A I ps Ok (fun i h => h.IsListIter I ax i) where
  stay := fun i h h' st k => listIter_at st k
  item := fun i p C s Q E hp F ok st k => by
    obtain ⟨vs, hl, r⟩ := hok C s F ok
    obtain ⟨v, hv, rv⟩ := r.get hp
    refine wpAny_pyNext_list_item st hl.isList (x := v) (by simpa using hv) fun h' st' hs => ?_
    exact k v h' s.toks rv st' (Ext.of_same hs) (let ⟨o, z, _⟩ := st'; ⟨o, z⟩) (fun h => h)
  done := fun C s Q E F ok st k => by
    obtain ⟨vs, hl, r⟩ := hok C s F ok
    refine wpAny_pyNext_list_end hh st hl.isList (by simp [r.length]) fun h' he => ?_
    exact k h' s.toks (fun b o n e => he b o (by simpa using n) e) (fun h => h)
  self := fun i s Q E st q => wpAny_pyIter_listiter st q
  go := fun i s t v Q E st g q => by
    obtain ⟨o, ho, hc, hd⟩ := st
    exact ltg_other ho hc hd (by decide) g q

theorem none_back {s s' : Shared} (k : KeepS s s') {a : Addr} (n : s'.heap.get? a = none) : s.heap.get? a = none := by
  cases q : s.heap.get? a with
  | none => rfl
  | some o => rw [k.keep a o q] at n; cases n

theorem itr_list {e : Expr} {ps : List PV} (hh : A.handled = none) (he : Ev prog w H A C e (.lst ps)) : Itr prog w H A C e ps [] := fun s Q E F k =>
  he s _ E F fun v s₁ k₁ F₁ r₁ => by
    have r₀ := r₁
    simp only [Rep] at r₁
    obtain ⟨ax, vs, rfl, na, hl, rl⟩ := r₁
    refine wpAny_pyIter_list hl.isList ?_
    have n := get_size_none s₁.heap
    refine k s₁.heap.objs.size (fun i h => h.IsListIter s₁.heap.objs.size ax i) ((.lst ps, .ref ax) :: C.τ) _ (k₁.trans .push) (none_back k₁ n) ⟨_, Heap.get?_push_size _ rfl⟩ ((F₁.temp r₀).widen n .push ⟨_, Heap.get?_push_size _ rfl⟩) (fun _ q => .tail _ q)
      (wk_list hh ?_) ⟨_, Heap.get?_push_size _ rfl, rfl, rfl⟩
    rintro C' s' F' ⟨hτ, _⟩
    have := F'.temps (.lst ps, .ref ax) (by rw [hτ]; exact .head _)
    simp only [Rep] at this
    obtain ⟨a', vs', e', _, x, y⟩ := this
    cases e'
    exact ⟨vs', x, y⟩
theorem itr_mut {e : Expr} {ax : Addr} {ps : List PV} (hh : A.handled = none) (he : Ev prog w H A C e (.ref ax)) (hm : (ax, ps) ∈ C.μ ++ C.κ) : Itr prog w H A C e ps [(ax, ps)] := fun s Q E F k =>
  he s _ E F fun v s₁ k₁ F₁ r₁ => by
    simp only [Rep] at r₁
    subst r₁
    obtain ⟨vs, hl, rl⟩ := F₁.lists _ hm
    refine wpAny_pyIter_list hl.isList ?_
    have n := get_size_none s₁.heap
    refine k s₁.heap.objs.size (fun i h => h.IsListIter s₁.heap.objs.size ax i) C.τ _ (k₁.trans .push) (none_back k₁ n) ⟨_, Heap.get?_push_size _ rfl⟩ (F₁.widen n .push ⟨_, Heap.get?_push_size _ rfl⟩) (fun _ q => q)
      (wk_list hh fun C' s' F' ok => F'.lists _ (ok.2 _ (.head _))) ⟨_, Heap.get?_push_size _ rfl, rfl, rfl⟩

/-- the ints from 0 on -/
def rangeL (n : Nat) : List PV := (List.range n).map fun (i : Nat) => PV.int (i : Int)
theorem rangeL_get {n i : Nat} {p : PV} (h : (rangeL n)[i]? = some p) : i < n ∧ p = .int i := by
  unfold rangeL at h
  rw [List.getElem?_map] at h
  cases q : (List.range n)[i]? with
  | none => rw [q] at h; cases h
  | some j =>
    rw [q] at h
    obtain ⟨hl, hj⟩ := List.getElem?_eq_some_iff.mp q
    simp at hj hl
    subst hj
    simp at h
    exact ⟨hl, h.symm⟩
theorem rangeL_length {n : Nat} : (rangeL n).length = n := by simp [rangeL]

theorem wk_range {I : Addr} {n : Nat} {Ok : Cf → Prop} (hh : A.handled = none) : Wk prog w H A I (rangeL n) Ok (fun i h => IsRangeIter h I (i : Nat) ((n : Int) - (i : Nat)) 1) where
  stay := fun i h h' st k => k _ st
  item := fun i p C s Q E hp F ok st k => by
    obtain ⟨hi, rfl⟩ := rangeL_get hp
    refine wpAny_pyNext_range_item st (by omega) fun h' st' hs => ?_
    have e2 : (n : Int) - ((i + 1 : Nat) : Int) = (n : Int) - (i : Int) - 1 := by omega
    refine k _ h' _ (by simp only [Rep]; exact ⟨_, rfl⟩) ?_ (Ext.of_same hs) ⟨_, st'⟩ (by first | exact fun _ => Nat.succ_pos _ | exact fun h => h)
    have e1 : ((i + 1 : Nat) : Int) = (i : Int) + 1 := by omega
    rw [e2, e1]; exact st'
  done := fun C s Q E F ok st k => by
    rw [rangeL_length] at st
    refine wpAny_pyNext_range_end hh st (by omega) fun h' he => ?_
    exact k h' s.toks (fun b o n e => he b o (by simpa using n) e) (fun h => h)
  self := fun i s Q E st q => wpAny_pyIter_rangeiter st q
  go := fun i s t v Q E st g q => ltg_other st rfl rfl (by decide) g q

theorem range_small : ∀ n : Nat, n < 40 → Builtin.Range.small 0 (n : Int) 1 = true := by decide +kernel
theorem range_size : ∀ n : Nat, n < 40 → Builtin.Range.rangeSize 0 (n : Int) 1 = (n : Int) := by decide +kernel
theorem itr_range {f e : Expr} {pos : Pos} {n : Nat} (hh : A.handled = none) (hn : n < 40) (hf : Ev prog w H A C f (.typ "range")) (he : Ev prog w H A C e (.int n))
    (hc : eval (.Call f [e] [] pos) C.env = (do callWith pos (← eval f C.env) [] (backTo pos (starEach [e] C.env)) (backToKw pos (keywordEach [] C.env))) := by rfl)
    (hs : starEach [e] C.env = (false, eval e C.env) :: starEach [] C.env := by rfl) : Itr prog w H A C (.Call f [e] [] pos) (rangeL n) [] := fun s Q E F k =>
  Call_ (hf s _ E F fun u s₁ k₁ F₁ r₁ => by
    simp only [Rep] at r₁
    subst r₁
    refine Pv.callWith_type1 ((evl_cons he evl_nil hs) pos s₁ _ E F₁ fun vs s₂ k₂ F₂ r₂ => ?_) hs rfl
    simp only [RepL, Rep] at r₂
    obtain ⟨v, r, rfl, ⟨t, rfl⟩, rfl⟩ := r₂
    refine call_range_1 ?_
    refine wpAny_pyIter_range (IsRange.new _ _ _ _ _ _ _) (range_small n hn) ?_
    rw [range_size n hn]
    generalize hs3 : ({ s₂ with heap := s₂.heap.push { cls := .type "range", data := .fields #[.int 0 s₂.toks, .int n t, .int 1 (s₂.toks + 1)] }, toks := s₂.toks + 1 + 1 } : Shared) = s₃
    have k₃ : KeepS s₂ s₃ := by subst hs3; exact .of (fun _ _ e => Heap.get?_push_of_some _ e) (fun _ => Nat.succ_pos _)
    have n₃ := get_size_none s₃.heap
    have al : ∃ o, (s₃.heap.push { cls := .type "range_iterator", data := .fields #[rawInt 0, rawInt n, rawInt 1] }).get? s₃.heap.objs.size = some o := ⟨_, Heap.get?_push_size _ rfl⟩
    have F₄ := (F₂.keeps k₃).widen n₃ (KeepS.push (o := { cls := .type "range_iterator", data := .fields #[rawInt 0, rawInt n, rawInt 1] })) al
    have z := k s₃.heap.objs.size (fun i h => IsRangeIter h s₃.heap.objs.size (i : Nat) ((n : Int) - (i : Nat)) 1) C.τ _ (((k₁.trans k₂).trans k₃).trans .push) (none_back ((k₁.trans k₂).trans k₃) n₃) al
      F₄ (fun _ q => q) (wk_range hh) (Heap.get?_push_size _ rfl)
    exact z) hc
end
end Mine

end

section
open PySem PySem.W PyProof.Rows PySem.Calls
namespace Mine
section
variable {prog : Program} {w : World} {K : Frag} {H : Heap} {A : Around} {C : Cf}

abbrev testsOf (env : Env) (ifs : List Expr) : Sem Bool := forIn ifs true fun c r => if r = true then do let ok ← isTrue c env (eval c env); pure (ForInStep.yield ok) else pure (ForInStep.yield r)

theorem comp_loop {R : Result → Shared → Prop} {s : Shared} {elt target iter : Expr} {ifs : List Expr} {scope : Scope} {pos : Pos} {it acc : Value} {env : Env} (I : Nat → Shared → Prop)
    (turn : ∀ n s, I n s → wpAny (model prog w) A (pyNext it) (fun r s₁ => match r with
      | none => R (.ok .next) s₁
      | some v => wpAny (model prog w) A (letOwnedTupleGo target it v) (fun _ s₁' => wpAny (model prog w) A (assign target env v) (fun _ s₂ =>
          wpAny (model prog w) A (testsOf env ifs) (fun ok s₃ =>
            if ok = true then wpAny (model prog w) A (eval elt env) (fun x s₄ =>
              wpAny (model prog w) A (call (.builtin "list.append") [acc, x]) (fun _ s₅ => ∃ m, m < n ∧ I m s₅) (fun _ _ => False) s₄) (fun _ _ => False) s₃
            else ∃ m, m < n ∧ I m s₃) (fun _ _ => False) s₂) (fun _ _ => False) s₁') (fun _ _ => False) s₁) (fun _ _ => False) s)
    (n : Nat) (h : I n s) : codeAny (model prog w) A (.compLoop (.ListComp elt [⟨target, iter, ifs, 0⟩] scope pos) 0 it acc env) R s := by
  refine codeAny_loop rfl I (fun n s hI => ?_) n h
  show wpAny _ A ((compTurn (.ListComp elt [⟨target, iter, ifs, 0⟩] scope pos) 0 it acc env).onRaise (fun x => do noteFrame x env; theTreesLotGoes x)) _ _ s
  refine wpAny_noted ?_
  rw [compTurn_list]
  refine wpAny_bind (wpAny_standAt (wpAny_bind (wpAny_mono (turn n s hI) (fun r s₁ h₁ => ?_) fun _ _ h' => h'.elim)))
  cases r with
  | none => exact wpAny_pure h₁
  | some v =>
    refine wpAny_bind (wpAny_mono h₁ (fun _ s₁' h₁' => ?_) fun _ _ h' => h'.elim)
    refine wpAny_bind (wpAny_mono h₁' (fun _ s₂ h₂ => wpAny_bind (wpAny_mono h₂ (fun ok s₃ h₃ => ?_) fun _ _ h' => h'.elim)) fun _ _ h' => h'.elim)
    cases ok with
    | false => exact wpAny_pure ⟨rfl, h₃⟩
    | true =>
      exact wpAny_bind (wpAny_bind (wpAny_mono h₃ (fun x s₄ h₄ => wpAny_bind (wpAny_mono h₄ (fun _ s₅ h₅ => wpAny_pure (wpAny_pure ⟨rfl, h₅⟩)) fun _ _ h' => h'.elim)) fun _ _ h' => h'.elim))

def ρI (C : Cf) (cl : List (Str × Addr)) : Env0 := fun y => match cl.lookup y with | some _ => C.ρ y | none => none
/-- the comprehension's own frame -/
def cfI (C : Cf) (scope : Scope) (cl : List (Str × Addr)) (ρ : Env0) (D Cx : Addr) (s0 : Shared) (X W : List Addr) (acc : List PV) (τ : List (PV × Value)) (B : List Addr) : Cf :=
  ⟨compEnvC scope cl Cx C.env, s0, X, W, ρ, [(D, acc)], τ, C.μ ++ C.κ, B⟩

def Tst (prog : Program) (w : World) (H : Heap) (A : Around) (C : Cf) (ifs : List Expr) (b : Bool) : Prop :=
  ∀ (s : Shared) (Q : Bool → Shared → Prop) (E : Value → Shared → Prop), FS H C s → (∀ s', KeepS s s' → FS H C s' → Q b s') → wpAny (model prog w) A (testsOf C.env ifs) Q E s
theorem tst_nil : Tst prog w H A C [] true := fun s Q E F k => wpAny_tests_nil (k s .refl F)
theorem tst_one {c : Expr} {b : Bool} (h : EvT prog w H A C c b) : Tst prog w H A C [c] b := fun s Q E F k => wpAny_tests_one (h s Q E F k)

/-- what is to be shown of the comprehension's parts -/
def CompIn (prog : Program) (w : World) (H : Heap) (A : Around) (C : Cf) (scope : Scope) (cl : List (Str × Addr)) (target : Expr) (ifs : List Expr) (elt : Expr) (ps : List PV) (ρv : PV → Env0 → Env0) (b : PV → Bool) (f : PV → PV) : Prop :=
  ∀ p ∈ ps, ∀ D Cx s0 X W acc τ B, (∀ v h, Rep h W p v → GoodT target v) ∧ (∀ x pv, ρI C cl x = some pv → ρv p (ρI C cl) x = some pv) ∧ Asg prog w H A (cfI C scope cl (ρI C cl) D Cx s0 X W acc τ B) target p (ρv p (ρI C cl)) ∧
    Tst prog w H A (cfI C scope cl (ρv p (ρI C cl)) D Cx s0 X W acc τ B) ifs (b p) ∧ (b p = true → Ev prog w H A (cfI C scope cl (ρv p (ρI C cl)) D Cx s0 X W acc τ B) elt (f p))

theorem ρI_sub {cl : List (Str × Addr)} {x : Str} {p : PV} (h : cl.lookup x = none) : ∀ y pv, ρI C cl y = some pv → upd (ρI C cl) x p y = some pv := fun y pv q => by
  unfold upd
  by_cases hy : y = x
  · subst hy
    unfold ρI at q
    rw [h] at q
    cases q
  · rw [if_neg hy]; exact q
theorem filter_take_succ {α : Type} (q : α → Bool) (l : List α) (i : Nat) (v : α) (h : l[i]? = some v) : (l.take (i + 1)).filter q = (l.take i).filter q ++ (if q v then [v] else []) := by
  rw [List.take_add_one, h, List.filter_append]
  cases hp : q v <;> simp [hp]

theorem comp_block {scope : Scope} {cl : List (Str × Addr)} {target iter elt : Expr} {ifs : List Expr} {pos : Pos} {ps : List PV} {ρv : PV → Env0 → Env0} {b : PV → Bool} {f : PV → PV} {need : Sto}
    {I : Addr} {St : Nat → Heap → Prop} {τ : List (PV × Value)} {s₂ : Shared} {E : Value → Shared → Prop} {RR : Value → Addr → Result → Shared → Prop}
    (hcl : cl.map (fun p => C.env.cells.lookup p.1) = cl.map (fun p => some p.2)) (hcell : ∀ y ∈ scope.names, y.2 ≠ .cell) (hkind : scope.kind = .function) (hn : ps.length ≤ 1000)
    (hsub : ∀ b ∈ allL C.env (C.μ ++ C.κ), b ∈ C.W) (hI : I ∉ C.W) (F₂ : FS H { C with τ := τ, W := I :: C.W } s₂) (hneed : ∀ q ∈ need, q ∈ C.μ ++ C.κ) (Wk₁ : Wk prog w H A I ps (fun C' => C'.τ = τ ∧ ∀ q ∈ need, q ∈ C'.μ ++ C'.κ) St) (st₀ : St 0 s₂.heap)
    (hin : CompIn prog w H A C scope cl target ifs elt ps ρv b f)
    (hRR : ∀ D Cx s' vs m, s₂.heap.get? D = none → s₂.heap.get? Cx = none → D ≠ Cx → s'.heap.Ns Cx m → s'.heap.PlainList D (List.toArray vs) → RepL s'.heap (Cx :: D :: I :: C.W) ((ps.filter b).map f) vs →
      (∃ h t, s' = { s₂ with heap := h, toks := t }) → (0 < s₂.toks → 0 < s'.toks) → Ext [I] s₂.heap s'.heap → RR (.ref D) Cx (.ok .next) s') :
    wpAny (model prog w) A (newList []) (fun acc s₃ => wpAny (model prog w) A (newFunctionEnv scope C.env.globals cl [] C.env.qual none .none (some C.env)) (fun cenv s₄ =>
      codeAny (model prog w) A (.compStart (.ListComp elt [⟨target, iter, ifs, 0⟩] scope pos) 0 (.ref I) acc { cenv with scope := relabel scope C.env }) (RR acc cenv.locals) s₄) E s₃) E s₂ := by
  refine wpAny_newObj_type (wpAny_newFunctionEnv hcell (by intro y hy; simp at hy) (fun h₁ hns₁ hsb₁ => ?_) hkind)
  dsimp only at hns₁ hsb₁ ⊢
  generalize hH2 : s₂.heap.push { cls := .type "list", dict := none, data := .seq ([] : List Value).toArray } = H2 at hns₁ hsb₁ ⊢
  have hC : H2.objs.size = s₂.heap.objs.size + 1 := by rw [← hH2, Heap.size_push]
  generalize hD : s₂.heap.objs.size = D at hC ⊢
  generalize hCx : H2.objs.size = Cx at hns₁ hsb₁ hC ⊢
  have hDC : D ≠ Cx := by rw [hC]; exact Nat.ne_of_lt (Nat.lt_succ_self _)
  have nD : s₂.heap.get? D = none := by rw [← hD]; exact get_size_none _
  have nC2 : H2.get? Cx = none := by rw [← hCx]; exact get_size_none _
  have old2 : ∀ b o, s₂.heap.get? b = some o → H2.get? b = some o := fun b o e => hH2 ▸ Heap.get?_push_of_some _ e
  have nC : s₂.heap.get? Cx = none := by
    cases q : s₂.heap.get? Cx with
    | none => rfl
    | some o => rw [old2 _ _ q] at nC2; cases nC2
  have old : ∀ b o, s₂.heap.get? b = some o → h₁.get? b = some o := fun b o e =>
    hsb₁.extBut b o (fun q => by rw [q, nC] at e; cases e) (Heap.get?_push_of_some _ (old2 b o e))
  have hplD : h₁.PlainList D (List.toArray []) := by
    have : H2.get? D = some { cls := .type "list", dict := none, data := .seq ([] : List Value).toArray } := by rw [← hH2, ← hD]; exact Heap.get?_push_size _ rfl
    exact ⟨0, hsb₁.extBut _ _ hDC (Heap.get?_push_of_some _ this)⟩
  have kh : KeepS s₂ { s₂ with heap := h₁, toks := s₂.toks + ([] : List (Str × Value)).length } := .of old
  -- the frame's facts
  have start : FS H (cfI C scope cl (ρI C cl) D Cx s₂ [I] (Cx :: D :: I :: C.W) [] τ [I]) { s₂ with heap := h₁, toks := s₂.toks + ([] : List (Str × Value)).length } := by
    have alD : ∃ o, h₁.get? D = some o := let ⟨n, e⟩ := hplD; ⟨_, e⟩
    have alC : ∃ o, h₁.get? Cx = some o := let ⟨o, _, _, e, _⟩ := hns₁; ⟨o, e⟩
    have F₃ := F₂.widen nD (KeepS.refl (s := s₂))
    have G := F₂.keeps kh
    have Gtk := G.tk
    obtain ⟨a1, a2, a3, a4, a5, ⟨m, cm, b1, b2, b3⟩, a7, a8, aX, aB, a9, a10, aT, a11⟩ := G.z
    obtain ⟨z1, z2, z3, z4, z5, ⟨zm, zcm, zb1, zb2, zb3⟩, z7, z8, zX, zB, z9, z10, zT, z11⟩ := F₂.z
    have memcl : ∀ n c, cl.lookup n = some c → C.env.cells.lookup n = some c := fun n c q => by
      have q' := mem_of_lookup q
      have := List.map_inj_left.mp hcl _ q'
      exact this
    have up : ∀ {p v}, Rep s₂.heap (I :: C.W) p v → Rep h₁ (Cx :: D :: I :: C.W) p v := fun r => ((r.more nD).more nC).keeps old
    have upL : ∀ {p v}, RepL s₂.heap (I :: C.W) p v → RepL h₁ (Cx :: D :: I :: C.W) p v := fun r => ((r.more nD).more nC).keeps old
    refine ⟨?_, Gtk, fun h => h⟩
    refine ⟨⟨_, _, rfl⟩, Ext.of_keeps old, a3, fun x q => ?_, fun x q => ?_, ⟨fun _ => none, cm, ?_, fun n c q => ?_, fun y pv q => ?_⟩, fun p hp => ?_, fun x q => ?_, fun _ q => q, fun x q => ?_, fun n n' c q q' => z9 n n' c (memcl n c q) (memcl n' c q'), ?_, fun p hp => up (zT p hp), fun x q => ?_⟩
    · rcases List.mem_cons.mp q with rfl | q
      · cases w : H.get? x with
        | none => rfl
        | some o => rw [z3 _ _ w] at nC; cases nC
      · rcases List.mem_cons.mp q with rfl | q
        · cases w : H.get? x with
          | none => rfl
          | some o => rw [z3 _ _ w] at nD; cases nD
        · exact z4 x q
    · rcases List.mem_cons.mp q with rfl | q
      · exact alC
      · rcases List.mem_cons.mp q with rfl | q
        · exact alD
        · obtain ⟨o, e⟩ := z5 x q; exact ⟨o, old _ _ e⟩
    · exact hns₁
    · exact b2 n c (memcl n c q)
    · unfold cfI ρI at q
      dsimp only at q
      split at q
      · rename_i c hc
        obtain ⟨v, e1, e2⟩ := zb3 y pv q
        refine ⟨v, ?_, up e2⟩
        show (match cl.lookup y with | some _ => cm y | none => none) = some v
        rw [hc]
        have hy := memcl y c hc
        have e1' : (match C.env.cells.lookup y with | some _ => zcm y | none => zm y) = some v := e1
        rw [hy] at e1'
        obtain ⟨o1, p1, p2⟩ := zb2 y c hy
        obtain ⟨o2, r1, r2⟩ := b2 y c hy
        have r1' : h₁.get? c = some o2 := r1
        rw [old _ _ p1] at r1'
        cases r1'
        rw [p2] at r2
        have eq : zcm y = cm y := by injection r2
        show cm y = some v
        rw [← eq]; exact e1'
      · cases q
    · unfold cfI at hp
      dsimp only at hp
      rcases List.mem_append.mp hp with q | q
      · rcases List.mem_singleton.mp q with rfl
        exact ⟨[], hplD, .nil⟩
      · obtain ⟨vs, x, y⟩ := z7 p q
        exact ⟨vs, plain_keep x fun o e => old _ _ e, upL y⟩
    · have q' : x ∈ allL (compEnvC scope cl Cx C.env) ([(D, [])] ++ (C.μ ++ C.κ)) := q
      unfold allL at q'
      rcases List.mem_cons.mp q' with rfl | q'
      · exact .head _
      · refine .tail _ ?_
        rcases List.mem_append.mp q' with q' | q'
        · obtain ⟨⟨n, c⟩, hc, rfl⟩ := List.mem_map.mp q'
          have := List.map_inj_left.mp hcl _ hc
          exact .tail _ (z8 _ (all_cell this))
        · simp only [List.map_append, List.map_cons, List.map_nil, List.singleton_append] at q'
          rcases List.mem_cons.mp q' with rfl | q'
          · exact .head _
          · refine .tail _ (z8 _ ?_)
            unfold allL
            refine .tail _ (List.mem_append_right _ ?_)
            show x ∈ List.map _ (C.μ ++ C.κ)
            rw [List.map_append]; exact q'
    · have q' : x ∈ [I] := q
      simp at q'
      subst q'
      exact .tail _ (.tail _ (.head _))
    · show (([(D, ([] : List PV))] ++ (C.μ ++ C.κ)).map (fun (x : Addr × List PV) => x.1)).Nodup
      have z10' : ((C.μ ++ C.κ).map (·.1)).Nodup := z10
      rw [List.singleton_append, List.map_cons, List.nodup_cons]
      refine ⟨fun q => ?_, z10'⟩
      obtain ⟨p, hp, e⟩ := List.mem_map.mp q
      obtain ⟨vs, ⟨n, x⟩, _⟩ := z7 p hp
      have e' : p.1 = D := e
      rw [e', nD] at x; cases x
    · have q' : x ∈ ownL (compEnvC scope cl Cx C.env) [(D, [])] := q
      unfold ownL at q'
      have : (compEnvC scope cl Cx C.env).func.isSome = false := rfl
      rw [this] at q'
      simp only [Bool.false_eq_true, if_false, List.nil_append, List.map_cons, List.map_nil] at q'
      rcases List.mem_cons.mp q' with rfl | q'
      · exact .inr nC
      · simp at q'
        subst q'
        exact .inr nD
  have alI : ∃ o, s₂.heap.get? I = some o := F₂.live I (.head _)
  have IC : I ≠ Cx := fun q => by obtain ⟨o, e⟩ := alI; rw [q, nC] at e; cases e
  have ID : I ≠ D := fun q => by obtain ⟨o, e⟩ := alI; rw [q, nD] at e; cases e
  have nall : ∀ acc : List PV, I ∉ allL (compEnvC scope cl Cx C.env) ([(D, acc)] ++ (C.μ ++ C.κ)) := fun acc q => by
    unfold allL at q
    rcases List.mem_cons.mp q with q | q
    · exact IC q
    · rcases List.mem_append.mp q with q | q
      · obtain ⟨⟨n, c⟩, hc, e⟩ := List.mem_map.mp q
        have := List.map_inj_left.mp hcl _ hc
        have e' : c = I := e
        exact hI (e' ▸ hsub c (all_cell this))
      · rw [List.singleton_append, List.map_cons] at q
        rcases List.mem_cons.mp q with q | q
        · exact ID q
        · refine hI (hsub I ?_)
          unfold allL
          exact .tail _ (List.mem_append_right _ q)
  have nown : ∀ acc : List PV, I ∉ ownL (compEnvC scope cl Cx C.env) [(D, acc)] := fun acc q => nall acc (own_all q)
  have loop : ∀ s₃ : Shared, s₃ = { s₂ with heap := h₁, toks := s₂.toks + ([] : List (Str × Value)).length } →
      codeAny (model prog w) A (.compLoop (.ListComp elt [⟨target, iter, ifs, 0⟩] scope pos) 0 (.ref I) (.ref D) (compEnvC scope cl Cx C.env)) (RR (.ref D) Cx) s₃ := by
    rintro s₃ rfl
    have st₁ : St 0 h₁ := Wk₁.stay _ _ _ st₀ fun o e => old _ _ e
    refine comp_loop (I := fun n s' => ∃ i, n = ps.length + 1 - i ∧ i ≤ ps.length ∧ St i s'.heap ∧ FS H (cfI C scope cl (ρI C cl) D Cx s₂ [I] (Cx :: D :: I :: C.W) (((ps.take i).filter b).map f) τ [I]) s') ?_ (ps.length + 1)
      ⟨0, rfl, Nat.zero_le _, st₁, by simpa using start⟩
    rintro n s₄ ⟨i, rfl, hi, st₄, F₄⟩
    by_cases hlt : i < ps.length
    · have hp : ps[i]? = some ps[i] := List.getElem?_eq_getElem hlt
      generalize ps[i] = p at hp
      have hmem : p ∈ ps := List.mem_of_getElem? hp
      refine Wk₁.item i p _ s₄ _ _ hp F₄ ⟨rfl, fun q hq => List.mem_append_right _ (hneed q hq)⟩ st₄ fun v h' tk r st' e' al' ht' => ?_
      have F₅ := F₄.touch (tk := tk) (I := I) (.tail _ (.tail _ (.head _))) (nall _) (.inl (.head _)) e' al' ht'
      have r₅ : Rep h' (Cx :: D :: I :: C.W) p v := r.ext e' fun x q => by
        simp at q; subst q; exact .tail _ (.tail _ (.head _))
      have F₆ := F₅.rebase [] (fun _ q => nomatch q)
      obtain ⟨hg, hsubρ, ha, ht, he⟩ := hin p hmem D Cx { s₄ with heap := h', toks := tk } (ownL (compEnvC scope cl Cx C.env) [(D, ((ps.take i).filter b).map f)]) (Cx :: D :: I :: C.W) (((ps.take i).filter b).map f) τ ([] ++ (ownL (compEnvC scope cl Cx C.env) [(D, ((ps.take i).filter b).map f)] ++ [I]))
      refine Wk₁.go _ _ _ _ _ _ st' (hg v _ r₅) ?_
      refine ha _ v _ _ F₆ r₅ fun s₇ F₇ => ?_
      refine ht s₇ _ _ F₇ fun s₈ k₈ F₈ => ?_
      -- the turn's end
      have fin : ∀ (s₉ : Shared) (acc : List PV), acc = (((ps.take (i + 1)).filter b).map f) →
          FS H (cfI C scope cl (ρv p (ρI C cl)) D Cx { s₄ with heap := h', toks := tk } (ownL (compEnvC scope cl Cx C.env) [(D, ((ps.take i).filter b).map f)]) (Cx :: D :: I :: C.W) acc τ ([] ++ (ownL (compEnvC scope cl Cx C.env) [(D, ((ps.take i).filter b).map f)] ++ [I]))) s₉ →
          ∃ m, m < ps.length + 1 - i ∧ ∃ i, m = ps.length + 1 - i ∧ i ≤ ps.length ∧ St i s₉.heap ∧ FS H (cfI C scope cl (ρI C cl) D Cx s₂ [I] (Cx :: D :: I :: C.W) (((ps.take i).filter b).map f) τ [I]) s₉ := by
        rintro s₉ acc rfl F₉
        refine ⟨ps.length + 1 - (i + 1), by omega, i + 1, rfl, hlt, Wk₁.stay _ _ _ st' fun o e => F₉.ext I o (nown _) e, ?_⟩
        have G := FS.unbase (C := cfI C scope cl (ρI C cl) D Cx s₂ [I] (Cx :: D :: I :: C.W) (((ps.take i).filter b).map f) τ [I]) (Z := []) F₅ F₉
        exact G.forget hsubρ
      have htake := filter_take_succ b ps i p hp
      cases hb : b p with
      | false =>
        simp only [Bool.false_eq_true, if_false]
        refine fin s₈ _ ?_ F₈
        rw [htake, hb]; simp
      | true =>
        simp only [if_true]
        refine he hb s₈ _ _ F₈ fun x s₉ k₉ F₉ r₉ => ?_
        obtain ⟨vs, hl, rl⟩ := F₉.lists (D, _) (.head _)
        have hlen : vs.length ≤ 1000 := by
          rw [rl.length, List.length_map]
          have e2 := List.length_filter_le b (ps.take i)
          have e3 : (ps.take i).length ≤ ps.length := by rw [List.length_take]; omega
          omega
        refine wpAny_list_append_plain (hsz := by rw [List.size_toArray, sizeLine_eq]; omega) hl fun h'' hl'' hs'' => ?_
        have eD : Ext [D] s₉.heap h'' := Ext.of_same hs''
        have rl' : RepL h'' (Cx :: D :: I :: C.W) ((((ps.take i).filter b).map f) ++ [f p]) (vs ++ [x]) :=
          (rl.append (.one r₉)).ext eD fun y q => by simp at q; subst q; exact .tail _ (.head _)
        have hl3 : h''.PlainList D (vs ++ [x]).toArray := by simpa using hl''
        have F' := FS.setList (tk := s₉.toks) (i := 0) F₉ rfl hl3 eD rl' (fun h => h)
        refine fin _ ((((ps.take i).filter b).map f) ++ [f p]) ?_ F'
        rw [htake, hb]; simp
    · have hin : i = ps.length := by omega
      subst hin
      refine Wk₁.done _ s₄ _ _ F₄ ⟨rfl, fun q hq => List.mem_append_right _ (hneed q hq)⟩ st₄ fun h' tk e' ht' => ?_
      obtain ⟨vs, hl, rl⟩ := F₄.lists (D, _) (.head _)
      obtain ⟨m, cm, b1, _, _⟩ := F₄.vars
      refine hRR D Cx { s₄ with heap := h', toks := tk } vs m nD nC hDC (b1.at' fun o q => e' _ o (fun z => IC (List.mem_singleton.mp z).symm) q) (plain_keep hl fun o q => e' _ o (fun z => ID (List.mem_singleton.mp z).symm) q) ?_ ?_ (fun h => ht' (F₄.up h)) (F₄.ext.trans e')
      · have z : RepL h' (Cx :: D :: I :: C.W) (((ps.take ps.length).filter b).map f) vs := rl.ext e' fun y q => by simp at q; subst q; exact .tail _ (.tail _ (.head _))
        rw [List.take_length] at z
        exact z
      · obtain ⟨h, t, e⟩ := F₄.same
        exact ⟨h', tk, by rw [e]; rfl⟩
  exact codeAny_compStart_list (loop _ rfl) (wpAny_mono (Wk₁.self _ _ _ (fun _ _ => False) (Wk₁.stay _ _ _ st₀ fun o e => old _ _ e) (loop _ rfl)) (fun _ _ x => x) fun _ _ x => x.elim)

/-- a list made anew -/
def EvF (prog : Program) (w : World) (H : Heap) (A : Around) (C : Cf) (e : Expr) (l : List PV) : Prop :=
  ∀ (s : Shared) (Q : Value → Shared → Prop) (E : Value → Shared → Prop), FS H C s →
    (∀ D (vs : List Value) s', KeepS s s' → s.heap.get? D = none → s'.heap.PlainList D vs.toArray → RepL s'.heap (D :: C.W) l vs → Q (.ref D) s') → wpAny (model prog w) A (eval e C.env) Q E s
theorem EvF.ev {e : Expr} {l : List PV} (h : EvF prog w H A C e l) : Ev prog w H A C e (.lst l) := fun s Q E F k =>
  h s Q E F fun D vs s' k' n hl r => k _ s' k' (F.keeps k') (by
    simp only [Rep]
    exact ⟨D, vs, rfl, not_mem_of_none F n, hl, r.weak fun _ q => .tail _ q⟩)
theorem evf_List {es : List Expr} {pos : Pos} {ps : List PV} (h : EvL prog w H A C es ps) (hn : ps.length ≤ 1000 := by decide) : EvF prog w H A C (.List es pos) ps := fun s Q E F k => by
  refine wpAny_List_spliced (h pos s _ E F fun vs s₁ k₁ F₁ r₁ => ⟨?_, k _ vs _ (k₁.trans .push) (none_back k₁ (get_size_none _)) ⟨0, Heap.get?_push_size _ rfl⟩ ((r₁.more (get_size_none _)).keeps fun _ _ e => Heap.get?_push_of_some _ e)⟩)
  rw [r₁.length, sizeLine_eq]; omega

theorem keep_across {s s₂ : Shared} {h' h'' : Heap} {I Cx : Addr} {t : Nat} (k : KeepS s s₂) (n : s.heap.get? I = none) (nC : s₂.heap.get? Cx = none) (e : Ext [I] s₂.heap h') (e2 : Heap.SameBut Cx h' h'') (b : Addr) (o : Obj) (q : s.heap.get? b = some o) : h''.get? b = some o := by
  have q2 := k.keep b o q
  refine e2.extBut b o (fun z => ?_) (e b o (fun z => ?_) q2)
  · rw [z, nC] at q2; cases q2
  · have z' := List.mem_singleton.mp z
    rw [z', n] at q; cases q

theorem evf_comp {scope : Scope} {cl : List (Str × Addr)} {target iter elt : Expr} {ifs : List Expr} {pos : Pos} {ps : List PV} {ρv : PV → Env0 → Env0} {b : PV → Bool} {f : PV → PV} {need : Sto}
    (hi : Itr prog w H A C iter ps need) (hneed : ∀ q ∈ need, q ∈ C.μ ++ C.κ) (hin : CompIn prog w H A C scope cl target ifs elt ps ρv b f) (hn : ps.length ≤ 1000)
    (hclos : closureFor scope C.env = pure cl := by rfl) (hcl : cl.map (fun p => C.env.cells.lookup p.1) = cl.map (fun p => some p.2) := by rfl) (hcell : ∀ y ∈ scope.names, y.2 ≠ .cell := by decide) (hkind : scope.kind = .function := by rfl)
    (hnames : ∀ y ∈ scope.names, y.2 = .local → scope.names.lookup y.1 = some .local := by decide)
    (hs : ∀ x, foldedSetIterable iter C.env x = pure x := by intro _; rfl) :
    EvF prog w H A C (.ListComp elt [⟨target, iter, ifs, 0⟩] scope pos) ((ps.filter b).map f) := fun s Q E F k => by
  rw [eval_ListComp]
  refine wpAny_comprehension_free (use := none) rfl hs hclos hkind hnames (hi s _ _ F fun I St τ s₂ k₂ n₂ al₂ F₂ kτ W₂ st₂ => ?_)
  refine comp_block (RR := fun acc Cx => compPost (model prog w) A E none Q acc Cx) hcl hcell hkind hn F.inW (not_mem_of_none F n₂) F₂ hneed W₂ st₂ hin ?_
  rintro D Cx s' vs m nD nC hDC hns hl r ⟨h, t, rfl⟩ hup he
  refine ⟨m, hns, fun h' hs' => ?_⟩
  have kk := fun b o q => keep_across (t := t) k₂ n₂ nC he hs' b o q
  have kS : KeepS s { s₂ with heap := h', toks := t } := by
    have kp := k₂.pos
    obtain ⟨h2, t2, rfl, _⟩ := k₂
    exact ⟨h', t, rfl, fun z => hup (kp z), kk⟩
  refine k D vs _ kS (none_back k₂ nD) (hl.extBut hs'.extBut hDC) ?_
  have r2 := r.ext (Ext.of_same hs') (fun x q => by simp at q; subst q; exact .head _)
  refine r2.weak fun x q => ?_
  rcases List.mem_cons.mp q with rfl | q
  · exact .tail _ (.head _)
  · exact .tail _ (.tail _ (.tail _ q))

theorem FZ.widen2 {H : Heap} {C : Cf} {s s' : Shared} (F : FZ H C s) {a c : Addr} (n : s.heap.get? a = none) (n' : s.heap.get? c = none) (k : KeepS s s') (al : ∃ o, s'.heap.get? a = some o) (al' : ∃ o, s'.heap.get? c = some o) : FZ H { C with W := a :: c :: C.W } s' := by
  have fr : ∀ x, s.heap.get? x = none → H.get? x = none := fun x n => by
    cases q : H.get? x with
    | none => rfl
    | some o => rw [F.old x o q] at n; cases n
  obtain ⟨h', t', rfl, _, k⟩ := k
  obtain ⟨⟨h, t, e⟩, a2, a3, a4, a5, ⟨m, cm, b1, b2, b3⟩, a7, a8, aX, aB, a9, a10, aT, a11⟩ := F
  refine ⟨⟨h', t', by rw [e]⟩, fun b o n q => k b o (a2 b o n q), fun b o q => k b o (a3 b o q), fun b q => ?_, fun b q => ?_,
    ⟨m, cm, b1.keeps k, fun n c q => (b2 n c q).keeps k, fun x pv q => ?_⟩, fun p hp => ?_, fun b q => .tail _ (.tail _ (a8 b q)), aX, fun b q => .tail _ (.tail _ (aB b q)), a9, a10, fun p hp => (((aT p hp).more n').more n).keeps k, a11⟩
  · rcases List.mem_cons.mp q with rfl | q
    · exact fr _ n
    · rcases List.mem_cons.mp q with rfl | q
      · exact fr _ n'
      · exact a4 b q
  · rcases List.mem_cons.mp q with rfl | q
    · exact al
    · rcases List.mem_cons.mp q with rfl | q
      · exact al'
      · obtain ⟨o, z⟩ := a5 b q; exact ⟨o, k b o z⟩
  · obtain ⟨v, z1, z2⟩ := b3 x pv q
    exact ⟨v, z1, ((z2.more n').more n).keeps k⟩
  · obtain ⟨vs, z1, z2⟩ := a7 p hp
    exact ⟨vs, plain_keep z1 fun o e => k _ o e, ((z2.more n').more n).keeps k⟩
theorem FZ.own {H : Heap} {C : Cf} {s : Shared} (F : FZ H C s) {D : Addr} {l : List PV} {vs : List Value} (hW : D ∈ C.W) (hA : D ∉ allL C.env (C.μ ++ C.κ)) (hX : D ∈ C.X ∨ C.s0.heap.get? D = none) (hl : s.heap.PlainList D vs.toArray) (r : RepL s.heap C.W l vs) :
    FZ H { C with μ := (D, l) :: C.μ } s := by
  obtain ⟨a1, a2, a3, a4, a5, a6, a7, a8, aX, aB, a9, a10, aT, a11⟩ := F
  refine ⟨a1, a2, a3, a4, a5, a6, fun p hp => ?_, fun b q => ?_, aX, aB, a9, ?_, aT, fun b q => ?_⟩
  · rcases List.mem_cons.mp hp with rfl | hp
    · exact ⟨vs, hl, r⟩
    · exact a7 p hp
  · unfold allL at q
    rcases List.mem_cons.mp q with rfl | q
    · exact a8 _ (own_all own_loc)
    · rcases List.mem_append.mp q with q | q
      · exact a8 _ (.tail _ (List.mem_append_left _ q))
      · rw [List.cons_append, List.map_cons] at q
        rcases List.mem_cons.mp q with rfl | q
        · exact hW
        · exact a8 _ (.tail _ (List.mem_append_right _ q))
  · rw [List.cons_append, List.map_cons, List.nodup_cons]
    exact ⟨fun q => hA (.tail _ (List.mem_append_right _ q)), a10⟩
  · unfold ownL at q
    rcases List.mem_cons.mp q with rfl | q
    · exact a11 _ own_loc
    · rcases List.mem_append.mp q with q | q
      · exact a11 _ (.tail _ (List.mem_append_left _ q))
      · rw [List.map_cons] at q
        rcases List.mem_cons.mp q with rfl | q
        · exact hX
        · exact a11 _ (.tail _ (List.mem_append_right _ q))

theorem FS.widen2 {H : Heap} {C : Cf} {s s' : Shared} (F : FS H C s) {a c : Addr} (n : s.heap.get? a = none) (n' : s.heap.get? c = none) (k : KeepS s s') (al : ∃ o, s'.heap.get? a = some o) (al' : ∃ o, s'.heap.get? c = some o) : FS H { C with W := a :: c :: C.W } s' :=
  ⟨F.z.widen2 n n' k al al', fun h => k.pos (F.tk h), fun h => k.pos (F.up h)⟩
theorem FS.own {H : Heap} {C : Cf} {s : Shared} (F : FS H C s) {D : Addr} {l : List PV} {vs : List Value} (hW : D ∈ C.W) (hA : D ∉ allL C.env (C.μ ++ C.κ)) (hX : D ∈ C.X ∨ C.s0.heap.get? D = none) (hl : s.heap.PlainList D vs.toArray) (r : RepL s.heap C.W l vs) :
    FS H { C with μ := (D, l) :: C.μ } s := ⟨F.z.own hW hA hX hl r, F.tk, F.up⟩

/-- the address is none of the frame's -/
def Fresh (C : Cf) (D : Addr) : Prop := D ∉ C.W ∧ D ∉ C.B ∧ D ≠ C.env.locals ∧ D ∉ C.env.cells.map (·.2)
theorem Fresh.of {s : Shared} {D : Addr} (F : FS H C s) (n : s.heap.get? D = none) : Fresh C D :=
  have h := not_mem_of_none F n
  ⟨h, fun q => h (F.bW D q), fun q => h (q ▸ F.inW _ (own_all own_loc)), fun q => h (F.inW D (.tail _ (List.mem_append_left _ q)))⟩

/-- a new list is bound, and is the frame's own -/
theorem run_new {x : Str} {px pos : Pos} {e : Expr} {l : List PV} {rest : List Stmt} {P : PQ} (he : EvF prog w H A C e l) (hx : Able prog w H A C.env x)
    (k : ∀ D, Fresh C D → Run prog w H A ⟨C.env, C.s0, C.X, D :: C.W, upd C.ρ x (.ref D), (D, l) :: C.μ, C.τ, C.κ, C.B⟩ rest P) (hs : swapsWith e (some (.Name x px)) pos.line C.env = pure false := by rfl) : Run prog w H A C (.Assign [.Name x px] e pos :: rest) P :=
  run_one fun s F => wpAny_Assign_Name (he s _ _ F fun D vs s₁ k₁ n hl r => hx _ _ _ _ _ _ _ _ (.ref D) s₁ (.ref D) _ _ (F.take n k₁ hl r) (by simp [Rep]) fun s₂ F₂ => (k D (.of F n)).go s₂ F₂) hs

theorem run_comp_new {x : Str} {px pos spos : Pos} {scope : Scope} {cl : List (Str × Addr)} {target iter elt : Expr} {ifs : List Expr} {ps : List PV} {ρv : PV → Env0 → Env0} {b : PV → Bool} {f : PV → PV} {need : Sto} {rest : List Stmt} {P : PQ}
    (hi : Itr prog w H A C iter ps need) (hneed : ∀ q ∈ need, q ∈ C.μ ++ C.κ) (hin : CompIn prog w H A C scope cl target ifs elt ps ρv b f) (hn : ps.length ≤ 1000)
    (k : ∀ D, Fresh C D → Run prog w H A ⟨C.env, C.s0, C.X, D :: C.W, upd C.ρ x (.ref D), (D, (ps.filter b).map f) :: C.μ, C.τ, C.κ, C.B⟩ rest P)
    (hsw : swapsWith (.ListComp elt [⟨target, iter, ifs, 0⟩] scope pos) (some (.Name x px)) spos.line C.env = pure true := by rfl)
    (hx : C.env.kindOf x = some .local := by rfl) (hxc : C.env.cells.lookup x = none := by rfl) (hp : (C.env.scope.kind == .class || (C.env.scope.kind == .module && C.env.locals != C.env.globals)) = false := by rfl)
    (hclos : closureFor scope C.env = pure cl := by rfl) (hcl : cl.map (fun p => C.env.cells.lookup p.1) = cl.map (fun p => some p.2) := by rfl) (hcell : ∀ y ∈ scope.names, y.2 ≠ .cell := by decide) (hkind : scope.kind = .function := by rfl)
    (hnames : ∀ y ∈ scope.names, y.2 = .local → scope.names.lookup y.1 = some .local := by decide)
    (hs : ∀ x, foldedSetIterable iter C.env x = pure x := by intro _; rfl) :
    Run prog w H A C (.Assign [.Name x px] (.ListComp elt [⟨target, iter, ifs, 0⟩] scope pos) spos :: rest) P := run_one fun s F => by
  rw [exec_Assign_Name_used _ _ _ _ hsw]
  refine wpAny_bind (wpAny_standAt (wpAny_bind ?_))
  show wpAny _ A (do let _ ← comprehension (.ListComp elt [⟨target, iter, ifs, 0⟩] scope pos) scope C.env _ (newList []) false (eval iter C.env) (some (assign (.Name x px) C.env))) _ _ s
  refine wpAny_bind (wpAny_mono (wpAny_comprehension_free (use := some (assign (.Name x px) C.env)) (Q := fun _ s' => wpAny (model prog w) A (execs rest C.env) (Holds H C P) (fun _ _ => False) s') rfl hs hclos hkind hnames
    (hi s _ _ F fun I St τ s₂ k₂ n₂ al₂ F₂ kτ W₂ st₂ => ?_)) (fun _ s' hq => wpAny_pure (wpAny_pure hq)) fun _ _ e => e)
  refine comp_block (RR := fun acc Cx => compPost (model prog w) A (fun _ _ => False) (some (assign (.Name x px) C.env)) (fun _ s' => wpAny (model prog w) A (execs rest C.env) (Holds H C P) (fun _ _ => False) s') acc Cx) hcl hcell hkind hn F.inW (not_mem_of_none F n₂) F₂ hneed W₂ st₂ hin ?_
  rintro D Cx s' vs m nD nC hDC hns hl r ⟨h, t, rfl⟩ hup he
  show wpAny _ A (assign (.Name x px) C.env (.ref D)) _ _ _
  have nDs := none_back k₂ nD
  have nCs := none_back k₂ nC
  have kS : KeepS s { s₂ with heap := h, toks := t } := by
    have kp := k₂.pos
    obtain ⟨h2, t2, rfl, _⟩ := id k₂
    exact ⟨h, t, rfl, fun z => hup (kp z), fun b o q => he b o (fun z => by rw [List.mem_singleton.mp z, n₂] at q; cases q) (k₂.keep b o q)⟩
  have alC : ∃ o, h.get? Cx = some o := let ⟨o, _, _, e, _⟩ := hns; ⟨o, e⟩
  -- the block's frame and the list among the changeable ones
  have hW : D ∉ C.W := not_mem_of_none F nDs
  have hX : D ∈ C.X ∨ C.s0.heap.get? D = none := by
    by_cases hx : D ∈ C.X
    · exact .inl hx
    · refine .inr ?_
      cases z : C.s0.heap.get? D with
      | none => rfl
      | some o => rw [F.ext D o hx z] at nDs; cases nDs
  have nX : Cx ∉ C.X := fun q => not_mem_of_none F nCs (F.xW _ q)
  have hC0 : C.s0.heap.get? Cx = none := by
    cases z : C.s0.heap.get? Cx with
    | none => rfl
    | some o => rw [F.ext Cx o nX z] at nCs; cases nCs
  have F₃ : FS H { C with W := Cx :: D :: C.W } { s₂ with heap := h, toks := t } := F.widen2 nCs nDs kS alC (let ⟨n, e⟩ := hl; ⟨_, e⟩)
  have r₃ : RepL h (Cx :: D :: C.W) ((ps.filter b).map f) vs := r.weak fun x q => by
    rcases List.mem_cons.mp q with rfl | q
    · exact .head _
    · rcases List.mem_cons.mp q with rfl | q
      · exact .tail _ (.head _)
      · exact .tail _ (.tail _ (.tail _ q))
  have F₄ := F₃.own (D := D) (.tail _ (.head _)) (fun q => hW (F.inW D q)) hX hl r₃
  obtain ⟨mL, cmL, b1, b2, b3⟩ := F₄.vars
  refine wpAny_assign_Name (wpAny_storeName_local hx b1 (fun h₂ hn₂ hs₂ => ?_) hp)
  have LC : Cx ≠ C.env.locals := fun z => not_mem_of_none F nCs (z ▸ F.inW _ (own_all own_loc))
  refine ⟨m, hns.sameBut hs₂ LC, fun h₃ hs₃ => ?_⟩
  have F₅ := F₄.setLocal (tk := t + 1) b1 hxc hn₂ hs₂ (v := .ref D) (pv := .ref D) (by simp [Rep])
  have nA : Cx ∉ allL C.env (((D, (ps.filter b).map f) :: C.μ) ++ C.κ) := fun q => by
    unfold allL at q
    rcases List.mem_cons.mp q with q | q
    · exact LC q
    · rcases List.mem_append.mp q with q | q
      · exact not_mem_of_none F nCs (F.inW Cx (.tail _ (List.mem_append_left _ q)))
      · rw [List.cons_append, List.map_cons] at q
        rcases List.mem_cons.mp q with q | q
        · exact hDC q.symm
        · exact not_mem_of_none F nCs (F.inW Cx (.tail _ (List.mem_append_right _ q)))
  have F₆ := FS.close F₅ (tk := t + 1) (I := Cx) (.head _) nA hC0 (fun y q z => not_mem_of_none F nCs (z ▸ F.bW y q)) (Ext.of_same hs₃) (fun _ => Nat.succ_pos _)
  have sub : ∀ y ∈ D :: C.W, y ∈ (Cx :: D :: C.W).filter (· != Cx) := fun y q => by
    refine List.mem_filter.mpr ⟨.tail _ q, ?_⟩
    have : y ≠ Cx := by
      rintro rfl
      rcases List.mem_cons.mp q with q | q
      · exact hDC q.symm
      · exact not_mem_of_none F nCs q
    simpa using this
  have F₇ := F₆.shrink (W := D :: C.W) sub (fun y q => ?_) (fun y q => .tail _ (F.bW y q))
  · exact (k D (.of F nDs)).go _ F₇
  · unfold allL at q
    rcases List.mem_cons.mp q with rfl | q
    · exact .tail _ (F.inW _ (own_all own_loc))
    · rcases List.mem_append.mp q with q | q
      · exact .tail _ (F.inW y (.tail _ (List.mem_append_left _ q)))
      · rw [List.cons_append, List.map_cons] at q
        rcases List.mem_cons.mp q with rfl | q
        · exact .head _
        · exact .tail _ (F.inW y (.tail _ (List.mem_append_right _ q)))

/-- the last list taken is no more written -/
theorem run_freeze {y : Str} {D : Addr} {l : List PV} {μ : Sto} {ρ : Env0} {W : List Addr} {sts : List Stmt} {P : PQ} (hD : Fresh C D) (hρ : ρ y = some (.ref D))
    (k : ∀ W, Run prog w H A ⟨C.env, C.s0, C.X, W, upd ρ y (.lst l), μ, C.τ, C.κ, C.B⟩ sts P) : Run prog w H A ⟨C.env, C.s0, C.X, W, ρ, (D, l) :: μ, C.τ, C.κ, C.B⟩ sts P := .of fun s F =>
  (k _).go s (FS.freeze F rfl hρ hD.2.1 hD.2.2.1 hD.2.2.2)
end
end Mine

end

section
open PySem PySem.W PyProof.Rows PySem.Calls
namespace Mine
section
variable {prog : Program} {w : World} {K : Frag} {H : Heap} {A : Around} {C : Cf}

theorem lookup_of_mem {α : Type} : ∀ {l : List (Str × α)} {n : Str} {c : α}, (l.map (·.1)).Nodup → (n, c) ∈ l → l.lookup n = some c
  | (k, v) :: r, n, c, hd, hm => by
    rw [List.map_cons, List.nodup_cons] at hd
    rw [List.lookup_cons]
    rcases List.mem_cons.mp hm with e | hm'
    · cases e; simp
    · have : (n == k) = false := by
        rw [beq_eq_false_iff_ne]
        intro z
        exact hd.1 (z ▸ List.mem_map_of_mem (f := (·.1)) hm')
      rw [this]
      exact lookup_of_mem hd.2 hm'
theorem cellsFrom_keys : ∀ (names : List (Str × NameKind)) (n : Nat) (acc : List (Str × Addr)), (names.map (·.1)).Nodup → (acc.map (·.1)).Nodup → (∀ x ∈ acc.map (·.1), x ∉ names.map (·.1)) → ((cellsFrom n names acc).map (·.1)).Nodup
  | [], _, acc, _, h, _ => h
  | (nm, k) :: r, n, acc, hd, ha, hx => by
    rw [List.map_cons, List.nodup_cons] at hd
    unfold cellsFrom
    split
    · refine cellsFrom_keys r _ _ hd.2 ?_ ?_
      · rw [List.map_cons, List.nodup_cons]
        exact ⟨fun q => hx _ q (.head _), ha⟩
      · intro x q
        rw [List.map_cons] at q
        rcases List.mem_cons.mp q with rfl | q
        · exact hd.1
        · exact fun z => hx x q (.tail _ z)
    · exact cellsFrom_keys r _ _ hd.2 ha fun x q z => hx x q (.tail _ z)

theorem bindL_get (kindOf : Str → Option NameKind) : ∀ (binds : List (Str × Value)) (m : Str → Option Value) (n : Str), n ∉ binds.map (·.1) → bindL kindOf binds m n = m n
  | [], _, _, _ => rfl
  | (k, v) :: r, m, n, h => by
    unfold bindL
    rw [bindL_get kindOf r _ n fun q => h (.tail _ q)]
    split
    · have : n ≠ k := fun z => h (z ▸ .head _)
      simp [this]
    · rfl
theorem bindL_mem (kindOf : Str → Option NameKind) : ∀ (binds : List (Str × Value)) (m : Str → Option Value) (n : Str) (v : Value), (binds.map (·.1)).Nodup → (n, v) ∈ binds → kindOf n = some .local → bindL kindOf binds m n = some v
  | (k, u) :: r, m, n, v, hd, hm, hk => by
    rw [List.map_cons, List.nodup_cons] at hd
    unfold bindL
    rcases List.mem_cons.mp hm with e | hm
    · cases e
      rw [bindL_get kindOf r _ _ hd.1, if_pos hk]; simp
    · exact bindL_mem kindOf r _ n v hd.2 hm hk
theorem bindC_get (kindOf : Str → Option NameKind) : ∀ (binds : List (Str × Value)) (m : Str → Option Value) (n : Str), n ∉ binds.map (·.1) → bindC kindOf binds m n = m n
  | [], _, _, _ => rfl
  | (k, v) :: r, m, n, h => by
    unfold bindC
    rw [bindC_get kindOf r _ n fun q => h (.tail _ q)]
    split
    · rfl
    · have : n ≠ k := fun z => h (z ▸ .head _)
      simp [this]
theorem bindC_mem (kindOf : Str → Option NameKind) : ∀ (binds : List (Str × Value)) (m : Str → Option Value) (n : Str) (v : Value), (binds.map (·.1)).Nodup → (n, v) ∈ binds → kindOf n ≠ some .local → bindC kindOf binds m n = some v
  | (k, u) :: r, m, n, v, hd, hm, hk => by
    rw [List.map_cons, List.nodup_cons] at hd
    unfold bindC
    rcases List.mem_cons.mp hm with e | hm
    · cases e
      rw [bindC_get kindOf r _ _ hd.1, if_neg hk]; simp
    · exact bindC_mem kindOf r _ n v hd.2 hm hk

theorem cells_other : ∀ (names : List (Str × NameKind)) (n : Nat) (acc : List (Str × Addr)) (x : Str), (∀ k, (x, k) ∈ names → k ≠ .cell) → (cellsFrom n names acc).lookup x = acc.lookup x
  | [], _, _, _, _ => rfl
  | (nm, k) :: r, n, acc, x, h => by
    unfold cellsFrom
    split
    · rename_i hk
      rw [cells_other r _ _ x fun k' q => h k' (.tail _ q), List.lookup_cons]
      have : (x == nm) = false := by
        rw [beq_eq_false_iff_ne]
        rintro rfl
        exact h k (.head _) (beq_iff_eq.mp hk)
      rw [this]
    · exact cells_other r _ _ x fun k' q => h k' (.tail _ q)
theorem cells_some : ∀ (names : List (Str × NameKind)) (n : Nat) (acc : List (Str × Addr)) (x : Str), ((acc.lookup x).isSome = true ∨ (x, .cell) ∈ names) → ((cellsFrom n names acc).lookup x).isSome = true
  | [], _, _, _, h => h.elim (fun h => h) fun h => nomatch h
  | (nm, k) :: r, n, acc, x, h => by
    unfold cellsFrom
    split
    · rename_i hk
      refine cells_some r _ _ x ?_
      rcases h with h | h
      · left
        rw [List.lookup_cons]
        split
        · rfl
        · exact h
      · rcases List.mem_cons.mp h with e | h
        · cases e; left; simp
        · exact .inr h
    · rename_i hk
      refine cells_some r _ _ x (h.imp (fun h => h) fun h => ?_)
      rcases List.mem_cons.mp h with e | h
      · cases e; exact absurd (beq_self_eq_true _) hk
      · exact h
theorem kinds_ok {names : List (Str × NameKind)} (hd : (names.map (·.1)).Nodup) {x : Str} (h : names.lookup x = some .local ∨ names.lookup x = some .cell) :
    (names.lookup x = some .local ∨ (names.lookup x = some .cell ∧ ∀ n, ((cellsFrom n names []).lookup x).isSome = true)) ∧ (names.lookup x = some .local → ∀ n, (cellsFrom n names []).lookup x = none) := by
  refine ⟨h.imp (fun h => h) fun h => ⟨h, fun n => cells_some names n [] x (.inr (mem_of_lookup h))⟩, fun hl n => cells_other names n [] x fun k q hk => ?_⟩
  have := lookup_of_mem hd q
  rw [hl] at this
  cases this
  cases hk

/-- the heap as a call finds it -/
structure St0 (H : Heap) (W : List Addr) (s : Shared) : Prop where
  old : ∀ b o, H.get? b = some o → s.heap.get? b = some o
  fresh : ∀ b ∈ W, H.get? b = none
  live : ∀ b ∈ W, ∃ o, s.heap.get? b = some o
  tk : H.life.known = 0 → 0 < s.toks
theorem FS.st0 {s : Shared} (F : FS H C s) : St0 H C.W s := ⟨F.old, F.fresh, F.live, F.tk⟩

/-- the frame of a def's call -/
def cfF (fd : FuncData) (L f : Addr) (s : Shared) (X W : List Addr) (ρ : Env0) (μ κ : Sto) : Cf :=
  ⟨callEnvC fd L f, s, X, L :: ((cellsFrom (L + 1) fd.scope.names []).map (·.2) ++ W), ρ, μ, [], κ, W⟩

theorem enter_fnR {R : Result → Shared → Prop} {s : Shared} {f : Addr} {oc : Value} {od : Option Addr} {osl : Array (Option Value)} {fd : FuncData} {body : List Stmt} {args : Args} {binds : List (Str × Value)} {ρ : Env0} {X W : List Addr} {μ κ : Sto}
    (G : Gl w K H) (S : St0 H W s) (hroom : A.depth < recursionLimit) (ho : K.lookup f = some ⟨oc, od, .func fd, osl⟩) (hbody : fd.body = .stmts body) (hcd : codeIn K fd.code fd.qualname = true)
    (hbind : BindsTo s fd args binds) (hclo : fd.closure = []) (hnd : (binds.map (·.1)).Nodup) (hsn : (fd.scope.names.map (·.1)).Nodup)
    (hkind : ∀ x ∈ binds, fd.scope.names.lookup x.1 = some .local ∨ (fd.scope.names.lookup x.1 = some .cell ∧ ∀ n, ((cellsFrom n fd.scope.names []).lookup x.1).isSome = true))
    (hnc : ∀ x ∈ binds, fd.scope.names.lookup x.1 = some .local → ∀ n, (cellsFrom n fd.scope.names []).lookup x.1 = none)
    (hρ : ∀ x p, ρ x = some p → ∃ v, (x, v) ∈ binds ∧ Rep s.heap W p v)
    (hX : ∀ b ∈ X, b ∈ W) (hμ : ∀ p ∈ μ, p.1 ∈ X) (hκ : ∀ p ∈ κ, p.1 ∈ W) (hndm : ((μ ++ κ).map (·.1)).Nodup) (hlists : ∀ p ∈ μ ++ κ, ∃ vs : List Value, s.heap.PlainList p.1 vs.toArray ∧ RepL s.heap W p.2 vs)
    (run : ∀ L s₁, FS H (cfF fd L f s X W ρ μ κ) s₁ → KeepS s s₁ → wpAny (model prog w) (A.deeper (callEnvC fd L f)) (execs body (callEnvC fd L f)) (fun fl s' => R (.ok (.ret (match fl with | .ret v => v | _ => .none))) s') (fun _ _ => False) s₁)
    (hco : fd.scope.isCoroutine = false := by rfl) (hgen : fd.scope.isGenerator = false := by rfl) (hk : fd.scope.kind = .function := by rfl) :
    codeAny (model prog w) A (.call (.ref f) args) R s := by
  refine codeAny_call_function hroom (S.old _ _ (G.kin _ _ ho)) rfl hco hgen hbody ((codeRec_of G.kin hcd).keeps S.old) (hbind _ _ _ _ ?_)
  rw [hclo]
  refine wpAny_toks (wpAny_newFunctionEnv_cells hk (fun x hx => (hkind x hx).imp (fun h => h) fun h => ⟨h.1, h.2 _⟩) fun env he s₁ x htk => ?_)
  subst he
  have hup : 0 < s.toks → 0 < s₁.toks := fun z => Nat.lt_of_lt_of_le z htk
  have keep := x.toInCall.keep
  refine ⟨(G.nolimit.keeps S.old).keeps keep, codeAny_func ?_⟩
  have hL : s.heap.get? s.heap.objs.size = none := get_size_none _
  have hcs : ((cellsFrom (s.heap.objs.size + 1) fd.scope.names []).map (·.1)).Nodup := cellsFrom_keys _ _ _ hsn List.nodup_nil (fun _ q => nomatch q)
  have hcell : ∀ n c, (n, c) ∈ cellsFrom (s.heap.objs.size + 1) fd.scope.names [] → s.heap.get? c = none ∧ s₁.heap.IsCell c (bindC (callEnvC fd s.heap.objs.size f).kindOf binds (fun _ => none) n) := fun n c q =>
    ⟨get_ge_none (Nat.le_of_lt (x.above n c q)), x.cell n c (lookup_of_mem hcs q)⟩
  have F : FS H (cfF fd s.heap.objs.size f s X W ρ μ κ) s₁ := by
    refine ⟨?_, fun h => hup (S.tk h), hup⟩
    refine ⟨x.toInCall.same, Ext.of_keeps keep, fun b o q => keep b o (S.old b o q), fun b q => ?_, fun b q => ?_, ⟨_, _, x.toInCall.ns, fun n c q => x.cell n c q, fun y p q => ?_⟩, fun p hp => ?_, fun b q => ?_, hX, fun b q => .tail _ (List.mem_append_right _ q), fun n n' c q q' => name_of_addr x.apart (mem_of_lookup q) (mem_of_lookup q'), hndm, (fun _ q => nomatch q), fun b q => ?_⟩
    · have hn : b ∈ W ∨ s.heap.get? b = none := by
        rcases List.mem_cons.mp q with rfl | q
        · exact .inr hL
        · rcases List.mem_append.mp q with q | q
          · obtain ⟨⟨n, c⟩, hc, rfl⟩ := List.mem_map.mp q
            exact .inr (hcell n c hc).1
          · exact .inl q
      rcases hn with hn | hn
      · exact S.fresh b hn
      · cases z : H.get? b with
        | none => rfl
        | some o => rw [S.old b o z] at hn; cases hn
    · rcases List.mem_cons.mp q with rfl | q
      · obtain ⟨o, _, _, z, _⟩ := x.toInCall.ns; exact ⟨o, z⟩
      · rcases List.mem_append.mp q with q | q
        · obtain ⟨⟨n, c⟩, hc, rfl⟩ := List.mem_map.mp q
          obtain ⟨o, z, _⟩ := (hcell n c hc).2; exact ⟨o, z⟩
        · obtain ⟨o, z⟩ := S.live b q; exact ⟨o, keep b o z⟩
    · obtain ⟨v, hm, r⟩ := hρ y p q
      refine ⟨v, ?_, ?_⟩
      · show (match (cellsFrom (s.heap.objs.size + 1) fd.scope.names []).lookup y with | some _ => _ | none => _) = some v
        rcases hkind _ hm with hl | ⟨hl, hs⟩
        · rw [hnc _ hm hl]
          exact bindL_mem _ _ _ _ _ hnd hm hl
        · obtain ⟨c, hc⟩ := Option.isSome_iff_exists.mp (hs (s.heap.objs.size + 1))
          rw [hc]
          exact bindC_mem _ _ _ _ _ hnd hm (by show fd.scope.names.lookup y ≠ _; rw [hl]; decide)
      · refine r.imp fun a o na ho => ⟨fun z => ?_, keep a o ho⟩
        rcases List.mem_cons.mp z with rfl | z
        · rw [hL] at ho; cases ho
        · rcases List.mem_append.mp z with z | z
          · obtain ⟨⟨n, c⟩, hc, rfl⟩ := List.mem_map.mp z
            rw [(hcell n c hc).1] at ho; cases ho
          · exact na z
    · obtain ⟨vs, z1, z2⟩ := hlists p hp
      refine ⟨vs, plain_keep z1 fun o e => keep _ o e, z2.imp fun a o na ho => ⟨fun z => ?_, keep a o ho⟩⟩
      rcases List.mem_cons.mp z with rfl | z
      · rw [hL] at ho; cases ho
      · rcases List.mem_append.mp z with z | z
        · obtain ⟨⟨n, c⟩, hc, rfl⟩ := List.mem_map.mp z
          rw [(hcell n c hc).1] at ho; cases ho
        · exact na z
    · unfold allL at q
      rcases List.mem_cons.mp q with rfl | q
      · exact .head _
      · refine .tail _ ?_
        rcases List.mem_append.mp q with q | q
        · exact List.mem_append_left _ q
        · refine List.mem_append_right _ ?_
          obtain ⟨p, hp, rfl⟩ := List.mem_map.mp q
          rcases List.mem_append.mp hp with hp | hp
          · exact hX _ (hμ p hp)
          · exact hκ p hp
    · unfold ownL at q
      rcases List.mem_cons.mp q with rfl | q
      · exact .inr hL
      · rcases List.mem_append.mp q with q | q
        · have : (callEnvC fd s.heap.objs.size f).func.isSome = true := rfl
          have q' : b ∈ (cellsFrom (s.heap.objs.size + 1) fd.scope.names []).map (·.2) := by
            have q2 : b ∈ (if (callEnvC fd s.heap.objs.size f).func.isSome = true then (callEnvC fd s.heap.objs.size f).cells.map (·.2) else []) := q
            rw [if_pos this] at q2; exact q2
          obtain ⟨⟨n, c⟩, hc, rfl⟩ := List.mem_map.mp q'
          exact .inr (hcell n c hc).1
        · obtain ⟨p, hp, rfl⟩ := List.mem_map.mp q
          exact .inl (hμ p hp)
  exact wpAny_mono (run s.heap.objs.size s₁ F (let ⟨h, t, e⟩ := x.toInCall.same; ⟨h, t, e, fun z => Nat.lt_of_lt_of_eq (hup z) (congrArg (fun z : Shared => z.toks) e), fun b o q => (congrArg (fun z : Shared => z.heap.get? b) e).symm.trans (keep b o q)⟩)) (fun fl s' h => h) fun _ _ h => h.elim

theorem enter_fn {R : Result → Shared → Prop} {s : Shared} {f : Addr} {oc : Value} {od : Option Addr} {osl : Array (Option Value)} {fd : FuncData} {body : List Stmt} {args : Args} {binds : List (Str × Value)} {ρ : Env0} {X W : List Addr} {μ κ : Sto} {P : PQ}
    (G : Gl w K H) (S : St0 H W s) (hroom : A.depth < recursionLimit) (ho : K.lookup f = some ⟨oc, od, .func fd, osl⟩) (hbody : fd.body = .stmts body) (hcd : codeIn K fd.code fd.qualname = true)
    (hbind : BindsTo s fd args binds) (hclo : fd.closure = []) (hnd : (binds.map (·.1)).Nodup) (hsn : (fd.scope.names.map (·.1)).Nodup)
    (hkind : ∀ x ∈ binds, fd.scope.names.lookup x.1 = some .local ∨ (fd.scope.names.lookup x.1 = some .cell ∧ ∀ n, ((cellsFrom n fd.scope.names []).lookup x.1).isSome = true))
    (hnc : ∀ x ∈ binds, fd.scope.names.lookup x.1 = some .local → ∀ n, (cellsFrom n fd.scope.names []).lookup x.1 = none)
    (hρ : ∀ x p, ρ x = some p → ∃ v, (x, v) ∈ binds ∧ Rep s.heap W p v)
    (hX : ∀ b ∈ X, b ∈ W) (hμ : ∀ p ∈ μ, p.1 ∈ X) (hκ : ∀ p ∈ κ, p.1 ∈ W) (hndm : ((μ ++ κ).map (·.1)).Nodup) (hlists : ∀ p ∈ μ ++ κ, ∃ vs : List Value, s.heap.PlainList p.1 vs.toArray ∧ RepL s.heap W p.2 vs)
    (run : ∀ L, Run prog w H (A.deeper (callEnvC fd L f)) (cfF fd L f s X W ρ μ κ) body P)
    (fin : ∀ L fl s', Holds H (cfF fd L f s X W ρ μ κ) P fl s' → R (.ok (.ret (match fl with | .ret v => v | _ => .none))) s')
    (hco : fd.scope.isCoroutine = false := by rfl) (hgen : fd.scope.isGenerator = false := by rfl) (hk : fd.scope.kind = .function := by rfl) :
    codeAny (model prog w) A (.call (.ref f) args) R s := by
  refine enter_fnR G S hroom ho hbody hcd hbind hclo hnd hsn hkind hnc hρ hX hμ hκ hndm hlists (fun L s₁ F _ => ?_) hco hgen hk
  exact wpAny_mono ((run L).go s₁ F) (fun fl s' h => fin _ fl s' h) fun _ _ h => h.elim

/-- a def that changes nothing: its value -/
def Fn (prog : Program) (w : World) (H : Heap) (n : Nat) (f : Addr) (ps : List PV) (r : PV) : Prop :=
  ∀ (A : Around) (W : List Addr) (s : Shared) (vs : List Value) (Q : Value → Shared → Prop) (E : Value → Shared → Prop), Room n A → St0 H W s → RepL s.heap W ps vs →
    (∀ v s', KeepS s s' → Rep s'.heap W r v → Q v s') → wpAny (model prog w) A (call (.ref f) vs) Q E s

def retP (r : PV) : PQ := ⟨fun _ _ => r = .none, fun _ _ => False, fun _ _ => False, fun p _ => p = r⟩

theorem zip_nodup {names : List Str} : ∀ {vs : List Value}, names.Nodup → ((names.zip vs).map (·.1)).Nodup := fun {vs} h => by
  have : (names.zip vs).map (·.1) = names.take vs.length := by
    clear h
    induction names generalizing vs with
    | nil => simp
    | cons n ns ih => cases vs with
      | nil => simp
      | cons v vs => simp [ih]
  rw [this]
  exact h.sublist (List.take_sublist _ _)
theorem zip_rep {h : Heap} {W : List Addr} : ∀ {names : List Str} {ps : List PV} {vs : List Value} {x : Str} {p : PV}, RepL h W ps vs → (names.zip ps).lookup x = some p → ∃ v, (x, v) ∈ names.zip vs ∧ Rep h W p v
  | [], _, _, _, _, _, e => by simp at e
  | n :: ns, [], _, _, _, _, e => by simp at e
  | n :: ns, q :: ps, vs, x, p, r, e => by
    simp only [RepL] at r
    obtain ⟨v, r', rfl, a, b⟩ := r
    rw [List.zip_cons_cons, List.lookup_cons] at e
    split at e
    · rename_i hx
      cases e
      rw [beq_iff_eq.mp hx]
      exact ⟨v, .head _, a⟩
    · obtain ⟨v', h1, h2⟩ := zip_rep b e
      exact ⟨v', .tail _ h1, h2⟩

theorem fn_intro {n : Nat} {f : Addr} {oc : Value} {od : Option Addr} {osl : Array (Option Value)} {fd : FuncData} {body : List Stmt} {names : List Str} {ps : List PV} {r : PV}
    (G : Gl w K H) (ho : K.lookup f = some ⟨oc, od, .func fd, osl⟩) (hbody : fd.body = .stmts body) (hcd : codeIn K fd.code fd.qualname = true)
    (hbind : ∀ vs : List Value, vs.length = ps.length → bindArgs fd ⟨vs, []⟩ = pure (names.zip vs)) (hclo : fd.closure = []) (hnd : names.Nodup) (hsn : (fd.scope.names.map (·.1)).Nodup)
    (hkind : ∀ x ∈ names, fd.scope.names.lookup x = some .local ∨ fd.scope.names.lookup x = some .cell)
    (run : ∀ A L s W, Room n A → Run prog w H A (cfF fd L f s [] W (fun x => (names.zip ps).lookup x) [] []) body (retP r))
    (hco : fd.scope.isCoroutine = false := by rfl) (hgen : fd.scope.isGenerator = false := by rfl) (hk : fd.scope.kind = .function := by rfl) : Fn prog w H (n + 1) f ps r := by
  intro A W s vs Q E R S hr k
  have hmem : ∀ x ∈ names.zip vs, x.1 ∈ names := fun x q => (List.of_mem_zip (a := x.1) (b := x.2) q).1
  refine wpAny_call (enter_fn (P := retP r) (X := []) (μ := []) (κ := []) (W := W) G S R.lim ho hbody hcd (.of_eq (hbind vs (hr.length))) hclo (zip_nodup hnd) hsn (fun x q => (kinds_ok hsn (hkind _ (hmem x q))).1) (fun x q => (kinds_ok hsn (hkind _ (hmem x q))).2) (fun x p e => zip_rep hr e)
    (fun _ q => nomatch q) (fun _ q => nomatch q) (fun _ q => nomatch q) List.nodup_nil (fun _ q => nomatch q) (fun L => run _ L s W R.deeper) ?_ hco hgen hk)
  rintro L fl s' ⟨W', ρ', μ', F', hp⟩
  have kS : KeepS s s' := by
    have up := F'.up
    obtain ⟨h, t, e⟩ := F'.same
    subst e
    exact ⟨h, t, rfl, up, fun b o q => F'.ext b o (by simp [cfF]) q⟩
  have sub : ∀ b ∈ W, b ∈ W' := F'.bW
  cases fl with
  | ret v =>
    obtain ⟨p, r1, rfl⟩ := hp
    exact k v s' kS (r1.weak sub)
  | next =>
    have : r = .none := hp
    subst this
    exact k .none s' kS (by simp [Rep])
  | cont => exact hp.elim
  | brk => exact hp.elim

theorem good_name {W : List Addr} {p : PV} {x : Str} {px : Pos} : ∀ (v : Value) (h : Heap), Rep h W p v → GoodT (.Name x px) v := fun _ _ _ => .inl ⟨x, px, rfl⟩
theorem good_tup {W : List Addr} {l : List PV} {es : List Expr} {k : Nat} {px : Pos} : ∀ (v : Value) (h : Heap), Rep h W (.tup l) v → GoodT (.Tuple es k px) v := fun v h r => by
  simp only [Rep] at r
  obtain ⟨a, _, rfl, _⟩ := r
  exact .inr ⟨es, k, px, a, rfl, rfl⟩

/-- a call of such a def -/
theorem ev_Call_fn {n : Nat} {fx e : Expr} {es : List Expr} {f : Addr} {oc : Value} {od : Option Addr} {osl : Array (Option Value)} {fd : FuncData} {pos : Pos} {ps : List PV} {r : PV} (G : Gl w K H) (ho : K.lookup f = some ⟨oc, od, .func fd, osl⟩)
    (hF : Fn prog w H n f ps r) (R : Room n A) (hf : Ev prog w H A C fx (.ref f)) (ha : EvL prog w H A C (e :: es) ps)
    (he : eval (.Call fx (e :: es) [] pos) C.env = (do callWith pos (← eval fx C.env) [] (backTo pos (starEach (e :: es) C.env)) (backToKw pos (keywordEach [] C.env))) := by rfl)
    (hs : starEach (e :: es) C.env = (false, eval e C.env) :: starEach es C.env := by rfl) : Ev prog w H A C (.Call fx (e :: es) [] pos) r := fun s Q E F k =>
  Call_ (hf s _ E F fun u s₁ k₁ F₁ r₁ => by
    simp only [Rep] at r₁
    subst r₁
    refine callWith_def (fd := fd) (o := ⟨oc, od, .func fd, osl⟩) rfl (ha pos s₁ _ E F₁ fun vs s₂ k₂ F₂ r₂ => ⟨F₂.old _ _ (G.kin _ _ ho), hF A C.W s₂ vs _ E R F₂.st0 r₂ fun v s₃ k₃ r₃ => k v s₃ ((k₁.trans k₂).trans k₃) (F₂.keeps k₃) r₃⟩) hs) he
end
end Mine

end

section
open PySem PySem.W PyProof.Rows PySem.Calls
namespace Mine
section
variable {prog : Program} {w : World} {K : Frag} {H : Heap} {A : Around} {C : Cf}

theorem ints_of {h : Heap} {W : List Addr} : ∀ {ns : List Int} {vs : List Value}, RepL h W (ns.map PV.int) vs → IntsAre vs ns
  | [], _, r => by simp only [List.map_nil, RepL] at r; subst r; exact .nil
  | n :: ns, _, r => by
    simp only [List.map_cons, RepL, Rep] at r
    obtain ⟨v, r', rfl, ⟨t, rfl⟩, b⟩ := r
    exact .cons n t (ints_of b)

/-- how many ints there are, each counted once -/
def dcount (ns : List Int) : Nat := (ns.foldl step_dedup []).length
theorem firstMet_all (ns : List Int) : firstMet (fun i => ns.getD i 0) ns.length = ns.foldl step_dedup [] := by
  unfold firstMet
  congr 1
  apply List.ext_getElem?
  intro i
  rw [List.getElem?_map]
  by_cases h : i < ns.length
  · rw [List.getElem?_eq_getElem (by simpa using h), List.getElem?_eq_getElem h]; simp [List.getD, h]
  · rw [List.getElem?_eq_none (by simpa using h), List.getElem?_eq_none (by simpa using h)]; rfl
theorem dedup_len : ∀ (l acc : List Int), (l.foldl step_dedup acc).length ≤ acc.length + l.length
  | [], acc => by simp
  | x :: l, acc => by
    rw [List.foldl_cons]
    have := dedup_len l (step_dedup acc x)
    have h2 : (step_dedup acc x).length ≤ acc.length + 1 := by unfold step_dedup; split <;> simp
    simp only [List.length_cons]
    omega

theorem ev_lenset {fl fs e : Expr} {p1 p2 : Pos} {ns : List Int} (R : Room 2 A) (hl : Ev prog w H A C fl (.blt "len")) (hs : Ev prog w H A C fs (.typ "set")) (he : Ev prog w H A C e (.lst (ns.map PV.int))) (hn : ns.length ≤ 1000)
    (h1 : eval (.Call fl [.Call fs [e] [] p2] [] p1) C.env = (do callWith p1 (← eval fl C.env) [] (backTo p1 (starEach [.Call fs [e] [] p2] C.env)) (backToKw p1 (keywordEach [] C.env))) := by rfl)
    (h2 : starEach [.Call fs [e] [] p2] C.env = (false, eval (.Call fs [e] [] p2) C.env) :: starEach [] C.env := by rfl)
    (h3 : eval (.Call fs [e] [] p2) C.env = (do callWith p2 (← eval fs C.env) [] (backTo p2 (starEach [e] C.env)) (backToKw p2 (keywordEach [] C.env))) := by rfl)
    (h4 : starEach [e] C.env = (false, eval e C.env) :: starEach [] C.env := by rfl) :
    Ev prog w H A C (.Call fl [.Call fs [e] [] p2] [] p1) (.int (dcount ns)) := fun s Q E F k =>
  Call_ (hl s _ E F fun u s₁ k₁ F₁ r₁ => by
    simp only [Rep] at r₁
    subst r₁
    refine PyProof.Rows.callWith_builtin1 (args_cons (Call_ (hs s₁ _ E F₁ fun u s₂ k₂ F₂ r₂ => ?_) h3) h2) h2 rfl
    simp only [Rep] at r₂
    subst r₂
    refine Pv.callWith_type1 ((evl_cons he evl_nil h4) p2 s₂ _ E F₂ fun vs s₃ k₃ F₃ r₃ => ?_) h4 rfl
    simp only [RepL, Rep] at r₃
    obtain ⟨v, r, rfl, ⟨a, vs, rfl, na, hpl, rl⟩, rfl⟩ := r₃
    have hi := ints_of rl
    have hlen : vs.length = ns.length := hi.length
    refine call_set_list (items := vs.toArray) R.handled hpl.isList (by simpa using hi) (by unfold scanBound; simp; omega) fun h' tk hS hk => ?_
    refine args_nil ?_
    have hsz : vs.toArray.size = ns.length := by rw [List.size_toArray, hlen]
    rw [hsz, firstMet_all] at hS
    obtain ⟨o, es, ep, t, ho, hex, hd, _, _, hb, hf, hsz'⟩ := hS
    have hle : (ns.foldl step_dedup []).length ≤ 1000 := by have := dedup_len ns []; simp at this; omega
    refine call_len_set (s := { s₃ with heap := h', toks := tk }) ho hex hd hf (by rw [hsz']; omega) ?_
    rw [hsz']
    have kk : KeepS s₃ { s₃ with heap := h', toks := tk + 1 + 1 } := .of (fun b o e => hk b o (Heap.lt_size e) e) (fun _ => Nat.succ_pos _)
    exact k _ _ (((k₁.trans k₂).trans k₃).trans kk) (F₃.keeps kk) (by simp only [Rep, dcount]; exact ⟨_, rfl⟩)) h1

theorem FS.list {s : Shared} (F : FS H C s) {a : Addr} {l : List PV} (hm : (a, l) ∈ C.μ ++ C.κ) : ∃ vs : List Value, s.heap.PlainList a vs.toArray ∧ RepL s.heap C.W l vs ∧ vs.length = l.length := by
  obtain ⟨vs, x, y⟩ := F.lists _ hm
  exact ⟨vs, x, y, y.length⟩
theorem opn_len_lst {l : List PV} (hn : l.length ≤ 1000) : OpN prog w H A C (fun vs => call (.builtin "len") vs) [.lst l] (.int l.length) := fun s vs Q E F r k => by
  simp only [RepL, Rep] at r
  obtain ⟨v, r', rfl, ⟨a, vs, rfl, na, hpl, rl⟩, rfl⟩ := r
  refine call_len_list hpl.isList (by rw [List.size_toArray, rl.length]; omega) ?_
  rw [List.size_toArray, rl.length]
  exact k _ _ .tok (tok_keep F) (by simp [Rep])
theorem opn_len_mut {a : Addr} {l : List PV} (hm : (a, l) ∈ C.μ ++ C.κ) (hn : l.length ≤ 1000) : OpN prog w H A C (fun vs => call (.builtin "len") vs) [.ref a] (.int l.length) := fun s vs Q E F r k => by
  simp only [RepL, Rep] at r
  obtain ⟨v, r', rfl, rfl, rfl⟩ := r
  obtain ⟨vs, hpl, rl, hl⟩ := F.list hm
  refine call_len_list hpl.isList (by rw [List.size_toArray, hl]; omega) ?_
  rw [List.size_toArray, hl]
  exact k _ _ .tok (tok_keep F) (by simp [Rep])
theorem empty_toArray {α : Type} (vs : List α) : vs.toArray.isEmpty = vs.isEmpty := by cases vs <;> rfl
theorem isEmpty_len {α β : Type} {a : List α} {b : List β} (h : a.length = b.length) : a.isEmpty = b.isEmpty := by cases a <;> cases b <;> simp_all
theorem tr_mut {a : Addr} {l : List PV} (hm : (a, l) ∈ C.μ ++ C.κ) (hn : l.length ≤ 1000) : Tr prog w H A C (.ref a) (!l.isEmpty) := fun s u Q E F r k => by
  simp only [Rep] at r
  subst r
  obtain ⟨vs, hpl, rl, hl⟩ := F.list hm
  refine wpAny_truthy_list hpl.isList (by rw [List.size_toArray, hl]; omega) ?_
  rw [empty_toArray, isEmpty_len hl]
  exact k _ .tok (tok_keep F)

/-- x.append(e) -/
theorem evm_append {o e : Expr} {apos pos : Pos} {a : Addr} {l : List PV} {p : PV} {i : Nat} (ho : Ev prog w H A C o (.ref a)) (hm : C.μ[i]? = some (a, l)) (he : Ev prog w H A C e p) (hn : l.length ≤ 1000)
    (hbase : attributeBase o "append" C.env (eval o C.env) = eval o C.env := by rfl)
    (hfew : ((backTo pos (starEach [e] C.env)).all (fun x => !x.1) && (backToKw pos (keywordEach [] C.env)).all (fun x => x.1.isSome)
      && decide (([e] : List Expr).length + ([] : List Keyword).length + (if ([] : List Keyword).isEmpty then 0 else 1) < 30)) = true := by rfl)
    (hline : (apos.endLine == pos.line) = true := by rfl) (htrees : backTo pos (starEach [e] C.env) = [(false, eval e C.env)] := by rfl) :
    EvM prog w H A C (.Call (.Attribute o "append" apos) [e] [] pos) .none (C.μ.set i (a, l ++ [p])) := fun s Q E F k => by
  have hmem : (a, l) ∈ C.μ ++ C.κ := List.mem_append_left _ (List.mem_of_getElem? hm)
  refine wpAny_Call_append hbase hfew hline htrees (ho s _ E F fun u s₁ k₁ F₁ r₁ => ?_)
  simp only [Rep] at r₁
  subst r₁
  obtain ⟨vs₀, ⟨n₀, hp₀⟩, _⟩ := F₁.lists _ hmem
  refine ⟨a, _, rfl, ⟨_, n₀, hp₀, rfl, rfl, rfl⟩, he s₁ _ E F₁ fun y s₂ k₂ F₂ r₂ => ?_⟩
  obtain ⟨vs, hpl, rl, hl⟩ := F₂.list hmem
  refine wpAny_list_append_plain (hsz := by rw [List.size_toArray, hl, sizeLine_eq]; omega) hpl fun h' hl' hs' => ?_
  have aW : a ∈ C.W := F₂.inW _ (all_list hmem)
  have rl' : RepL h' C.W (l ++ [p]) (vs ++ [y]) := (rl.append (.one r₂)).ext (Ext.of_same hs') fun b q => by simp at q; subst q; exact aW
  exact k .none _ (FS.setList (tk := s₂.toks) F₂ hm (by simpa using hl') (Ext.of_same hs') rl' (fun h => h)) (by simp [Rep])

/-- x.pop() -/
theorem evm_pop {o : Expr} {apos pos : Pos} {a : Addr} {l : List PV} {p : PV} {i : Nat} (ho : Ev prog w H A C o (.ref a)) (hm : C.μ[i]? = some (a, l ++ [p])) (hn : l.length ≤ 1000)
    (hbase : attributeBase o "pop" C.env (eval o C.env) = eval o C.env := by rfl)
    (hfew : ((backTo pos (starEach [] C.env)).all (fun x => !x.1) && (backToKw pos (keywordEach [] C.env)).all (fun x => x.1.isSome)
      && decide (([] : List Expr).length + ([] : List Keyword).length + (if ([] : List Keyword).isEmpty then 0 else 1) < 30)) = true := by rfl)
    (hline : (apos.endLine == pos.line) = true := by rfl) (htrees : backTo pos (starEach [] C.env) = [] := by rfl) :
    EvM prog w H A C (.Call (.Attribute o "pop" apos) [] [] pos) p (C.μ.set i (a, l)) := fun s Q E F k => by
  have hmem : (a, l ++ [p]) ∈ C.μ ++ C.κ := List.mem_append_left _ (List.mem_of_getElem? hm)
  refine wpAny_Call_method hbase hfew hline PySem.F.plainAttrs_list PySem.F.slot_list_pop PySem.F.type_list_pop (ho s _ E F fun u s₁ k₁ F₁ r₁ => ?_)
  simp only [Rep] at r₁
  subst r₁
  obtain ⟨vs, ⟨n₀, hp₀⟩, rl, hlen⟩ := F₁.list hmem
  rw [List.length_append, List.length_singleton] at hlen
  have hsz : vs.toArray.size - 1 = l.length := by rw [List.size_toArray]; omega
  obtain ⟨y, hy, ry⟩ := rl.get (i := l.length) (p := p) (by simp)
  refine ⟨⟨_, hp₀, rfl⟩, fun b e => by cases e; exact ⟨_, hp₀, rfl⟩, ?_⟩
  rw [htrees]
  refine P.pop_list (y := y) hp₀ (by rw [hsz]; simpa using hy) ?_ (by rw [List.size_toArray, sizeLine_eq]; omega)
  have aW : a ∈ C.W := F₁.inW _ (all_list hmem)
  have eE : Ext [a] s₁.heap (s₁.heap.update a (Obj.mapSeq fun xs => xs.eraseIdxIfInBounds (vs.toArray.size - 1))) := Ext.of_same (Heap.SameBut.update ..)
  have hpl : (s₁.heap.update a (Obj.mapSeq fun xs => xs.eraseIdxIfInBounds (vs.toArray.size - 1))).PlainList a (vs.take l.length).toArray := by
    have q := PySem.IsL.update hp₀ (fun xs => xs.eraseIdxIfInBounds (vs.toArray.size - 1))
    have e1 : vs.toArray.eraseIdxIfInBounds (vs.toArray.size - 1) = (vs.take l.length).toArray := by
      rw [hsz]
      apply Array.ext'
      have hlt : l.length < vs.toArray.size := by rw [List.size_toArray]; omega
      rw [Array.eraseIdxIfInBounds, dif_pos hlt, Array.toList_eraseIdx, List.eraseIdx_eq_take_drop_succ, List.drop_eq_nil_of_le (by simp; omega)]
      simp
    rw [e1] at q
    exact ⟨_, q⟩
  have rl' : RepL (s₁.heap.update a (Obj.mapSeq fun xs => xs.eraseIdxIfInBounds (vs.toArray.size - 1))) C.W l (vs.take l.length) := by
    have := (rl.take l.length).ext eE fun b q => by simp at q; subst q; exact aW
    simpa using this
  exact k y _ (FS.setList (tk := s₁.toks) F₁ hm hpl eE rl' (fun h => h)) (ry.ext eE fun b q => by simp at q; subst q; exact aW)

/-- x[k] = v, x a list of the frame's own -/
theorem run_setitem {o i e : Expr} {pos' pos : Pos} {a : Addr} {l : List PV} {p : PV} {j : Nat} {k : Int} {rest : List Stmt} {P : PQ} (he : Ev prog w H A C e p) (ho : Ev prog w H A C o (.ref a)) (hi : Ev prog w H A C i (.int k)) (hm : C.μ[j]? = some (a, l))
    (h0 : 0 ≤ k) (hf : k < 2 ^ 63) (hk : k < l.length) (kk : Run prog w H A { C with μ := C.μ.set j (a, l.set k.toNat p) } rest P)
    (hs : swapsWith e (some (.Subscript o i pos')) pos.line C.env = pure false := by rfl) : Run prog w H A C (.Assign [.Subscript o i pos'] e pos :: rest) P :=
  run_one fun s F => wpAny_Assign_Subscript (he s _ _ F fun v s₁ k₁ F₁ r₁ => ho s₁ _ _ F₁ fun u s₂ k₂ F₂ r₂ => hi s₂ _ _ F₂ fun x s₃ k₃ F₃ r₃ => by
    have hmem : (a, l) ∈ C.μ ++ C.κ := List.mem_append_left _ (List.mem_of_getElem? hm)
    simp only [Rep] at r₂ r₃
    subst r₂
    obtain ⟨t, rfl⟩ := r₃
    obtain ⟨vs, ⟨n₀, hp₀⟩, rl, hl⟩ := F₃.list hmem
    refine ki_setAt (n := n₀) hp₀ h0 hf (by rw [List.size_toArray, hl]; exact hk) ?_
    have aW : a ∈ C.W := F₃.inW _ (all_list hmem)
    have rv : Rep s₃.heap C.W p v := r₁.keeps (k₂.trans k₃).keep
    have eE : Ext [a] s₃.heap (s₃.heap.update a (Obj.mapSeq (·.setIfInBounds k.toNat v))) := Ext.of_same (Heap.SameBut.update ..)
    have rl' : RepL (s₃.heap.update a (Obj.mapSeq (·.setIfInBounds k.toNat v))) C.W (l.set k.toNat p) (vs.set k.toNat v) := (rl.set rv).ext eE fun b q => by simp at q; subst q; exact aW
    have hpl : (s₃.heap.update a (Obj.mapSeq (·.setIfInBounds k.toNat v))).PlainList a (vs.set k.toNat v).toArray := by
      have q := PySem.IsL.update hp₀ (·.setIfInBounds k.toNat v)
      have e1 : vs.toArray.setIfInBounds k.toNat v = (vs.set k.toNat v).toArray := by
        apply Array.ext'
        simp
      rw [e1] at q
      exact ⟨_, q⟩
    exact kk.go _ (FS.setList (tk := s₃.toks) F₃ hm hpl eE rl' (fun h => h))) hs
end
end Mine

end

section
open PySem PySem.W PyProof.Rows PySem.Calls
namespace Mine
section
variable {prog : Program} {w : World} {K : Frag} {H : Heap} {A : Around} {C : Cf}

/-! data -/
mutual
def pyOf : PV → Option PyData
  | .int i => some (.int i)
  | .str x => some (.str x)
  | .bool b => some (.bool b)
  | .none => some .none
  | .flo _ => none
  | .tup l => (pyOfL l).map .tuple
  | .lst l => (pyOfL l).map .list
  | .ref _ => none
  | .blt _ => none
  | .typ _ => none
  | .inst _ => none
def pyOfL : List PV → Option (List PyData)
  | [] => some []
  | p :: l => match pyOf p, pyOfL l with
    | some d, some ds => some (d :: ds)
    | _, _ => none
end
mutual
theorem rep_reads {h : Heap} {W : List Addr} : ∀ {p : PV} {v : Value}, Rep h W p v → (∀ d : PyData, (pyOf p = some d) → ∃ as, Reads h v d as)
  | .int i, v, r, d, e => by
    simp only [Rep] at r; obtain ⟨t, rfl⟩ := r
    simp only [pyOf, Option.some.injEq] at e; subst e
    exact ⟨_, .int i t⟩
  | .str x, v, r, d, e => by
    simp only [Rep] at r; obtain ⟨t, rfl⟩ := r
    simp only [pyOf, Option.some.injEq] at e; subst e
    exact ⟨_, .str x t⟩
  | .bool b, v, r, d, e => by
    simp only [Rep] at r; subst r
    simp only [pyOf, Option.some.injEq] at e; subst e
    exact ⟨_, .bool b⟩
  | .none, v, r, d, e => by
    simp only [Rep] at r; subst r
    simp only [pyOf, Option.some.injEq] at e; subst e
    exact ⟨_, .none⟩
  | .flo b, v, r, d, e => by simp [pyOf] at e
  | .ref b, v, r, d, e => by simp [pyOf] at e
  | .blt b, v, r, d, e => by simp [pyOf] at e
  | .typ b, v, r, d, e => by simp [pyOf] at e
  | .inst b, v, r, d, e => by simp [pyOf] at e
  | .tup l, v, r, d, e => by
    simp only [Rep] at r
    obtain ⟨a, vs, rfl, _, ⟨o, ho, hc, n, hd⟩, rl⟩ := r
    simp only [pyOf, Option.map_eq_some_iff] at e
    obtain ⟨ds, hds, rfl⟩ := e
    obtain ⟨as, ra⟩ := rep_readsL rl ds hds
    exact ⟨_, .tuple ho hc hd (by simpa using ra)⟩
  | .lst l, v, r, d, e => by
    simp only [Rep] at r
    obtain ⟨a, vs, rfl, _, ⟨n, ho⟩, rl⟩ := r
    simp only [pyOf, Option.map_eq_some_iff] at e
    obtain ⟨ds, hds, rfl⟩ := e
    obtain ⟨as, ra⟩ := rep_readsL rl ds hds
    exact ⟨_, .list ho rfl rfl (by simpa using ra)⟩
theorem rep_readsL {h : Heap} {W : List Addr} : ∀ {l : List PV} {vs : List Value}, RepL h W l vs → (∀ ds : List PyData, (pyOfL l = some ds) → ∃ as, ReadsAll h vs ds as)
  | [], vs, r, ds, e => by
    simp only [RepL] at r; subst r
    simp only [pyOfL, Option.some.injEq] at e; subst e
    exact ⟨_, .nil⟩
  | p :: l, vs, r, ds, e => by
    simp only [RepL] at r
    obtain ⟨v, r', rfl, a, b⟩ := r
    simp only [pyOfL] at e
    cases hp : pyOf p with
    | none => rw [hp] at e; simp at e
    | some d =>
      cases hl : pyOfL l with
      | none => rw [hp, hl] at e; simp at e
      | some ds' =>
        rw [hp, hl] at e
        simp at e
        subst e
        obtain ⟨as, ra⟩ := rep_reads a d hp
        obtain ⟨bs, rb⟩ := rep_readsL b ds' hl
        exact ⟨_, .cons ra rb⟩
end
theorem pyOfL_ints : ∀ ns : List Int, pyOfL (ns.map PV.int) = some (ns.map PyData.int)
  | [] => rfl
  | n :: ns => by simp only [List.map_cons, pyOfL, pyOf, pyOfL_ints ns]
theorem eqvAll_ints : ∀ xs ys : List Int, PyData.eqvAll (xs.map PyData.int) (ys.map PyData.int) = decide (xs = ys)
  | [], [] => by simp [PyData.eqvAll]
  | [], _ :: _ => by simp [PyData.eqvAll]
  | _ :: _, [] => by simp [PyData.eqvAll]
  | x :: xs, y :: ys => by
    simp only [List.map_cons, PyData.eqvAll, PyData.eqv, eqvAll_ints xs ys]
    by_cases h : x = y <;> by_cases h2 : xs = ys <;> simp [h, h2]
theorem canLay_ints : ∀ xs : List Int, PyData.canLayAll0 (xs.map PyData.int) = true
  | [] => rfl
  | x :: xs => by simp only [List.map_cons, PyData.canLayAll0, PyData.canLay0, canLay_ints xs]; rfl
theorem depth_ints : ∀ xs : List Int, PyData.depthAll (xs.map PyData.int) = 0
  | [] => rfl
  | x :: xs => by simp only [List.map_cons, PyData.depthAll, PyData.depth, depth_ints xs]; rfl
theorem any_ints (xs : List Int) (n : Int) : ((xs.map PyData.int).any fun y => PyData.eqv y (.int n)) = decide (n ∈ xs) := by
  induction xs with
  | nil => rfl
  | cons x xs ih =>
    simp only [List.map_cons, List.any_cons, ih, PyData.eqv]
    by_cases h : n = x
    · subst h; simp
    · have : (x == n) = false := by simpa using fun e => h e.symm
      simp [this, h]

/-- n not in x -/
theorem op_notin_lst {ns : List Int} {n : Int} (R : Room 1 A) : Op2 prog w H A C (compareOp .NotIn) (.int n) (.lst (ns.map PV.int)) (.bool (!decide (n ∈ ns))) := fun s u v Q E F r₁ r₂ k => by
  obtain ⟨as, rx⟩ := rep_reads r₁ (.int n) rfl
  obtain ⟨bs, rc⟩ := rep_reads r₂ (.list (ns.map .int)) (by simp only [pyOf, pyOfL_ints]; rfl)
  refine SeqAt.notIn_list_reads rc rx (canLay_ints ns) rfl (by rw [depth_ints]; have := R.units; simp; unfold cLine; omega) ?_
  rw [any_ints]
  exact k _ s .refl F (by simp [Rep])
theorem op_notin_mut {ns : List Int} {n : Int} {a : Addr} (R : Room 1 A) (hm : (a, ns.map PV.int) ∈ C.μ ++ C.κ) : Op2 prog w H A C (compareOp .NotIn) (.int n) (.ref a) (.bool (!decide (n ∈ ns))) := fun s u v Q E F r₁ r₂ k => by
  obtain ⟨as, rx⟩ := rep_reads r₁ (.int n) rfl
  simp only [Rep] at r₂
  subst r₂
  obtain ⟨vs, ⟨m, hp⟩, rl, hl⟩ := F.list hm
  obtain ⟨bs, rc⟩ := rep_readsL rl (ns.map .int) (pyOfL_ints ns)
  refine SeqAt.notIn_list_reads (.list hp rfl rfl (by simpa using rc)) rx (canLay_ints ns) rfl (by rw [depth_ints]; have := R.units; simp; unfold cLine; omega) ?_
  rw [any_ints]
  exact k _ s .refl F (by simp [Rep])

/-- (n, xs) != (m, ys) -/
theorem op_ne_item {n m : Int} {xs ys : List Int} (R : Room 10 A) : Op2 prog w H A C (compareOp .NotEq) (.tup [.int n, .lst (xs.map PV.int)]) (.tup [.int m, .lst (ys.map PV.int)]) (.bool (!decide (n = m ∧ xs = ys))) := fun s u v Q E F r₁ r₂ k => by
  have py : ∀ (n : Int) (xs : List Int), pyOf (.tup [.int n, .lst (xs.map PV.int)]) = some (.tuple [.int n, .list (xs.map .int)]) := fun n xs => by simp only [pyOf, pyOfL, pyOfL_ints]; rfl
  have sh : ∀ (n : Int) (xs : List Int), SeqAt.shaped (.tuple [.int n, .list (xs.map .int)]) = true := fun n xs => by
    unfold SeqAt.shaped
    simp only [PyData.canLay0, PyData.canLayAll0, canLay_ints, PyData.depth, PyData.depthAll, depth_ints]
    decide
  obtain ⟨as, ra⟩ := rep_reads r₁ _ (py n xs)
  obtain ⟨bs, rb⟩ := rep_reads r₂ _ (py m ys)
  refine ne_dataH ra rb (sh n xs) (sh m ys) (by have := R.units; unfold cLine; omega) ?_
  have e : PyData.eqv (.tuple [.int n, .list (xs.map .int)]) (.tuple [.int m, .list (ys.map .int)]) = decide (n = m ∧ xs = ys) := by
    simp only [PyData.eqv, PyData.eqvAll, eqvAll_ints, Bool.and_true]
    by_cases h : n = m <;> by_cases h2 : xs = ys <;> simp [h, h2]
  rw [e]
  exact k _ s .refl F (by simp [Rep])

/-- xs + ys -/
theorem op_cat {xs ys : List PV} (hn : xs.length + ys.length ≤ 1000) : Op2 prog w H A C (binaryOp .Add) (.lst xs) (.lst ys) (.lst (xs ++ ys)) := fun s u v Q E F r₁ r₂ k => by
  simp only [Rep] at r₁ r₂
  obtain ⟨a, vs, rfl, _, ⟨n, ha⟩, rl⟩ := r₁
  obtain ⟨b, us, rfl, _, ⟨m, hb⟩, rm⟩ := r₂
  have h1 := rl.length
  have h2 := rm.length
  refine P.add_list ha hb ?_ (by simp only [List.size_toArray]; rw [sizeLine_eq]; omega)
  have e : vs.toArray ++ us.toArray = (vs ++ us).toArray := by simp
  rw [e]
  exact k _ _ .push (F.keeps .push) (new_list F (rl.append rm))

/-- sum(x) -/
theorem opn_sum {ns : List Int} (hh : A.handled = none) : OpN prog w H A C (fun vs => call (.builtin "sum") vs) [.lst (ns.map PV.int)] (.int ns.sum) := fun s vs Q E F r k => by
  simp only [RepL, Rep] at r
  obtain ⟨v, r', rfl, ⟨a, vs, rfl, na, hpl, rl⟩, rfl⟩ := r
  have hi := ints_of rl
  obtain ⟨xs, hx⟩ := hi.allInts.items
  have hn : numsOf vs.toArray.toList = ns := by rw [show vs.toArray.toList = vs from rfl, hi.numsOf]
  have hl := hpl.isList
  rw [hx] at hl hn
  rw [nums_intItems] at hn
  refine wpAny_toks (sum_intListG hh hl fun h' tk t' hk ht => ?_)
  rw [preSum_eq, List.take_of_length_le (by simp), hn]
  have kk : KeepS s { s with heap := h', toks := tk } := .of hk fun z => Nat.lt_of_lt_of_le z ht
  exact k _ _ kk (F.keeps kk) (by simp [Rep])
/-- min(x), x a list of ints -/
theorem min_core {s : Shared} {a : Addr} {vs : List Value} {ns : List Int} {m : Int} {Q : Value → Shared → Prop} {E : Value → Shared → Prop} (hh : A.handled = none) (hpl : s.heap.PlainList a vs.toArray) (hi : IntsAre vs ns) (hm : m ∈ ns) (hle : ∀ x ∈ ns, m ≤ x)
    (k : ∀ h' tk t, (∀ b o, s.heap.get? b = some o → h'.get? b = some o) → (0 < s.toks → 0 < tk) → Q (.int m t) { s with heap := h', toks := tk }) : wpAny (model prog w) A (call (.builtin "min") [.ref a]) Q E s := by
  obtain ⟨xs, e⟩ := hi.allInts.items
  have hns : ns = xs.toList.map (·.1) := by rw [← hi.numsOf, ← nums_intItems, ← e]
  have hsz : 0 < xs.size := by
    have : 0 < ns.length := List.length_pos_of_mem hm
    rw [hns, List.length_map, Array.length_toList] at this; exact this
  have hl := hpl.isList
  rw [e] at hl
  refine wpAny_toks (min_intList hh hl hsz fun v h' tk hv hk ht => ?_)
  obtain ⟨t, rfl⟩ := intItems_at hv
  obtain ⟨h1, h2⟩ := argBest_lt (numAt xs) (xs.size - 1)
  have hin : numAt xs (argBest (fun i j => decide (numAt xs i < numAt xs j)) (xs.size - 1)) ∈ ns := by
    rw [hns, numAt_eq]; exact getD_mem (by rw [List.length_map, Array.length_toList]; omega)
  have this : numAt xs (argBest (fun i j => decide (numAt xs i < numAt xs j)) (xs.size - 1)) = m := by
    refine Int.le_antisymm ?_ (hle _ hin)
    have hm' := hm
    rw [hns] at hm'
    obtain ⟨j, hj, e⟩ := mem_getD hm'
    rw [List.length_map, Array.length_toList] at hj
    rw [← e, ← numAt_eq]; exact h2 j (by omega)
  rw [this]
  exact k h' tk t hk fun z => Nat.lt_of_lt_of_le z ht
theorem opn_min_lst {ns : List Int} {m : Int} (hh : A.handled = none) (hm : m ∈ ns) (hle : ∀ x ∈ ns, m ≤ x) : OpN prog w H A C (fun vs => call (.builtin "min") vs) [.lst (ns.map PV.int)] (.int m) := fun s vs Q E F r k => by
  simp only [RepL, Rep] at r
  obtain ⟨v, r', rfl, ⟨a, vs, rfl, na, hpl, rl⟩, rfl⟩ := r
  exact min_core hh hpl (ints_of rl) hm hle fun h' tk t hk hz => k _ _ (.of hk hz) (F.keeps (.of hk hz)) (by simp [Rep])
theorem opn_min_mut {ns : List Int} {m : Int} {a : Addr} (hh : A.handled = none) (hmem : (a, ns.map PV.int) ∈ C.μ ++ C.κ) (hm : m ∈ ns) (hle : ∀ x ∈ ns, m ≤ x) : OpN prog w H A C (fun vs => call (.builtin "min") vs) [.ref a] (.int m) := fun s vs Q E F r k => by
  simp only [RepL, Rep] at r
  obtain ⟨v, r', rfl, rfl, rfl⟩ := r
  obtain ⟨vs, hpl, rl, _⟩ := F.list hmem
  exact min_core hh hpl (ints_of rl) hm hle fun h' tk t hk hz => k _ _ (.of hk hz) (F.keeps (.of hk hz)) (by simp [Rep])
theorem opn_min2 {x y : Int} (hh : A.handled = none) : OpN prog w H A C (fun vs => call (.builtin "min") vs) [.int x, .int y] (.int (min x y)) := fun s vs Q E F r k => by
  simp only [RepL, Rep] at r
  obtain ⟨v, r', rfl, ⟨t, rfl⟩, v2, r2, rfl, ⟨t2, rfl⟩, rfl⟩ := r
  refine wpAny_toks (min_two_ints hh fun h' tk hk ht => k _ _ (.of hk fun z => Nat.lt_of_lt_of_le z ht) (F.keeps (.of hk fun z => Nat.lt_of_lt_of_le z ht)) ?_)
  have : min x y = if y < x then y else x := by split <;> omega
  rw [this]
  split <;> simp [Rep]
theorem opn_max2 {x y : Int} (hh : A.handled = none) : OpN prog w H A C (fun vs => call (.builtin "max") vs) [.int x, .int y] (.int (max x y)) := fun s vs Q E F r k => by
  simp only [RepL, Rep] at r
  obtain ⟨v, r', rfl, ⟨t, rfl⟩, v2, r2, rfl, ⟨t2, rfl⟩, rfl⟩ := r
  refine wpAny_toks (max_two_ints hh fun h' tk hk ht => k _ _ (.of hk fun z => Nat.lt_of_lt_of_le z ht) (F.keeps (.of hk fun z => Nat.lt_of_lt_of_le z ht)) ?_)
  have : max x y = if y > x then y else x := by split <;> omega
  rw [this]
  split <;> simp [Rep]

/-! texts -/
theorem opn_int_text {x : Str} {n : Int} (hn : PySem.intText? x = some n) (hl : x.length ≤ 640) : OpN prog w H A C (fun vs => call (.type "int") vs) [.str x] (.int n) := fun s vs Q E F r k => by
  simp only [RepL, Rep] at r
  obtain ⟨v, r', rfl, ⟨t, rfl⟩, rfl⟩ := r
  exact KIN.call_text hn hl (k _ _ .tok (tok_keep F) (by simp [Rep]))
theorem opn_str_int {n : Int} (hn : n.natAbs.log2 < 1920) : OpN prog w H A C (fun vs => call (.type "str") vs) [.int n] (.str (PySem.Str.ofString (toString n))) := fun s vs Q E F r k => by
  simp only [RepL, Rep] at r
  obtain ⟨v, r', rfl, ⟨t, rfl⟩, rfl⟩ := r
  exact P.str_of_int hn (k _ _ .tok (tok_keep F) (by simp [Rep]))
theorem op_eq_str {x y : Str} : Op2 prog w H A C (compareOp .Eq) (.str x) (.str y) (.bool (x == y)) := fun s u v Q E F r₁ r₂ k => by
  simp only [Rep] at r₁ r₂
  obtain ⟨t, rfl⟩ := r₁
  obtain ⟨t2, rfl⟩ := r₂
  exact eq_str (k _ _ .refl F (by simp [Rep]))
theorem op_ne_str {x y : Str} : Op2 prog w H A C (compareOp .NotEq) (.str x) (.str y) (.bool (x != y)) := fun s u v Q E F r₁ r₂ k => by
  simp only [Rep] at r₁ r₂
  obtain ⟨t, rfl⟩ := r₁
  obtain ⟨t2, rfl⟩ := r₂
  exact ne_str (k _ _ .refl F (by simp [Rep]))
theorem op_is_none_none : Op2 prog w H A C (compareOp .Is) .none .none (.bool true) := fun s u v Q E F r₁ r₂ k => by
  simp only [Rep] at r₁ r₂
  subst r₁; subst r₂
  exact is_none_gen (k _ _ .refl F (by simp [Rep]))
theorem op_is_none_str {x : Str} : Op2 prog w H A C (compareOp .Is) (.str x) .none (.bool false) := fun s u v Q E F r₁ r₂ k => by
  simp only [Rep] at r₁ r₂
  obtain ⟨t, rfl⟩ := r₁
  subst r₂
  exact is_none_gen (k _ _ .refl F (by simp [Rep]))
theorem op_isnot_none_none : Op2 prog w H A C (compareOp .IsNot) .none .none (.bool false) := fun s u v Q E F r₁ r₂ k => by
  simp only [Rep] at r₁ r₂
  subst r₁; subst r₂
  exact isnot_none_gen (k _ _ .refl F (by simp [Rep]))
theorem op_isnot_none_ref {a : Addr} : Op2 prog w H A C (compareOp .IsNot) (.ref a) .none (.bool true) := fun s u v Q E F r₁ r₂ k => by
  simp only [Rep] at r₁ r₂
  subst r₁; subst r₂
  exact isnot_none_gen (k _ _ .refl F (by simp [Rep]))

/-- x.lower(), x.upper() -/
theorem ev_lower {o : Expr} {apos pos : Pos} {x y : Str} (ho : Ev prog w H A C o (.str x)) (hy : Txt.lower x = y) (hfit : PySem.Builtin.Str.tooLong y.length = false)
    (hbase : attributeBase o "lower" C.env (eval o C.env) = eval o C.env := by rfl)
    (hfew : ((backTo pos (starEach [] C.env)).all (fun x => !x.1) && (backToKw pos (keywordEach [] C.env)).all (fun x => x.1.isSome)
      && decide (([] : List Expr).length + ([] : List Keyword).length + (if ([] : List Keyword).isEmpty then 0 else 1) < 30)) = true := by rfl)
    (hline : (apos.endLine == pos.line) = true := by rfl) (htrees : backTo pos (starEach [] C.env) = [] := by rfl) :
    Ev prog w H A C (.Call (.Attribute o "lower" apos) [] [] pos) (.str y) := fun s Q E F k => by
  refine wpAny_Call_method hbase hfew hline PySem.F.plainAttrs_str PySem.F.slot_str_lower PySem.F.type_str_lower (ho s _ E F fun u s₁ k₁ F₁ r₁ => ?_)
  simp only [Rep] at r₁
  obtain ⟨t, rfl⟩ := r₁
  refine ⟨typeIs_str _ _ _, (fun b e => nomatch e), ?_⟩
  rw [htrees]
  refine callWith_builtin rfl (PySem.evalArgs_none ?_)
  subst hy
  exact SC.lower hfit (k _ _ (k₁.trans .tok) (tok_keep F₁) (by simp [Rep]))
theorem ev_upper {o : Expr} {apos pos : Pos} {x y : Str} (ho : Ev prog w H A C o (.str x)) (hy : Txt.upper x = y) (hfit : PySem.Builtin.Str.tooLong y.length = false)
    (hbase : attributeBase o "upper" C.env (eval o C.env) = eval o C.env := by rfl)
    (hfew : ((backTo pos (starEach [] C.env)).all (fun x => !x.1) && (backToKw pos (keywordEach [] C.env)).all (fun x => x.1.isSome)
      && decide (([] : List Expr).length + ([] : List Keyword).length + (if ([] : List Keyword).isEmpty then 0 else 1) < 30)) = true := by rfl)
    (hline : (apos.endLine == pos.line) = true := by rfl) (htrees : backTo pos (starEach [] C.env) = [] := by rfl) :
    Ev prog w H A C (.Call (.Attribute o "upper" apos) [] [] pos) (.str y) := fun s Q E F k => by
  refine wpAny_Call_method hbase hfew hline PySem.F.plainAttrs_str PySem.F.slot_str_upper PySem.F.type_str_upper (ho s _ E F fun u s₁ k₁ F₁ r₁ => ?_)
  simp only [Rep] at r₁
  obtain ⟨t, rfl⟩ := r₁
  refine ⟨typeIs_str _ _ _, (fun b e => nomatch e), ?_⟩
  rw [htrees]
  refine callWith_builtin rfl (PySem.evalArgs_none ?_)
  subst hy
  exact SC.upper hfit (k _ _ (k₁.trans .tok) (tok_keep F₁) (by simp [Rep]))
end
end Mine

end

section
open PySem PySem.W PyProof.Rows PySem.Calls
namespace Mine
open PySem.SeqAt PySem.AutoSeq1 PySem.MeetsSeq PySem.MeetsSeq2 PySem.MeetsSeq3 PySem.SeqRoads2

def LtAt (A : Around) (s : Shared) (y x : Value) (b : Bool) : Prop :=
  ∀ (prog : Program) (w : World) (E : Value → Shared → Prop) (Q : Value → Shared → Prop), Q (.bool b) s → wpAny (model prog w) A (richCompare .Lt y x) Q E s

/-- the first pair that differs tells; k pairs are left, from i on -/
def cmpFrom (e l : Nat → Bool) (n m : Nat) : Nat → Nat → Bool
  | 0, _ => decide (n < m)
  | k + 1, i => if e i then cmpFrom e l n m k (i + 1) else l i

theorem lt_loopAt (l b : Addr) (items items2 : Array Value) (n n2 : Nat) (dd dd2 : Option Addr) (sl sl2 : Array (Option Value)) (e lt : Nat → Bool) (k : Nat) :
    ∀ i : Nat, min items.size items2.size - i = k → Meets (Builtin.«list.__eq__.loop» ⟨[.ref l, .ref b, rawInt i, rawInt 0], []⟩)
      (fun A R s => s.heap.get? l = some { cls := .type "list", dict := dd, data := .seq items n, slots := sl } ∧ s.heap.get? b = some { cls := .type "list", dict := dd2, data := .seq items2 n2, slots := sl2 } ∧
        (∀ j (h1 : j < items.size) (h2 : j < items2.size), EqAt A.in1 s items[j] items2[j] (e j)) ∧ (∀ j (h1 : j < items.size) (h2 : j < items2.size), LtAt A.in1 s items[j] items2[j] (lt j)) ∧
        R (.ok (.ret (.bool (cmpFrom e lt items.size items2.size k i)))) s) := by
  induction k with
  | zero =>
    intro i hk prog w A R s h
    obtain ⟨hp, g, d, tk, os⟩ := s; obtain ⟨hl, hb, he, hlt, h⟩ := h
    wp_walk using wpAny_loadPart' hl, wpAny_loadPart' hb
    have hi : items[((i : Nat) : Int).toNat]? = none ∨ items2[((i : Nat) : Int).toNat]? = none := by
      rcases Nat.le_total items.size items2.size with q | q
      · left; simp; omega
      · right; simp; omega
    rcases hi with hi | hi
    · rw [hi]
      wp_walk using wpAny_loadPart' hl, wpAny_loadPart' hb
      exact h
    · rw [hi]
      cases h1 : items[((i : Nat) : Int).toNat]? with
      | none =>
        wp_walk using wpAny_loadPart' hl, wpAny_loadPart' hb
        exact h
      | some x =>
        wp_walk using wpAny_loadPart' hl, wpAny_loadPart' hb
        exact h
  | succ k ih =>
    intro i hk prog w A R s h
    obtain ⟨hp, g, d, tk, os⟩ := s; obtain ⟨hl, hb, he, hlt0, h⟩ := h
    wp_walk using wpAny_loadPart' hl, wpAny_loadPart' hb
    have hlt : i < items.size := by omega
    have hlt2 : i < items2.size := by omega
    have hi1 : items[((i : Nat) : Int).toNat]? = some items[i] := by simp [hlt]
    have hi2 : items2[((i : Nat) : Int).toNat]? = some items2[i] := by simp [hlt2]
    have hc : ((i : Int) + 1) = ((i + 1 : Nat) : Int) := by push_cast; rfl
    rw [hi1, hi2]
    refine wpAny_bind (he i hlt hlt2 prog w _ _ ?_)
    unfold cmpFrom at h
    cases hb' : e i with
    | true =>
      rw [hb'] at h
      wp_walk
      rw [hc]
      exact ⟨plainId_quiet plain_eq_loop _, codeAny_builtin entry_eq_loop (by
        rw [Around.under_plainId plain_eq_loop _]
        exact ih (i + 1) (by omega) prog w A R _ ⟨hl, hb, he, hlt0, by simpa using h⟩)⟩
    | false =>
      rw [hb'] at h
      wp_walk using wpAny_loadPart' hl, wpAny_loadPart' hb
      rw [hi1, hi2]
      refine wpAny_bind (hlt0 i hlt hlt2 prog w _ _ ?_)
      wp_walk
      simpa using h

theorem list_ltAt (l b : Addr) (items items2 : Array Value) (n n2 : Nat) (dd dd2 : Option Addr) (sl sl2 : Array (Option Value)) (e lt : Nat → Bool) :
    Meets (Builtin.«list.__lt__» ⟨[.ref l, .ref b], []⟩)
      (fun A R s => s.heap.get? l = some { cls := .type "list", dict := dd, data := .seq items n, slots := sl } ∧ s.heap.get? b = some { cls := .type "list", dict := dd2, data := .seq items2 n2, slots := sl2 } ∧
        (∀ j (h1 : j < items.size) (h2 : j < items2.size), EqAt A.in1 s items[j] items2[j] (e j)) ∧ (∀ j (h1 : j < items.size) (h2 : j < items2.size), LtAt A.in1 s items[j] items2[j] (lt j)) ∧
        R (.ok (.ret (.bool (cmpFrom e lt items.size items2.size (min items.size items2.size) 0)))) s) := by
  intro prog w A R s h
  obtain ⟨hp, g, d, tk, os⟩ := s; obtain ⟨hl, hb, he, hlt, h⟩ := h
  have f3 := AutoSeq1.sub_list_list
  wp_walk using wpAny_loadPart' hl, wpAny_loadPart' hb
  exact ⟨plainId_quiet plain_eq_loop _, codeAny_builtin entry_eq_loop (by
    rw [Around.under_plainId plain_eq_loop _]
    exact lt_loopAt l b items items2 n n2 dd dd2 sl sl2 e lt _ 0 rfl prog w A R _ ⟨hl, hb, he, hlt, h⟩)⟩

theorem tuple_ltAt2 (l b : Addr) (a1 a2 b1 b2 : Value) (n n2 : Nat) (dd dd2 : Option Addr) (sl sl2 : Array (Option Value)) (e1 e2 l1 l2 : Bool) :
    Meets (Builtin.«tuple.__lt__» ⟨[.ref l, .ref b], []⟩)
      (fun A R s => s.heap.get? l = some { cls := .type "tuple", dict := dd, data := .seq #[a1, a2] n, slots := sl } ∧ s.heap.get? b = some { cls := .type "tuple", dict := dd2, data := .seq #[b1, b2] n2, slots := sl2 } ∧
        EqAt A.in1 s a1 b1 e1 ∧ EqAt A.in1 s a2 b2 e2 ∧ LtAt A.in1 s a1 b1 l1 ∧ LtAt A.in1 s a2 b2 l2 ∧
        R (.ok (.ret (.bool (if e1 then (if e2 then false else l2) else l1)))) s) :=
  .of_wp fun prog w A R s h => by
    obtain ⟨hp, g, d, tk, os⟩ := s; obtain ⟨hl, hb, he1, he2, hl1, hl2, h⟩ := h
    have f2 := AutoSeq1.sub_tuple_tuple
    wp_walk using wpAny_loadPart' hl, wpAny_loadPart' hb, wpAny_forIn_list _ (fun rest b s' => b.1 = none ∧ s' = ⟨hp, g, d, tk, os⟩ ∧
      ((rest = [(a1, b1), (a2, b2)] ∧ R (.ok (.ret (.bool (if e1 then (if e2 then false else l2) else l1)))) ⟨hp, g, d, tk, os⟩) ∨ (rest = [(a2, b2)] ∧ R (.ok (.ret (.bool (if e2 then false else l2)))) ⟨hp, g, d, tk, os⟩) ∨ (rest = [] ∧ R (.ok (.ret (.bool false))) ⟨hp, g, d, tk, os⟩))) _
    case turn =>
      rintro ⟨y, x⟩ rest b s' ⟨hb', rfl, ⟨hz, hR⟩ | ⟨hz, hR⟩ | ⟨hz, hR⟩⟩
      · cases hz
        refine wpAny_bind (he1 prog w _ _ ?_)
        cases e1 with
        | true =>
          wp_walk
          exact ⟨rfl, rfl, .inr (.inl ⟨rfl, by simpa using hR⟩)⟩
        | false =>
          refine wpAny_ite_split (fun _ => ?_) (fun hab => absurd rfl hab)
          refine wpAny_bind (wpAny_rule ?_)
          refine wpAny_bind (hl1 prog w _ _ ?_)
          wp_walk
          exact ⟨_, rfl, by simpa using hR⟩
      · cases hz
        refine wpAny_bind (he2 prog w _ _ ?_)
        cases e2 with
        | true =>
          wp_walk
          exact ⟨rfl, rfl, .inr (.inr ⟨rfl, by simpa using hR⟩)⟩
        | false =>
          refine wpAny_ite_split (fun _ => ?_) (fun hab => absurd rfl hab)
          refine wpAny_bind (wpAny_rule ?_)
          refine wpAny_bind (hl2 prog w _ _ ?_)
          wp_walk
          exact ⟨_, rfl, by simpa using hR⟩
      · cases hz
    case fin =>
      rintro ⟨b1, b2⟩ s' ⟨hb', rfl, ⟨hz, hR⟩ | ⟨hz, hR⟩ | ⟨hz, hR⟩⟩
      · cases hz
      · cases hz
      · simp only at hb'
        subst hb'
        wp_walk
        exact ⟨_, rfl, by simpa [Builtin.Tuple.tupleCompareSizes] using hR⟩
    case h =>
      exact ⟨rfl, rfl, .inl ⟨rfl, h⟩⟩

section
variable {A : Around} {s : Shared}
theorem LtAt.ints {a b : Int} {t u : Tok} : LtAt A s (.int a t) (.int b u) (decide (a < b)) := fun prog w E Q h => P.lt_int h
theorem LtAt.lists {l b : Addr} {items items2 : Array Value} {e lt : Nat → Bool} (hl : s.heap.IsList l items) (hb : s.heap.IsList b items2) (hu : A.units < cLine)
    (he : ∀ j (h1 : j < items.size) (h2 : j < items2.size), EqAt A.in1 s items[j] items2[j] (e j)) (hlt : ∀ j (h1 : j < items.size) (h2 : j < items2.size), LtAt A.in1 s items[j] items2[j] (lt j)) :
    LtAt A s (.ref l) (.ref b) (cmpFrom e lt items.size items2.size (min items.size items2.size) 0) := fun prog w E Q h => by
  obtain ⟨⟨cls, dd, data, sl⟩, ho, hc, n, hd⟩ := id hl
  obtain ⟨⟨cls2, dd2, data2, sl2⟩, ho2, hc2, n2, hd2⟩ := id hb
  simp only at hc hd hc2 hd2
  subst hc hd hc2 hd2
  exact richCompare_meets_room (op := .Lt) ⟨_, ho, rfl⟩ ⟨_, ho2, rfl⟩ F.slot_list_lt F.entry_list_lt (F.args_list_lt_2 _ _) (list_ltAt l b items items2 n n2 dd dd2 sl sl2 e lt)
    ⟨ho, ho2, he, hlt, show _ ∧ _ from ⟨(fun x => nomatch x), h⟩⟩ hu
theorem LtAt.tuples2 {l b : Addr} {a1 a2 b1 b2 : Value} {e1 e2 l1 l2 : Bool} (hl : s.heap.IsTuple l #[a1, a2]) (hb : s.heap.IsTuple b #[b1, b2]) (hu : A.units < cLine)
    (h1 : EqAt A.in1 s a1 b1 e1) (h2 : EqAt A.in1 s a2 b2 e2) (h3 : LtAt A.in1 s a1 b1 l1) (h4 : LtAt A.in1 s a2 b2 l2) :
    LtAt A s (.ref l) (.ref b) (if e1 then (if e2 then false else l2) else l1) := fun prog w E Q h => by
  obtain ⟨⟨cls, dd, data, sl⟩, ho, hc, n, hd⟩ := id hl
  obtain ⟨⟨cls2, dd2, data2, sl2⟩, ho2, hc2, n2, hd2⟩ := id hb
  simp only at hc hd hc2 hd2
  subst hc hd hc2 hd2
  exact richCompare_meets_room (op := .Lt) ⟨_, ho, rfl⟩ ⟨_, ho2, rfl⟩ F.slot_tuple_lt F.entry_tuple_lt (F.args_tuple_lt_2 _ _) (tuple_ltAt2 l b a1 a2 b1 b2 n n2 dd dd2 sl sl2 e1 e2 l1 l2)
    ⟨ho, ho2, h1, h2, h3, h4, show _ ∧ _ from ⟨(fun x => nomatch x), h⟩⟩ hu
end

def lexLt : List Int → List Int → Bool
  | _, [] => false
  | [], _ :: _ => true
  | x :: xs, y :: ys => if x = y then lexLt xs ys else decide (x < y)
/-- the order of (size, path) -/
def itemLt (a b : Int × List Int) : Bool := if a.1 = b.1 then lexLt a.2 b.2 else decide (a.1 < b.1)
def itemP (a : Int × List Int) : PV := .tup [.int a.1, .lst (a.2.map PV.int)]

theorem cmp_lex : ∀ (k : Nat) (xs ys : List Int) (i : Nat), i ≤ xs.length → i ≤ ys.length → min xs.length ys.length - i = k → cmpFrom (fun j => xs.getD j 0 == ys.getD j 0) (fun j => decide (xs.getD j 0 < ys.getD j 0)) xs.length ys.length k i = lexLt (xs.drop i) (ys.drop i)
  | 0, xs, ys, i, h1, h2, h => by
    unfold cmpFrom
    by_cases h3 : ys.length ≤ i
    · rw [List.drop_of_length_le h3]
      have : ¬ xs.length < ys.length := by omega
      simp [lexLt, this]
    · have h4 : xs.length ≤ i := by omega
      have h5 : i < ys.length := by omega
      rw [List.drop_of_length_le h4, List.drop_eq_getElem_cons h5]
      have : xs.length < ys.length := by omega
      simp [lexLt, this]
  | k + 1, xs, ys, i, h1, h2, h => by
    unfold cmpFrom
    have hx : i < xs.length := by omega
    have hy : i < ys.length := by omega
    rw [cmp_lex k xs ys (i + 1) (by omega) (by omega) (by omega), List.drop_eq_getElem_cons hx, List.drop_eq_getElem_cons hy, lexLt]
    simp [List.getD, hx, hy]

theorem ints_get : ∀ {vs : List Value} {ns : List Int} {j : Nat} {v : Value}, IntsAre vs ns → vs[j]? = some v → ∃ t, v = .int (ns.getD j 0) t
  | _, _, _, _, .nil, h => by simp at h
  | _, _, 0, _, .cons n t r, h => by simp at h; subst h; exact ⟨t, rfl⟩
  | _, _, j + 1, _, .cons n t r, h => by
    simp at h
    obtain ⟨t', e⟩ := ints_get r h
    exact ⟨t', by simpa using e⟩

theorem lexLt_irrefl : ∀ xs : List Int, lexLt xs xs = false
  | [] => rfl
  | x :: xs => by simp [lexLt, lexLt_irrefl xs]

section
variable {A : Around} {s : Shared}
theorem EqAt.ilists {a b : Addr} {us vs : List Value} {xs ys : List Int} (ha : s.heap.PlainList a us.toArray) (hb : s.heap.PlainList b vs.toArray) (hx : IntsAre us xs) (hy : IntsAre vs ys) (hu : A.units < cLine) :
    EqAt A s (.ref a) (.ref b) (decide (xs = ys)) := by
  have lx := hx.length
  have ly := hy.length
  by_cases hab : a = b
  · subst hab
    obtain ⟨n, h1⟩ := ha
    obtain ⟨m, h2⟩ := hb
    rw [h1] at h2
    have h3 : us = vs := by
      have := congrArg (fun o : Option Obj => o.map (·.data)) h2
      simp at this
      exact this.1
    subst h3
    have : xs = ys := hx.nums.symm.trans hy.nums
    rw [decide_eq_true this]
    exact EqAt.same _
  · refine EqAt.of_refs hab ?_
    by_cases hl : xs.length = ys.length
    · have := RcAt.lists (A := A) (s := s) (e := fun j => xs.getD j 0 == ys.getD j 0) ha.isList hb.isList (by simp; omega) hu (fun j h1 h2 => by
        obtain ⟨t, e1⟩ := ints_get hx (List.getElem?_eq_getElem (by simpa using h1))
        obtain ⟨u, e2⟩ := ints_get hy (List.getElem?_eq_getElem (by simpa using h2))
        simp only [List.getElem_toArray]
        rw [e1, e2]
        exact EqAt.int_int _ _ _ _)
      have q : (List.range us.toArray.size).all (fun j => xs.getD j 0 == ys.getD j 0) = decide (xs = ys) := by
        rw [Bool.eq_iff_iff]
        simp only [List.all_eq_true, List.mem_range, List.size_toArray, decide_eq_true_eq, beq_iff_eq]
        constructor
        · intro h
          apply List.ext_getElem hl
          intro i h1 h2
          have := h i (by omega)
          simpa [List.getD, h1, h2] using this
        · rintro rfl i _; rfl
      rw [← q]; exact this
    · have := RcAt.lists_lengths (A := A) (s := s) ha.isList hb.isList (by simp; omega) hu
      rw [decide_eq_false (fun e => hl (congrArg _ e))]
      exact this

theorem LtAt.ilists {a b : Addr} {us vs : List Value} {xs ys : List Int} (ha : s.heap.PlainList a us.toArray) (hb : s.heap.PlainList b vs.toArray) (hx : IntsAre us xs) (hy : IntsAre vs ys) (hu : A.units < cLine) :
    LtAt A s (.ref a) (.ref b) (lexLt xs ys) := by
  have lx := hx.length
  have ly := hy.length
  have := LtAt.lists (A := A) (s := s) (e := fun j => xs.getD j 0 == ys.getD j 0) (lt := fun j => decide (xs.getD j 0 < ys.getD j 0)) ha.isList hb.isList hu (fun j h1 h2 => by
        obtain ⟨t, e1⟩ := ints_get hx (List.getElem?_eq_getElem (by simpa using h1))
        obtain ⟨u, e2⟩ := ints_get hy (List.getElem?_eq_getElem (by simpa using h2))
        simp only [List.getElem_toArray]
        rw [e1, e2]
        exact EqAt.int_int _ _ _ _) (fun j h1 h2 => by
        obtain ⟨t, e1⟩ := ints_get hx (List.getElem?_eq_getElem (by simpa using h1))
        obtain ⟨u, e2⟩ := ints_get hy (List.getElem?_eq_getElem (by simpa using h2))
        simp only [List.getElem_toArray]
        rw [e1, e2]
        exact LtAt.ints)
  simp only [List.size_toArray, lx, ly] at this
  rw [cmp_lex _ xs ys 0 (Nat.zero_le _) (Nat.zero_le _) (by omega)] at this
  exact this

theorem lt_item {W W' : List Addr} {u v : Value} {a b : Int × List Int} (hu : A.units + 20 < cLine) (r₁ : Rep s.heap W (itemP a) u) (r₂ : Rep s.heap W' (itemP b) v) : LtAt A s u v (itemLt a b) := by
  simp only [itemP, Rep, RepL] at r₁ r₂
  obtain ⟨x, xs, rfl, -, tx, v1, rx1, rfl, ⟨t1, rfl⟩, v2, rx2, rfl, ⟨lx, us, rfl, -, hx, ix⟩, rfl⟩ := r₁
  obtain ⟨y, ys, rfl, -, ty, w1, ry1, rfl, ⟨t2, rfl⟩, w2, ry2, rfl, ⟨ly, ws, rfl, -, hy, iy⟩, rfl⟩ := r₂
  have := LtAt.tuples2 (A := A) tx ty (by omega) (EqAt.int_int _ _ _ _) (EqAt.ilists hx hy (ints_of ix) (ints_of iy) (by simp; omega)) LtAt.ints (LtAt.ilists hx hy (ints_of ix) (ints_of iy) (by simp; omega))
  have q : (if (a.1 == b.1) = true then (if decide (a.2 = b.2) = true then false else lexLt a.2 b.2) else decide (a.1 < b.1)) = itemLt a b := by
    unfold itemLt
    by_cases h : a.1 = b.1
    · simp only [h, beq_self_eq_true, if_true]
      by_cases h2 : a.2 = b.2
      · simp [h2, lexLt_irrefl]
      · simp [h2]
    · simp [h]
  rw [← q]
  exact this
end

section
variable {prog : Program} {w : World} {K : Frag} {H : Heap} {A : Around} {C : Cf}
/-- a < b, of items -/
theorem op_lt_item {a b : Int × List Int} (R : Room 3 A) : Op2 prog w H A C (compareOp .Lt) (itemP a) (itemP b) (.bool (itemLt a b)) := fun s u v Q E F r₁ r₂ k => by
  refine lt_item (by have := R.units; unfold cLine; omega) r₁ r₂ prog w E Q ?_
  exact k _ s .refl F (by simp [Rep])
end
end Mine

end

section
namespace Mine

abbrev Item := Int × List Int
def dI : Item := (0, [])
def sdown (x : Item) : Nat → Nat → List Item → List Item
  | 0, pos, l => l.set pos x
  | f + 1, pos, l => if 0 < pos ∧ itemLt x (l.getD ((pos - 1) / 2) dI) = true then sdown x f ((pos - 1) / 2) (l.set pos (l.getD ((pos - 1) / 2) dI)) else l.set pos x
def kid (l : List Item) (pos : Nat) : Nat := if 2 * pos + 1 + 1 < l.length ∧ itemLt (l.getD (2 * pos + 1) dI) (l.getD (2 * pos + 1 + 1) dI) = false then 2 * pos + 1 + 1 else 2 * pos + 1
def sup : Nat → Nat → List Item → Nat × List Item
  | 0, pos, l => (pos, l)
  | f + 1, pos, l => if 2 * pos + 1 < l.length then sup f (kid l pos) (l.set pos (l.getD (kid l pos) dI)) else (pos, l)
def siftup (l : List Item) : List Item :=
  let x := l.getD 0 dI
  let r := sup l.length 0 l
  sdown x r.1 r.1 (r.2.set r.1 x)
def hpush (l : List Item) (x : Item) : List Item := sdown x l.length l.length (l ++ [x])
/-- what is left of l ++ [x] when the first is taken -/
def hpop (l : List Item) (x : Item) : List Item := match l with
  | [] => []
  | y :: l => siftup (x :: l)
def hfirst (l : List Item) (x : Item) : Item := match l with
  | [] => x
  | y :: l => y

theorem sdown_length (x : Item) : ∀ (f pos : Nat) (l : List Item), (sdown x f pos l).length = l.length
  | 0, pos, l => by simp [sdown]
  | f + 1, pos, l => by
    unfold sdown
    split
    · rw [sdown_length x f]; simp
    · simp
theorem sup_length : ∀ (f pos : Nat) (l : List Item), (sup f pos l).2.length = l.length
  | 0, pos, l => by simp [sup]
  | f + 1, pos, l => by
    unfold sup
    split
    · rw [sup_length f]; simp
    · simp
theorem kid_lt {l : List Item} {pos : Nat} (h : 2 * pos + 1 < l.length) : kid l pos < l.length ∧ pos < kid l pos := by
  unfold kid
  split <;> omega
theorem sup_lt : ∀ (f pos : Nat) (l : List Item), pos < l.length → (sup f pos l).1 < l.length
  | 0, pos, l, h => by simpa [sup] using h
  | f + 1, pos, l, h => by
    unfold sup
    split
    · rename_i h2
      have := sup_lt f (kid l pos) (l.set pos (l.getD (kid l pos) dI)) (by simpa using (kid_lt h2).1)
      simpa using this
    · exact h
theorem siftup_length (l : List Item) : (siftup l).length = l.length := by
  simp [siftup, sdown_length, sup_length]
theorem hpush_length (l : List Item) (x : Item) : (hpush l x).length = l.length + 1 := by simp [hpush, sdown_length]
theorem hpop_length (l : List Item) (x : Item) : (hpop l x).length = l.length := by
  cases l with
  | nil => rfl
  | cons y l => simp [hpop, siftup_length]
end Mine

end

section
open PySem PySem.W PyProof.Rows PySem.Calls
namespace Mine
section
variable {prog : Program} {w : World} {K : Frag} {H : Heap} {A : Around} {C : Cf}

/-- a list at an address -/
def Lst (h : Heap) (W : List Addr) (a : Addr) (l : List PV) : Prop := ∃ us : List Value, h.PlainList a us.toArray ∧ RepL h W l us

/-- a def that writes one list: the list's new content, and the value -/
def FnL (prog : Program) (w : World) (H : Heap) (n : Nat) (f : Addr) (a : Addr) (ps : List PV) (l l' : List PV) (r : PV) : Prop :=
  ∀ (A : Around) (W : List Addr) (s : Shared) (vs : List Value) (Q : Value → Shared → Prop) (E : Value → Shared → Prop), Room n A → St0 H W s → a ∈ W → RepL s.heap W ps vs → Lst s.heap W a l →
    (∀ v s', (∃ h t, s' = { s with heap := h, toks := t }) → (0 < s.toks → 0 < s'.toks) → Ext [a] s.heap s'.heap → Lst s'.heap W a l' → Rep s'.heap W r v → Q v s') → wpAny (model prog w) A (call (.ref f) vs) Q E s

def retPL (a : Addr) (l' : List PV) (r : PV) : PQ := ⟨fun _ μ => r = .none ∧ μ = [(a, l')], fun _ _ => False, fun _ _ => False, fun p μ => p = r ∧ μ = [(a, l')]⟩

theorem fnl_intro {n : Nat} {f a : Addr} {oc : Value} {od : Option Addr} {osl : Array (Option Value)} {fd : FuncData} {body : List Stmt} {names : List Str} {ps l l' : List PV} {r : PV}
    (G : Gl w K H) (ho : K.lookup f = some ⟨oc, od, .func fd, osl⟩) (hbody : fd.body = .stmts body) (hcd : codeIn K fd.code fd.qualname = true)
    (hbind : ∀ vs : List Value, vs.length = ps.length → bindArgs fd ⟨vs, []⟩ = pure (names.zip vs)) (hclo : fd.closure = []) (hnd : names.Nodup) (hsn : (fd.scope.names.map (·.1)).Nodup)
    (hkind : ∀ x ∈ names, fd.scope.names.lookup x = some .local ∨ fd.scope.names.lookup x = some .cell)
    (run : ∀ A L s W, Room n A → Run prog w H A (cfF fd L f s [a] W (fun x => (names.zip ps).lookup x) [(a, l)] []) body (retPL a l' r))
    (hco : fd.scope.isCoroutine = false := by rfl) (hgen : fd.scope.isGenerator = false := by rfl) (hk : fd.scope.kind = .function := by rfl) : FnL prog w H (n + 1) f a ps l l' r := by
  intro A W s vs Q E R S ha hr hl k
  have hmem : ∀ x ∈ names.zip vs, x.1 ∈ names := fun x q => (List.of_mem_zip (a := x.1) (b := x.2) q).1
  refine wpAny_call (enter_fn (P := retPL a l' r) (X := [a]) (μ := [(a, l)]) (κ := []) (W := W) G S R.lim ho hbody hcd (.of_eq (hbind vs (hr.length))) hclo (zip_nodup hnd) hsn (fun x q => (kinds_ok hsn (hkind _ (hmem x q))).1) (fun x q => (kinds_ok hsn (hkind _ (hmem x q))).2) (fun x p e => zip_rep hr e)
    (fun b q => by simp at q; subst q; exact ha) (fun p q => by simp at q; subst q; exact .head _) (fun _ q => nomatch q) (by simp) (fun p q => by simp at q; subst q; exact hl) (fun L => run _ L s W R.deeper) ?_ hco hgen hk)
  rintro L fl s' ⟨W', ρ', μ', F', hp⟩
  have sub : ∀ b ∈ W, b ∈ W' := F'.bW
  have fin : μ' = [(a, l')] → Lst s'.heap W a l' := by
    rintro rfl
    obtain ⟨us, h1, h2⟩ := F'.lists (a, l') (List.mem_append_left _ (.head _))
    exact ⟨us, h1, h2.weak sub⟩
  cases fl with
  | ret v =>
    obtain ⟨p, r1, rfl, hμ⟩ := hp
    exact k v s' F'.same F'.up F'.ext (fin hμ) (r1.weak sub)
  | next =>
    obtain ⟨rfl, hμ⟩ := hp
    exact k .none s' F'.same F'.up F'.ext (fin hμ) (by simp [Rep])
  | cont => exact hp.elim
  | brk => exact hp.elim

/-- a call of such a def -/
theorem evm_Call_fnl {n i : Nat} {fx e : Expr} {es : List Expr} {f a : Addr} {oc : Value} {od : Option Addr} {osl : Array (Option Value)} {fd : FuncData} {pos : Pos} {ps l l' : List PV} {r : PV} (G : Gl w K H) (ho : K.lookup f = some ⟨oc, od, .func fd, osl⟩)
    (hF : FnL prog w H n f a ps l l' r) (R : Room n A) (hm : C.μ[i]? = some (a, l)) (hf : Ev prog w H A C fx (.ref f)) (ha : EvL prog w H A C (e :: es) ps)
    (he : eval (.Call fx (e :: es) [] pos) C.env = (do callWith pos (← eval fx C.env) [] (backTo pos (starEach (e :: es) C.env)) (backToKw pos (keywordEach [] C.env))) := by rfl)
    (hs : starEach (e :: es) C.env = (false, eval e C.env) :: starEach es C.env := by rfl) : EvM prog w H A C (.Call fx (e :: es) [] pos) r (C.μ.set i (a, l')) := fun s Q E F k =>
  Call_ (hf s _ E F fun u s₁ k₁ F₁ r₁ => by
    simp only [Rep] at r₁
    subst r₁
    refine callWith_def (fd := fd) (o := ⟨oc, od, .func fd, osl⟩) rfl (ha pos s₁ _ E F₁ fun vs s₂ k₂ F₂ r₂ => ⟨F₂.old _ _ (G.kin _ _ ho), ?_⟩) hs
    have hmem : (a, l) ∈ C.μ ++ C.κ := List.mem_append_left _ (List.mem_of_getElem? hm)
    have aW : a ∈ C.W := F₂.inW _ (all_list hmem)
    obtain ⟨us, z1, z2, -⟩ := F₂.list hmem
    refine hF A C.W s₂ vs _ E R F₂.st0 aW r₂ ⟨us, z1, z2⟩ ?_
    rintro v s' ⟨h, t, rfl⟩ hup x ⟨us', y1, y2⟩ r'
    exact k v _ (FS.setList F₂ hm y1 x y2 hup) r') he
theorem Run.nxt {sts : List Stmt} {P : PQ} {J : Env0 → Sto → Prop} (h : Run prog w H A C sts { P with nxt := J }) (k : ∀ ρ μ, J ρ μ → P.nxt ρ μ) : Run prog w H A C sts P := .of fun s F =>
  wpAny_mono (h.go s F) (fun f s' h => by
    obtain ⟨W, ρ, μ, b, c⟩ := h
    cases f with
    | next => exact ⟨W, ρ, μ, b, k ρ μ c⟩
    | cont => exact ⟨W, ρ, μ, b, c⟩
    | brk => exact ⟨W, ρ, μ, b, c⟩
    | ret v => exact ⟨W, ρ, μ, b, c⟩) fun _ _ x => x
theorem run_if_join {t : Expr} {body orelse rest : List Stmt} {pos : Pos} {b : Bool} {P : PQ} (J : Env0 → Sto → Prop) (ht : EvT prog w H A C t b)
    (hb : b = true → Run prog w H A C body { P with nxt := J }) (ho : b = false → Run prog w H A C orelse { P with nxt := J })
    (k : ∀ W ρ μ, J ρ μ → Run prog w H A ⟨C.env, C.s0, C.X, W, ρ, μ, C.τ, C.κ, C.B⟩ rest P) : Run prog w H A C (.If t body orelse pos :: rest) P :=
  run_if ht (fun h => Run.nxt (P := { P with nxt := After prog w H A C rest P }) (hb h) fun ρ μ q W => k W ρ μ q) (fun h => Run.nxt (P := { P with nxt := After prog w H A C rest P }) (ho h) fun ρ μ q W => k W ρ μ q)
end
end Mine

end

section
open PySem PySem.W PyProof.Rows PySem.Calls
namespace Mine
def minStep (b x : Item) : Item := if itemLt x b then x else b
section
variable {prog : Program} {w : World} {K : Frag} {H : Heap} {A : Around} {C : Cf}

theorem FS.new0 {s : Shared} (F : FS H C s) {I : Addr} (n : s.heap.get? I = none) : C.s0.heap.get? I = none := by
  cases z : C.s0.heap.get? I with
  | none => rfl
  | some o =>
    by_cases hx : I ∈ C.X
    · obtain ⟨o', e⟩ := F.live I (F.bW I (F.xB I hx))
      rw [n] at e; cases e
    · rw [F.ext I o hx z] at n; cases n

theorem min_loop {R : Result → Shared → Prop} {ax I S : Addr} {l : List Item} (RR : Room 3 A) (hm : (ax, l.map itemP) ∈ C.μ ++ C.κ) (hI : I ∉ C.W) (hS : S ∉ C.W) (hne : S ≠ I) (hI0 : C.s0.heap.get? I = none) (hS0 : C.s0.heap.get? S = none) (hsub : ∀ b ∈ allL C.env (C.μ ++ C.κ), b ∈ C.W) :
    ∀ (k j : Nat) (s : Shared) (vb : Value) (c : Nat) (b : Item), l.length - (j + 1) = k → j + 1 ≤ l.length → FS H { C with W := S :: I :: C.W } s → s.heap.IsListIter I ax (j + 1) → Rep s.heap (S :: I :: C.W) (itemP b) vb →
    s.heap.get? S = some { cls := .type "list", dict := none, data := .seq #[vb, vb] c, slots := #[] } →
    (∀ v s', (∃ h t, s' = { s with heap := h, toks := t }) → Ext [S, I] s.heap s'.heap → Rep s'.heap (S :: I :: C.W) (itemP ((l.drop (j + 1)).foldl minStep b)) v → R (.ok (.ret v)) s') →
    codeAny (model prog w) A (.builtin "min.loop" ⟨[.ref I, .none, .ref S], []⟩) R s := by
  have hname : (toString "min" ++ toString ".loop" : String) = "min.loop" := by decide
  have hIo : I ∉ allL C.env (C.μ ++ C.κ) := fun q => hI (hsub _ q)
  have hSo : S ∉ allL C.env (C.μ ++ C.κ) := fun q => hS (hsub _ q)
  have hW : Wk prog w H A.in1 I (l.map itemP) (fun C' => (ax, l.map itemP) ∈ C'.μ ++ C'.κ) (fun i h => h.IsListIter I ax i) := wk_list RR.handled fun C' s' F' ok => F'.lists _ ok
  intro k
  induction k with
  | zero =>
    intro j s vb c b hk hj F hst hPb hSS hR
    have hin : j + 1 = l.length := by omega
    refine codeAny_builtin PySem.F.entry_min_loop ?_
    rw [Around.under_plainId PySem.F.plain_min_loop _]
    show wpAny _ A.in1 (seqItems? (.ref S) >>= _) _ _ s
    refine wpAny_bind (wpAny_seqItems hSS rfl ?_)
    show wpAny _ A.in1 (tryCatch (pyNext (.ref I)) _ >>= _) _ _ s
    refine wpAny_bind (wpAny_tryCatch (hW.done _ s _ _ F hm (by rw [List.length_map, ← hin]; exact hst) fun h' tk e _ => ?_))
    have hS' := e S _ (by simpa using hne) hSS
    obtain ⟨oI, hoI, _⟩ := id hst
    show wpAny _ A.in1 (updateSeq S (fun _ => #[]) >>= _) _ _ _
    refine wpAny_bind ?_
    refine wpAny_updateSeq hS' rfl (wpAny_bind (wpAny_letGo (wpAny_pure ?_)))
    have x : Ext [S, I] s.heap (h'.update S (Obj.mapSeq fun _ => #[])) := fun b o hb q => (Heap.get?_update_other _ _ (fun z : S = b => hb (by simp [z]))).trans (e b o (fun z => hb (by simp at z; simp [z])) q)
    refine hR vb _ ⟨_, _, rfl⟩ x ?_
    have hd : l.drop (j + 1) = [] := by rw [hin]; simp
    rw [hd]
    exact hPb.ext x (fun b q => by simp at q; rcases q with rfl | rfl; · exact .head _
                                   · exact .tail _ (.head _))
  | succ k ih =>
    intro j s vb c b hk hj F hst hPb hSS hR
    have hlt : j + 1 < l.length := by omega
    refine codeAny_builtin PySem.F.entry_min_loop ?_
    rw [Around.under_plainId PySem.F.plain_min_loop _]
    show wpAny _ A.in1 (seqItems? (.ref S) >>= _) _ _ s
    refine wpAny_bind (wpAny_seqItems hSS rfl ?_)
    show wpAny _ A.in1 (tryCatch (pyNext (.ref I)) _ >>= _) _ _ s
    have hx : l[j + 1]? = some l[j + 1] := List.getElem?_eq_getElem hlt
    refine wpAny_bind (wpAny_tryCatch (hW.item (j + 1) (itemP l[j + 1]) _ s _ _ (by rw [List.getElem?_map, hx]; rfl) F hm hst fun v h' tk rv hst' e al ht => ?_))
    have hS' := e S _ (by simpa using hne) hSS
    have F1 := FS.touch (tk := tk) F (I := I) (h' := h') (.tail _ (.head _)) hIo (.inr hI0) e al ht
    have rv1 := rv.ext e (fun b q => by simp at q; subst q; exact .tail _ (.head _))
    have rb1 := hPb.ext e (fun b q => by simp at q; subst q; exact .tail _ (.head _))
    show wpAny _ A.in1 (tryCatch (holding [v, v] (richCompare .Lt v vb >>= _)) _ >>= _) _ _ _
    refine wpAny_bind (wpAny_tryCatch (wpAny_holding (wpAny_bind (lt_item (A := A.in1) (s := { s with heap := h', toks := tk }) (by have := RR.units; simp; unfold cLine; omega) rv1 rb1 prog w _ _ ?_))))
    refine wpAny_bind (wpAny_holding (wpAny_truthy_bool ?_))
    refine wpAny_bind (wpAny_letGo (wpAny_pure ?_))
    have hd : l.drop (j + 1) = l[j + 1] :: l.drop (j + 1 + 1) := List.drop_eq_getElem_cons hlt
    rw [hd] at hR
    simp only [List.foldl_cons, minStep] at hR
    cases hb : itemLt l[j + 1] b with
    | true =>
      simp only [hb, if_true] at hR
      simp only [if_true]
      refine wpAny_bind ?_
      refine wpAny_updateSeq hS' rfl (wpAny_bind (wpAny_letGo ?_))
      rw [hname]
      have x2 : Ext [S] h' (h'.update S (Obj.mapSeq fun _ => #[v, v])) := fun b o hb q => (Heap.get?_update_other _ _ (fun z : S = b => hb (by simp [z]))).trans q
      have nS := Heap.get?_update_self (Obj.mapSeq fun _ => #[v, v]) hS' rfl
      have F2 := FS.touch (tk := tk) F1 (I := S) (h' := h'.update S (Obj.mapSeq fun _ => #[v, v])) (.head _) hSo (.inr hS0) x2 ⟨_, nS⟩ (fun h => h)
      refine wpAny_pure ⟨plainId_quiet PySem.F.plain_min_loop _, ih (j + 1) _ v _ l[j + 1] (by omega) hlt F2 (listIter_at hst' fun o q => x2 I o (by simpa using Ne.symm hne) q) (rv1.ext x2 (fun b q => by simp at q; subst q; exact .head _)) nS fun v' s' e1 x' r' => hR v' s' ?_ ?_ r'⟩
      · obtain ⟨h, t, rfl⟩ := e1; exact ⟨h, t, rfl⟩
      · exact ((e.mono (by simp)).trans (x2.mono (by simp))).trans x'
    | false =>
      simp only [hb, Bool.false_eq_true, if_false] at hR
      simp only [Bool.false_eq_true, if_false]
      refine wpAny_bind (wpAny_letGo ?_)
      rw [hname]
      refine wpAny_pure ⟨plainId_quiet PySem.F.plain_min_loop _, ih (j + 1) _ vb c b (by omega) hlt F1 hst' rb1 hS' fun v' s' e1 x' r' => hR v' s' ?_ ?_ r'⟩
      · obtain ⟨h, t, rfl⟩ := e1; exact ⟨h, t, rfl⟩
      · exact (e.mono (by simp)).trans x'

theorem opn_min_items {a : Addr} {l : List Item} {x : Item} {r : List Item} (RR : Room 5 A) (hx : l = x :: r) (hm : (a, l.map itemP) ∈ C.μ ++ C.κ) : OpN prog w H A C (fun vs => call (.builtin "min") vs) [.ref a] (itemP (r.foldl minStep x)) := fun s vs Q E F rr kQ => by
  simp only [RepL, Rep] at rr
  obtain ⟨v0, r', rfl, rfl, rfl⟩ := rr
  obtain ⟨us, hpl, rl, hlen⟩ := F.list hm
  have hname : (toString "min" ++ toString ".loop" : String) = "min.loop" := by decide
  refine wpAny_toks (call_function_tree PySem.F.kind_min PySem.F.plain_min PySem.F.entry_min (PySem.F.args_min1 _) ?_)
  show wpAny _ A.in1 (Builtin.Builtins.bindParams "min" ["key", "default"] 0 ⟨[], []⟩ >>= _) _ _ s
  refine wpAny_bind (wpAny_of_eq (show Builtin.Builtins.bindParams "min" ["key", "default"] 0 ⟨[], []⟩ = pure [none, none] from rfl) ?_)
  refine wpAny_bind (wpAny_pure ?_)
  refine wpAny_bind (wpAny_pyIter_list hpl.isList ?_)
  have nI := get_size_none s.heap
  have F1 := F.widen (a := s.heap.objs.size) nI (s' := { s with heap := s.heap.push { cls := .type "list_iterator", data := .fields #[.ref a, .int 0 0] } }) .push ⟨_, Heap.get?_push_size _ rfl⟩
  refine wpAny_bind (wpAny_newObj_type ?_)
  have hIS : (s.heap.push { cls := .type "list_iterator", data := .fields #[.ref a, .int 0 0] }).get? s.heap.objs.size = some _ := Heap.get?_push_size _ rfl
  generalize hh1 : s.heap.push { cls := .type "list_iterator", data := .fields #[.ref a, .int 0 0] } = h1 at F1 hIS ⊢
  have k1 : KeepS s { s with heap := h1 } := by rw [← hh1]; exact .push
  generalize s.heap.objs.size = I at nI F1 hIS ⊢
  have nS := get_size_none h1
  have hSS : (h1.push { cls := .type "list", data := .seq #[] }).get? h1.objs.size = some { cls := .type "list", data := .seq #[] } := Heap.get?_push_size _ rfl
  have F2 := F1.widen (a := h1.objs.size) nS (s' := { s with heap := h1.push { cls := .type "list", data := .seq #[] } }) .push ⟨_, hSS⟩
  have k2 : KeepS s { s with heap := h1.push { cls := .type "list", data := .seq #[] } } := k1.trans (.push (s := { s with heap := h1 }))
  have hne : h1.objs.size ≠ I := fun z => by rw [z, hIS] at nS; cases nS
  generalize h1.objs.size = S at nS hSS F2 hne ⊢
  have hIS2 : (h1.push { cls := .type "list", data := .seq #[] }).get? I = some _ := Heap.get?_push_of_some _ hIS
  generalize h1.push { cls := .type "list", data := .seq #[] } = h2 at hSS F2 k2 hIS2 ⊢
  have nS0 : s.heap.get? S = none := none_back k1 nS
  have hIW : I ∉ C.W := not_mem_of_none F nI
  have hSW : S ∉ C.W := not_mem_of_none F nS0
  have hI0 := F.new0 nI
  have hS0 := F.new0 nS0
  have hIo : I ∉ allL C.env (C.μ ++ C.κ) := fun q => hIW (F.inW _ q)
  have hSo : S ∉ allL C.env (C.μ ++ C.κ) := fun q => hSW (F.inW _ q)
  rw [hname]
  refine wpAny_pure ⟨plainId_quiet PySem.F.plain_min_loop _, codeAny_builtin PySem.F.entry_min_loop ?_⟩
  rw [Around.under_plainId PySem.F.plain_min_loop _]
  show wpAny _ A.in1 (seqItems? (.ref S) >>= _) _ _ _
  refine wpAny_bind (wpAny_seqItems hSS rfl ?_)
  show wpAny _ A.in1 (tryCatch (pyNext (.ref I)) _ >>= _) _ _ _
  have hW : Wk prog w H A.in1 I (l.map itemP) (fun C' => (a, l.map itemP) ∈ C'.μ ++ C'.κ) (fun i h => h.IsListIter I a i) := wk_list RR.handled fun C' s' F' ok => F'.lists _ ok
  have hst : h2.IsListIter I a 0 := ⟨_, hIS2, rfl, rfl⟩
  refine wpAny_bind (wpAny_tryCatch (hW.item 0 (itemP x) _ { s with heap := h2 } _ _ (by rw [hx]; rfl) F2 hm hst fun v h' tk rv hst' e al ht => ?_))
  have hS' := e S _ (by simpa using hne) hSS
  show wpAny _ A.in1 (updateSeq S (fun _ => #[v, v]) >>= _) _ _ _
  refine wpAny_bind ?_
  refine wpAny_updateSeq hS' rfl ?_
  rw [hname]
  have G1 := FS.touch (tk := tk) F2 (I := I) (h' := h') (.tail _ (.head _)) hIo (.inr hI0) e al ht
  have x2 : Ext [S] h' (h'.update S (Obj.mapSeq fun _ => #[v, v])) := fun b o hb q => (Heap.get?_update_other _ _ (fun z : S = b => hb (by simp [z]))).trans q
  have mS := Heap.get?_update_self (Obj.mapSeq fun _ => #[v, v]) hS' rfl
  have G2 := FS.touch (tk := tk) G1 (I := S) (h' := h'.update S (Obj.mapSeq fun _ => #[v, v])) (.head _) hSo (.inr hS0) x2 ⟨_, mS⟩ (fun h => h)
  refine wpAny_pure ⟨plainId_quiet PySem.F.plain_min_loop _, min_loop (C := C) (l := l) (RR.less (by omega)) hm hIW hSW hne hI0 hS0 F.inW _ 0 _ v _ x rfl (by rw [hx]; simp) G2 (listIter_at hst' fun o q => x2 I o (by simpa using Ne.symm hne) q) ((rv.ext e (fun b q => by simp at q; subst q; exact .tail _ (.head _))).ext x2 (fun b q => by simp at q; subst q; exact .head _)) mS ?_⟩
  rintro v' s' ⟨h, t, rfl⟩ x' r' htk
  have kk : KeepS s { s with heap := h, toks := t } := .of (z := fun z => Nat.lt_of_lt_of_le z htk) fun b o q => by
    have hbI : b ≠ I := fun z => by rw [z, nI] at q; cases q
    have hbS : b ≠ S := fun z => by rw [z, nS0] at q; cases q
    exact x' b o (by simp [hbI, hbS]) (x2 b o (by simpa using hbS) (e b o (by simpa using hbI) (k2.keep b o q)))
  refine kQ _ _ kk (F.keeps kk) ?_
  have : (l.drop (0 + 1)).foldl minStep x = r.foldl minStep x := by rw [hx]; rfl
  rw [← this]
  exact r'.weak fun b q => .tail _ (.tail _ q)
end
end Mine

end

section
open PySem PySem.W PyProof.Rows PySem.Calls
namespace Mine

def fmaxs (a b : UInt64) : UInt64 := if Float64.cmp a b == some .lt then b else a
def fmins (a b : UInt64) : UInt64 := if Float64.cmp b a == some .lt then b else a
def feq (a b : UInt64) : Bool := Float64.cmp a b == some Ordering.eq
section
variable {prog : Program} {w : World} {K : Frag} {H : Heap} {A : Around} {C : Cf}

theorem ev_flo {x : UInt64} {kd : Nat} {pos : Pos} (hz : H.life.known = 0) : Ev prog w H A C (.Constant (.float x) kd pos) (.flo x) := fun s Q E F k =>
  AutoFloatOps.wpAny_Constant_float (k _ _ .tok (tok_keep F) (by simp only [Rep]; exact ⟨_, Nat.ne_of_gt (F.tk hz), rfl⟩))

theorem op_flo2 {t : Value → Value → Sem Value} {a b c : UInt64} (hz : H.life.known = 0) (h : ∀ (s : Shared) (u v : Tok) (Q : Value → Shared → Prop) (E : Value → Shared → Prop), Q (.float c s.toks) { s with toks := s.toks + 1 } → wpAny (model prog w) A (t (.float a u) (.float b v)) Q E s) :
    Op2 prog w H A C t (.flo a) (.flo b) (.flo c) := fun s u v Q E F r₁ r₂ k => by
  simp only [Rep] at r₁ r₂
  obtain ⟨t1, _, rfl⟩ := r₁
  obtain ⟨t2, _, rfl⟩ := r₂
  exact h s t1 t2 Q E (k _ _ .tok (tok_keep F) (by simp only [Rep]; exact ⟨_, Nat.ne_of_gt (F.tk hz), rfl⟩))
theorem op_fadd {a b : UInt64} (hz : H.life.known = 0) : Op2 prog w H A C (binaryOp .Add) (.flo a) (.flo b) (.flo (Float64.add a b)) := op_flo2 hz fun s u v Q E h => AutoFloatOps.add_0 h
theorem op_fsub {a b : UInt64} (hz : H.life.known = 0) : Op2 prog w H A C (binaryOp .Sub) (.flo a) (.flo b) (.flo (Float64.sub a b)) := op_flo2 hz fun s u v Q E h => AutoFloatOps.sub_0 h
theorem op_fdivf {a b : UInt64} (hz : H.life.known = 0) (hb : Float64.isZero b = false) : Op2 prog w H A C (binaryOp .Div) (.flo a) (.flo b) (.flo (Float64.div a b)) := op_flo2 hz fun s u v Q E h => AutoFloatOps.truediv_1 (by rw [hb]; decide) h
theorem op_fmod {a b : UInt64} (hz : H.life.known = 0) (hb : Float64.isZero b = false) : Op2 prog w H A C (binaryOp .Mod) (.flo a) (.flo b) (.flo (Float64.divmod a b).snd) := op_flo2 hz fun s u v Q E h => AutoFloatOps.mod_1 (by rw [hb]; decide) h
theorem op_fcmp2 {t : Value → Value → Sem Value} {a b : UInt64} {c : Bool} (h : ∀ (s : Shared) (u v : Tok) (Q : Value → Shared → Prop) (E : Value → Shared → Prop), Q (.bool c) s → wpAny (model prog w) A (t (.float a u) (.float b v)) Q E s) :
    Op2 prog w H A C t (.flo a) (.flo b) (.bool c) := fun s u v Q E F r₁ r₂ k => by
  simp only [Rep] at r₁ r₂
  obtain ⟨t1, _, rfl⟩ := r₁
  obtain ⟨t2, _, rfl⟩ := r₂
  exact h s t1 t2 Q E (k _ _ .refl F (by simp [Rep]))
theorem op_feq {a b : UInt64} : Op2 prog w H A C (compareOp .Eq) (.flo a) (.flo b) (.bool (feq a b)) := op_fcmp2 fun s u v Q E h => AutoFloatOps.eq_0 h
theorem op_fle {a b : UInt64} : Op2 prog w H A C (compareOp .LtE) (.flo a) (.flo b) (.bool (Float64.cmp a b == some Ordering.lt || Float64.cmp a b == some Ordering.eq)) := op_fcmp2 fun s u v Q E h => AutoFloatOps.le_0 h
theorem op_fgt {a b : UInt64} : Op2 prog w H A C (compareOp .Gt) (.flo a) (.flo b) (.bool (Float64.cmp a b == some Ordering.gt)) := op_fcmp2 fun s u v Q E h => AutoFloatOps.gt_0 h
/-- int / int -/
theorem op_div_ii {a b : Int} (hz : H.life.known = 0) (hb : b ≠ 0) (hi : Float64.isInf (Float64.ofFrac (decide (a < 0) != decide (b < 0)) a.natAbs b.natAbs) = false) : Op2 prog w H A C (binaryOp .Div) (.int a) (.int b) (.flo (Float64.ofFrac (decide (a < 0) != decide (b < 0)) a.natAbs b.natAbs)) := fun s u v Q E F r₁ r₂ k => by
  simp only [Rep] at r₁ r₂
  obtain ⟨t1, rfl⟩ := r₁
  obtain ⟨t2, rfl⟩ := r₂
  exact AutoIntOps.truediv_2 (by simpa using hb) (by rw [hi]; decide) (k _ _ .tok (tok_keep F) (by simp only [Rep]; exact ⟨_, Nat.ne_of_gt (F.tk hz), rfl⟩))
/-- float * int -/
theorem op_mul_fi {a : UInt64} {b : Int} (hz : H.life.known = 0) (hi : Float64.isInf (Float64.ofInt b) = false) : Op2 prog w H A C (binaryOp .Mult) (.flo a) (.int b) (.flo (Float64.mul a (Float64.ofInt b))) := fun s u v Q E F r₁ r₂ k => by
  simp only [Rep] at r₁ r₂
  obtain ⟨t1, _, rfl⟩ := r₁
  obtain ⟨t2, rfl⟩ := r₂
  exact AutoFloatOps.mul_fi_1 (by rw [hi]; decide) (k _ _ .tok (tok_keep F) (by simp only [Rep]; exact ⟨_, Nat.ne_of_gt (F.tk hz), rfl⟩))
/-- int(float) -/
theorem opn_int_flo {x : UInt64} (hh : A.handled = none) (hf : Float64.isFinite x = true) (hn : Float64.isNaN x = false) (hi : Float64.isInf x = false) : OpN prog w H A C (fun vs => call (.type "int") vs) [.flo x] (.int (Flt.toInt Float64.truncOf x)) := fun s vs Q E F r k => by
  simp only [RepL, Rep] at r
  obtain ⟨v, r', rfl, ⟨t, _, rfl⟩, rfl⟩ := r
  exact Flt.call_int_float3 hh (fun z => by rw [hn] at z; cases z) (fun z => by rw [hi] at z; cases z) fun _ => k _ _ .tok (tok_keep F) (by simp [Rep])

theorem max_three_num {s : Shared} {E : Value → Shared → Prop} {Q : Value → Shared → Prop} {a b c : UInt64} {t u v : Tok} (hh : A.handled = none)
    (h1 : t ≠ 0) (h2 : u ≠ 0) (h3 : v ≠ 0) (h : ∀ h' tk t', (∀ c o, s.heap.get? c = some o → h'.get? c = some o) → t' ≠ 0 → Q (.float (fmaxs (fmaxs a b) c) t') { s with heap := h', toks := tk }) :
    wpAny (model prog w) A (call (.builtin "max") [.float a t, .float b u, .float c v]) Q E s := by
  have hT : (s.heap.push { cls := .type "tuple", data := .seq #[.float a t, .float b u, .float c v] }).IsTuple s.heap.objs.size #[.float a t, .float b u, .float c v] := ⟨_, Heap.get?_push_size _ rfl, rfl, 0, rfl⟩
  refine call_max_three (wpAny_pyIter_tuple hT ?_)
  have hsz : (s.heap.push { cls := .type "tuple", data := .seq #[.float a t, .float b u, .float c v] }).objs.size = s.heap.objs.size + 1 := Heap.size_push ..
  refine ⟨_, [_, s.heap.objs.size], [_], _, _, _, _, rfl, Walks.tuple (A := A.in1) hh _ s.heap.objs.size (by rw [hsz]; exact Nat.ne_of_lt (Nat.lt_succ_self _)) #[.float a t, .float b u, .float c v],
    ⟨⟨_, Heap.get?_push_size _ rfl, rfl, rfl⟩, hT.push _⟩, fun c hc => ?_, by simp, Flt.cmpOf_gt #[.float a t, .float b u, .float c v] (by intro v hv; simp at hv; rcases hv with rfl | rfl | rfl <;> exact .float _ _), fun v h' tk hP hk => ?_⟩
  · show c < ((s.heap.push _).push _).objs.size
    rw [Heap.size_push, hsz]
    rcases List.mem_cons.mp hc with rfl | hc
    · rw [hsz]; exact Nat.lt_succ_self _
    · rcases List.mem_cons.mp hc with rfl | hc
      · exact Nat.lt_succ_of_lt (Nat.lt_succ_self _)
      · cases hc
  · have hold : ∀ c o, s.heap.get? c = some o → h'.get? c = some o := fun c o e => by
      refine hk c o (fun hm => ?_) (Heap.get?_push_of_some _ (Heap.get?_push_of_some _ e))
      rcases List.mem_cons.mp hm with e1 | hm
      · have := Heap.lt_size e; rw [e1, hsz] at this; exact Nat.lt_irrefl _ (Nat.lt_of_succ_lt this)
      · cases hm
    have hv : ∃ t', t' ≠ 0 ∧ v = .float (fmaxs (fmaxs a b) c) t' := by
      unfold fmaxs
      cases q1 : Float64.cmp a b == some .lt <;> cases q2 : Float64.cmp a c == some .lt <;> cases q3 : Float64.cmp b c == some .lt <;> simp [argBest, Flt.ltV, q1, q2, q3] at hP <;> (simp only [Bool.false_eq_true, if_false, if_true, q2, q3]; exact ⟨_, by assumption, hP.symm⟩)
    obtain ⟨t', hne, rfl⟩ := hv
    exact h h' tk t' hold hne
theorem min_three_num {s : Shared} {E : Value → Shared → Prop} {Q : Value → Shared → Prop} {a b c : UInt64} {t u v : Tok} (hh : A.handled = none)
    (h1 : t ≠ 0) (h2 : u ≠ 0) (h3 : v ≠ 0) (h : ∀ h' tk t', (∀ c o, s.heap.get? c = some o → h'.get? c = some o) → t' ≠ 0 → Q (.float (fmins (fmins a b) c) t') { s with heap := h', toks := tk }) :
    wpAny (model prog w) A (call (.builtin "min") [.float a t, .float b u, .float c v]) Q E s := by
  have hT : (s.heap.push { cls := .type "tuple", data := .seq #[.float a t, .float b u, .float c v] }).IsTuple s.heap.objs.size #[.float a t, .float b u, .float c v] := ⟨_, Heap.get?_push_size _ rfl, rfl, 0, rfl⟩
  refine call_min_three (wpAny_pyIter_tuple hT ?_)
  have hsz : (s.heap.push { cls := .type "tuple", data := .seq #[.float a t, .float b u, .float c v] }).objs.size = s.heap.objs.size + 1 := Heap.size_push ..
  refine ⟨_, [_, s.heap.objs.size], [_], _, _, _, _, rfl, Walks.tuple (A := A.in1) hh _ s.heap.objs.size (by rw [hsz]; exact Nat.ne_of_lt (Nat.lt_succ_self _)) #[.float a t, .float b u, .float c v],
    ⟨⟨_, Heap.get?_push_size _ rfl, rfl, rfl⟩, hT.push _⟩, fun c hc => ?_, by simp, Flt.cmpOf_lt #[.float a t, .float b u, .float c v] (by intro v hv; simp at hv; rcases hv with rfl | rfl | rfl <;> exact .float _ _), fun v h' tk hP hk => ?_⟩
  · show c < ((s.heap.push _).push _).objs.size
    rw [Heap.size_push, hsz]
    rcases List.mem_cons.mp hc with rfl | hc
    · rw [hsz]; exact Nat.lt_succ_self _
    · rcases List.mem_cons.mp hc with rfl | hc
      · exact Nat.lt_succ_of_lt (Nat.lt_succ_self _)
      · cases hc
  · have hold : ∀ c o, s.heap.get? c = some o → h'.get? c = some o := fun c o e => by
      refine hk c o (fun hm => ?_) (Heap.get?_push_of_some _ (Heap.get?_push_of_some _ e))
      rcases List.mem_cons.mp hm with e1 | hm
      · have := Heap.lt_size e; rw [e1, hsz] at this; exact Nat.lt_irrefl _ (Nat.lt_of_succ_lt this)
      · cases hm
    have hv : ∃ t', t' ≠ 0 ∧ v = .float (fmins (fmins a b) c) t' := by
      unfold fmins
      cases q1 : Float64.cmp b a == some .lt <;> cases q2 : Float64.cmp c a == some .lt <;> cases q3 : Float64.cmp c b == some .lt <;> simp [argBest, Flt.ltV, q1, q2, q3] at hP <;> (simp only [Bool.false_eq_true, if_false, if_true, q2, q3]; exact ⟨_, by assumption, hP.symm⟩)
    obtain ⟨t', hne, rfl⟩ := hv
    exact h h' tk t' hold hne
theorem opn_max3 {a b c : UInt64} (hh : A.handled = none) : OpN prog w H A C (fun vs => call (.builtin "max") vs) [.flo a, .flo b, .flo c] (.flo (fmaxs (fmaxs a b) c)) := fun s vs Q E F r k => by
  simp only [RepL, Rep] at r
  obtain ⟨v, r', rfl, ⟨t, z1, rfl⟩, v2, r2, rfl, ⟨t2, z2, rfl⟩, v3, r3, rfl, ⟨t3, z3, rfl⟩, rfl⟩ := r
  refine wpAny_toks (max_three_num hh z1 z2 z3 fun h' tk t' hk hne ht => ?_)
  have kk : KeepS s { s with heap := h', toks := tk } := .of hk fun z => Nat.lt_of_lt_of_le z ht
  exact k _ _ kk (F.keeps kk) (by simp only [Rep]; exact ⟨_, hne, rfl⟩)
theorem opn_min3 {a b c : UInt64} (hh : A.handled = none) : OpN prog w H A C (fun vs => call (.builtin "min") vs) [.flo a, .flo b, .flo c] (.flo (fmins (fmins a b) c)) := fun s vs Q E F r k => by
  simp only [RepL, Rep] at r
  obtain ⟨v, r', rfl, ⟨t, z1, rfl⟩, v2, r2, rfl, ⟨t2, z2, rfl⟩, v3, r3, rfl, ⟨t3, z3, rfl⟩, rfl⟩ := r
  refine wpAny_toks (min_three_num hh z1 z2 z3 fun h' tk t' hk hne ht => ?_)
  have kk : KeepS s { s with heap := h', toks := tk } := .of hk fun z => Nat.lt_of_lt_of_le z ht
  exact k _ _ kk (F.keeps kk) (by simp only [Rep]; exact ⟨_, hne, rfl⟩)
end
end Mine

end

section
open PySem PySem.W PyProof.Rows PySem.Calls
namespace Mine
section
variable {prog : Program} {w : World} {K : Frag} {H : Heap} {A : Around} {C : Cf}

theorem tupIter_at {h h' : Heap} {a l : Addr} {i : Nat} (x : h.IsTupleIter a l i) (e : ∀ o, h.get? a = some o → h'.get? a = some o) : h'.IsTupleIter a l i := let ⟨o, ho, r⟩ := x; ⟨o, e o ho, r⟩

theorem wk_tup {I ax : Addr} {ps : List PV} {Ok : Cf → Prop} (hh : A.handled = none)
    (hok : ∀ C s, FS H C s → Ok C → ∃ vs : List Value, s.heap.IsTuple ax vs.toArray ∧ RepL s.heap C.W ps vs) :
    Wk prog w H A I ps Ok (fun i h => h.IsTupleIter I ax i) where
  stay := fun i h h' st k => tupIter_at st k
  item := fun i p C s Q E hp F ok st k => by
    obtain ⟨vs, hl, r⟩ := hok C s F ok
    obtain ⟨v, hv, rv⟩ := r.get hp
    refine wpAny_pyNext_tuple_item st hl (x := v) (by simpa using hv) fun h' st' hs => ?_
    exact k v h' s.toks rv st' (Ext.of_same hs) (let ⟨o, z, _⟩ := st'; ⟨o, z⟩) (fun h => h)
  done := fun C s Q E F ok st k => by
    obtain ⟨vs, hl, r⟩ := hok C s F ok
    refine wpAny_pyNext_tuple_end hh st hl (by simp [r.length]) fun h' he => ?_
    exact k h' s.toks (fun b o n e => he b o (by simpa using n) e) (fun h => h)
  self := fun i s Q E st q => wpAny_pyIter_tupleiter st q
  go := fun i s t v Q E st g q => by
    obtain ⟨o, ho, hc, hd⟩ := st
    exact ltg_other ho hc hd (by decide) g q

theorem itr_tup {e : Expr} {ps : List PV} (hh : A.handled = none) (he : Ev prog w H A C e (.tup ps)) : Itr prog w H A C e ps [] := fun s Q E F k =>
  he s _ E F fun v s₁ k₁ F₁ r₁ => by
    have r₀ := r₁
    simp only [Rep] at r₁
    obtain ⟨ax, vs, rfl, na, hl, rl⟩ := r₁
    refine wpAny_pyIter_tuple hl ?_
    have n := get_size_none s₁.heap
    refine k s₁.heap.objs.size (fun i h => h.IsTupleIter s₁.heap.objs.size ax i) ((.tup ps, .ref ax) :: C.τ) _ (k₁.trans .push) (none_back k₁ n) ⟨_, Heap.get?_push_size _ rfl⟩ ((F₁.temp r₀).widen n .push ⟨_, Heap.get?_push_size _ rfl⟩) (fun _ q => .tail _ q)
      (wk_tup hh ?_) ⟨_, Heap.get?_push_size _ rfl, rfl, rfl⟩
    rintro C' s' F' ⟨hτ, _⟩
    have := F'.temps (.tup ps, .ref ax) (by rw [hτ]; exact .head _)
    simp only [Rep] at this
    obtain ⟨a', vs', e', _, x, y⟩ := this
    cases e'
    exact ⟨vs', x, y⟩

theorem wk_rev {I ax : Addr} {ps : List PV} {Ok : Cf → Prop} (hh : A.handled = none)
    (hok : ∀ C s, FS H C s → Ok C → ∃ vs : List Value, s.heap.PlainList ax vs.toArray ∧ RepL s.heap C.W ps vs) :
    Wk prog w H A I ps.reverse Ok (fun i h => i ≤ ps.length ∧ h.IsRevIter I ax ((ps.length : Int) - 1 - (i : Int))) where
  stay := fun i h h' st k => ⟨st.1, st.2.at k⟩
  item := fun i p C s Q E hp F ok st k => by
    have hi : i < ps.length := by
      rcases Nat.lt_or_ge i ps.length with z | z
      · exact z
      · rw [List.getElem?_eq_none (by simpa using z)] at hp; cases hp
    rw [List.getElem?_reverse hi] at hp
    obtain ⟨vs, hl, r⟩ := hok C s F ok
    obtain ⟨v, hv, rv⟩ := r.get hp
    have e : (ps.length : Int) - 1 - (i : Int) = ((ps.length - 1 - i : Nat) : Int) := by omega
    have st2 := st.2
    rw [e] at st2
    refine wpAny_pyNext_rev_item st2 hl.isList (x := v) (by simpa using hv) fun h' st' hs => ?_
    have e2 : ((ps.length - 1 - i : Nat) : Int) - 1 = (ps.length : Int) - 1 - ((i + 1 : Nat) : Int) := by omega
    rw [e2] at st'
    exact k v h' s.toks rv ⟨hi, st'⟩ (Ext.of_same hs) (let ⟨o, z, _⟩ := st'; ⟨o, z⟩) (fun h => h)
  done := fun C s Q E F ok st k => by
    have e : (ps.length : Int) - 1 - (ps.reverse.length : Int) = -1 := by rw [List.length_reverse]; omega
    have st2 := st.2
    rw [e] at st2
    refine wpAny_pyNext_rev_end hh st2 fun h' he => ?_
    exact k h' s.toks (fun b o n e => he b o (by simpa using n) e) (fun h => h)
  self := fun i s Q E st q => wpAny_pyIter_revIter st.2 q
  go := fun i s t v Q E st g q => by
    obtain ⟨o, ho, hc, hd⟩ := st.2
    exact ltg_other ho hc hd (by decide) g q

/-- reversed(x), x a list of one's own -/
theorem itr_rev {f e : Expr} {pos : Pos} {ax : Addr} {ps : List PV} (hh : A.handled = none) (hf : Ev prog w H A C f (.typ "reversed")) (he : Ev prog w H A C e (.ref ax)) (hm : (ax, ps) ∈ C.μ ++ C.κ)
    (hc : eval (.Call f [e] [] pos) C.env = (do callWith pos (← eval f C.env) [] (backTo pos (starEach [e] C.env)) (backToKw pos (keywordEach [] C.env))) := by rfl)
    (hs : starEach [e] C.env = (false, eval e C.env) :: starEach [] C.env := by rfl) (hp : (backTo pos (starEach [] C.env)).any (·.1) = false := by rfl) : Itr prog w H A C (.Call f [e] [] pos) ps.reverse [(ax, ps)] := fun s Q E F k =>
  Call_ (hf s _ E F fun u s₁ k₁ F₁ r₁ => by
    simp only [Rep] at r₁
    subst r₁
    refine Pv.callWith_type1 ((evl_cons he evl_nil hs) pos s₁ _ E F₁ fun vs s₂ k₂ F₂ r₂ => ?_) hs hp
    simp only [RepL, Rep] at r₂
    obtain ⟨v, r, rfl, rfl, rfl⟩ := r₂
    obtain ⟨us, hl, rl, hlen⟩ := F₂.list hm
    refine call_reversed_list hl.isList ?_
    have n := get_size_none s₂.heap
    have hI : (s₂.heap.push (revObj ax ((us.toArray.size : Int) - 1))).IsRevIter s₂.heap.objs.size ax ((ps.length : Int) - 1 - ((0 : Nat) : Int)) := ⟨_, Heap.get?_push_size _ rfl, rfl, by simp [revObj, hlen]⟩
    refine wpAny_pyIter_revIter hI ?_
    exact k s₂.heap.objs.size (fun i h => i ≤ ps.length ∧ h.IsRevIter s₂.heap.objs.size ax ((ps.length : Int) - 1 - (i : Int))) C.τ _ ((k₁.trans k₂).trans .push) (none_back (k₁.trans k₂) n) ⟨_, Heap.get?_push_size _ rfl⟩ (F₂.widen n .push ⟨_, Heap.get?_push_size _ rfl⟩) (fun _ q => q)
      (wk_rev hh fun C' s' F' ok => F'.lists _ (ok.2 _ (.head _))) ⟨Nat.zero_le _, hI⟩) hc

theorem run_freeze' {y : Str} {D : Addr} {l : List PV} {μ : Sto} {sts : List Stmt} {P : PQ} (hB : D ∉ C.B) (hl : D ≠ C.env.locals) (hc : D ∉ C.env.cells.map (·.2)) (hμ : C.μ = (D, l) :: μ) (hρ : C.ρ y = some (.ref D))
    (k : ∀ W, Run prog w H A ⟨C.env, C.s0, C.X, W, upd C.ρ y (.lst l), μ, C.τ, C.κ, C.B⟩ sts P) : Run prog w H A C sts P := .of fun s F =>
  (k _).go s (FS.freeze F hμ hρ hB hl hc)
end
end Mine

end

section
open PySem PySem.W PyProof.Rows PySem.Calls
namespace Mine

@[reducible] noncomputable def K0 (w : World) : Frag := Mine.hd.heap_39 w.params
theorem hds_ne {name : Str} (h : name ≠ "_headers") {l : Addr} {o : Obj} (d : InstD l o) : lookIn name o = some none := by rw [d name, if_neg h]

section
variable {prog : Program} {w : World} {H : Heap} {A : Around} {C : Cf}

theorem inst_at {h : Heap} {W : List Addr} {l : Addr} {v : Value} (r : Rep h W (.inst l) v) : ∃ x ox od, v = .ref x ∧ InstAt h x ox 213 (some od) ∧ InstD l od := by
  simp only [Rep] at r
  obtain ⟨x, dx, sl, od, rfl, _, _, h1, h2, h3⟩ := r
  exact ⟨x, _, od, rfl, ⟨h1, rfl, rfl, h2⟩, h3⟩
theorem FS.kin {s : Shared} (F : FS H C s) (G : Gl w (K0 w) H) : (K0 w).In s.heap := fun a o e => F.old _ _ (G.kin _ _ e)

/-- self._headers -/
theorem ev_headers {e : Expr} {pos : Pos} {l : Addr} (G : Gl w (K0 w) H) (he : Ev prog w H A C e (.inst l))
    (ha : eval (.Attribute e "_headers" pos) C.env = (do
      let o ← eval e C.env
      standAt pos.atName
      let r ← holding [o] (getAttr o "_headers" true)
      letTemporaryGo e o r
      pure r) := by rfl) (hl : ∀ o r, letTemporaryGo e o r = pure () := by intro _ _; rfl) : Ev prog w H A C (.Attribute e "_headers" pos) (.ref l) := fun s Q E F k => by
  rw [ha]
  refine wpAny_bind (he s _ E F fun v s₁ k₁ F₁ r₁ => wpAny_bind (wpAny_standAt (wpAny_bind (wpAny_holding ?_))))
  obtain ⟨x, ox, od, rfl, I, d⟩ := inst_at r₁
  refine get_value (F₁.kin G) I (by rfl) (findObj_own (attr := none) (by rfl) (by rfl) (by rfl) (by rw [d, if_pos rfl])) rfl ?_
  rw [hl]
  exact wpAny_bind (wpAny_pure (wpAny_pure (k _ _ (k₁.trans .tok) (tok_keep F₁) (by simp [Rep]))))

/-- a method's call, up to the arguments -/
theorem meth_of {o : Expr} {name : Str} {apos pos : Pos} {args : List Expr} {kws : List Keyword} {l f : Addr} {pl : Sem Bool} (G : Gl w (K0 w) H) (ho : Ev prog w H A C o (.inst l)) (hn : name ≠ "_headers")
    (hf : findIn (K0 w) (.ref 213) name = some (some (.ref f))) (ht : typeIn (K0 w) (.ref f) = some (.type "function"))
    (he : eval (.Call (.Attribute o name apos) args kws pos) C.env = (do
      let ov ← eval o C.env
      standAt apos.atName
      let (f, first) ← holding [ov] (getMethod ov name pl)
      callWith pos f first (backTo pos (starEach args C.env)) (backToKw pos (keywordEach kws C.env))) := by rfl)
    {s : Shared} {Q : Value → Shared → Prop} {E : Value → Shared → Prop} (F : FS H C s)
    (k : ∀ x s₁, KeepS s s₁ → FS H C s₁ → Rep s₁.heap C.W (.inst l) (.ref x) → wpAny (model prog w) A (callWith pos (.ref f) [.ref x] (backTo pos (starEach args C.env)) (backToKw pos (keywordEach kws C.env))) Q E s₁) :
    wpAny (model prog w) A (eval (.Call (.Attribute o name apos) args kws pos) C.env) Q E s := by
  refine methodCall_KW (pl := pl) (ho s _ E F fun v s₁ k₁ F₁ r₁ => ?_) he
  obtain ⟨x, ox, od, rfl, I, d⟩ := inst_at r₁
  refine method_fn (F₁.kin G) I (by rfl) (by rfl) hf ht (by show (lookIn name od).map _ = _; rw [hds_ne hn d]; rfl) ?_
  exact k x s₁ k₁ F₁ r₁

/-- a def's contract: read-only lists, keyword arguments -/
def FnG (prog : Program) (w : World) (H : Heap) (n : Nat) (f : Addr) (κ : Sto) (ps : List PV) (kn : List Str) (ks : List PV) (r : PV) : Prop :=
  ∀ (A : Around) (W : List Addr) (s : Shared) (vs us : List Value) (Q : Value → Shared → Prop) (E : Value → Shared → Prop), Room n A → St0 H W s → (∀ p ∈ κ, p.1 ∈ W ∧ Lst s.heap W p.1 p.2) → RepL s.heap W ps vs → RepL s.heap W ks us →
    (∀ v s', KeepS s s' → Rep s'.heap W r v → Q v s') → wpAny (model prog w) A (call (.ref f) vs (kn.zip us)) Q E s

theorem fng_intro {n : Nat} {f : Addr} {oc : Value} {od : Option Addr} {osl : Array (Option Value)} {fd : FuncData} {body : List Stmt} {names kn : List Str} {κ : Sto} {ps ks ds : List PV} {r : PV}
    (G : Gl w (K0 w) H) (ho : (K0 w).lookup f = some ⟨oc, od, .func fd, osl⟩) (hbody : fd.body = .stmts body) (hcd : codeIn (K0 w) fd.code fd.qualname = true)
    (hbind : ∀ (s : Shared) (W : List Addr) (vs us : List Value), (K0 w).In s.heap → vs.length = ps.length → us.length = ks.length → ∃ es, RepL s.heap W ds es ∧ BindsTo s fd ⟨vs, kn.zip us⟩ (names.zip (vs ++ (us ++ es))))
    (hclo : fd.closure = []) (hnd : names.Nodup) (hsn : (fd.scope.names.map (·.1)).Nodup)
    (hkind : ∀ x ∈ names, fd.scope.names.lookup x = some .local ∨ fd.scope.names.lookup x = some .cell) (hκ : (κ.map (·.1)).Nodup)
    (run : ∀ A L s W, Room n A → Run prog w H A (cfF fd L f s [] W (fun x => (names.zip (ps ++ (ks ++ ds))).lookup x) [] κ) body (retP r))
    (hco : fd.scope.isCoroutine = false := by rfl) (hgen : fd.scope.isGenerator = false := by rfl) (hk : fd.scope.kind = .function := by rfl) : FnG prog w H (n + 1) f κ ps kn ks r := by
  intro A W s vs us Q E R S hlk hr hu k
  obtain ⟨es, hes, hb⟩ := hbind s W vs us (fun a o e => S.old _ _ (G.kin _ _ e)) hr.length hu.length
  have hall : RepL s.heap W (ps ++ (ks ++ ds)) (vs ++ (us ++ es)) := hr.append (hu.append hes)
  have hmem : ∀ x ∈ names.zip (vs ++ (us ++ es)), x.1 ∈ names := fun x q => (List.of_mem_zip (a := x.1) (b := x.2) q).1
  refine wpAny_call (enter_fn (P := retP r) (X := []) (μ := []) (κ := κ) (W := W) G S R.lim ho hbody hcd hb hclo (zip_nodup hnd) hsn (fun x q => (kinds_ok hsn (hkind _ (hmem x q))).1) (fun x q => (kinds_ok hsn (hkind _ (hmem x q))).2) (fun x p e => zip_rep hall e)
    (fun _ q => nomatch q) (fun _ q => nomatch q) (fun p q => (hlk p q).1) (by simpa using hκ) (fun p q => (hlk p (by simpa using q)).2) (fun L => run _ L s W R.deeper) ?_ hco hgen hk)
  rintro L fl s' ⟨W', ρ', μ', F', hp⟩
  have kS : KeepS s s' := by
    have up := F'.up
    obtain ⟨h, t, e⟩ := F'.same
    subst e
    exact ⟨h, t, rfl, up, fun b o q => F'.ext b o (by simp [cfF]) q⟩
  have sub : ∀ b ∈ W, b ∈ W' := F'.bW
  cases fl with
  | ret v =>
    obtain ⟨p, r1, rfl⟩ := hp
    exact k v s' kS (r1.weak sub)
  | next =>
    have : r = .none := hp
    subst this
    exact k .none s' kS (by simp [Rep])
  | cont => exact hp.elim
  | brk => exact hp.elim

theorem kap_of {s : Shared} (F : FS H C s) {κ : Sto} (h : ∀ p ∈ κ, p ∈ C.μ ++ C.κ) : ∀ p ∈ κ, p.1 ∈ C.W ∧ Lst s.heap C.W p.1 p.2 := fun p q => by
  obtain ⟨a, l⟩ := p
  obtain ⟨us, z1, z2, -⟩ := F.list (h _ q)
  exact ⟨F.inW _ (all_list (h _ q)), us, z1, z2⟩

/-- o.name() -/
theorem ev_meth0 {n : Nat} {o : Expr} {name : Str} {apos pos : Pos} {l f : Addr} {pl : Sem Bool} {κ : Sto} {r : PV} (G : Gl w (K0 w) H) (ho : Ev prog w H A C o (.inst l)) (hn : name ≠ "_headers")
    (hf : findIn (K0 w) (.ref 213) name = some (some (.ref f))) (ht : typeIn (K0 w) (.ref f) = some (.type "function")) (hk : keepIn (K0 w) (.ref f) = true)
    (hF : FnG prog w H n f κ [.inst l] [] [] r) (R : Room n A) (hκ : ∀ p ∈ κ, p ∈ C.μ ++ C.κ)
    (he : eval (.Call (.Attribute o name apos) [] [] pos) C.env = (do
      let ov ← eval o C.env
      standAt apos.atName
      let (f, first) ← holding [ov] (getMethod ov name pl)
      callWith pos f first (backTo pos (starEach [] C.env)) (backToKw pos (keywordEach [] C.env))) := by rfl) : Ev prog w H A C (.Call (.Attribute o name apos) [] [] pos) r := fun s Q E F k =>
  meth_of G ho hn hf ht he F fun x s₁ k₁ F₁ r₁ =>
    callWith_of rfl (keeps_K hk) (evalArgs_nil3 ⟨F₁.kin G, hF A C.W s₁ [.ref x] [] Q E R F₁.st0 (kap_of F₁ hκ) (.one r₁) .nil fun v s₂ k₂ r₂ => k v s₂ (k₁.trans k₂) (F₁.keeps k₂) r₂⟩)

/-- o.name(e) -/
theorem ev_meth1 {n : Nat} {o e : Expr} {name : Str} {apos pos : Pos} {l f : Addr} {pl : Sem Bool} {κ : Sto} {p r : PV} (G : Gl w (K0 w) H) (ho : Ev prog w H A C o (.inst l)) (he1 : Ev prog w H A C e p) (hn : name ≠ "_headers")
    (hf : findIn (K0 w) (.ref 213) name = some (some (.ref f))) (ht : typeIn (K0 w) (.ref f) = some (.type "function")) (hk : keepIn (K0 w) (.ref f) = true)
    (hF : FnG prog w H n f κ [.inst l, p] [] [] r) (R : Room n A) (hκ : ∀ p ∈ κ, p ∈ C.μ ++ C.κ)
    (he : eval (.Call (.Attribute o name apos) [e] [] pos) C.env = (do
      let ov ← eval o C.env
      standAt apos.atName
      let (f, first) ← holding [ov] (getMethod ov name pl)
      callWith pos f first (backTo pos (starEach [e] C.env)) (backToKw pos (keywordEach [] C.env))) := by rfl)
    (hs : starEach [e] C.env = (false, eval e C.env) :: starEach [] C.env := by rfl) (hp : (backTo pos (starEach [] C.env)).any (·.1) = false := by rfl) : Ev prog w H A C (.Call (.Attribute o name apos) [e] [] pos) r := fun s Q E F k =>
  meth_of G ho hn hf ht he F fun x s₁ k₁ F₁ r₁ =>
    callWith_K G.kin hk (evl_cons he1 evl_nil hs pos s₁ _ E F₁ fun vs s₂ k₂ F₂ r₂ => ⟨F₂.kin G, hF A C.W s₂ (.ref x :: vs) [] Q E R F₂.st0 (kap_of F₂ hκ) (.cons (r₁.keeps k₂.keep) r₂) .nil fun v s₃ k₃ r₃ => k v s₃ ((k₁.trans k₂).trans k₃) (F₂.keeps k₃) r₃⟩) hs hp

/-- o.name(e, kw=c) -/
theorem ev_meth1k {n : Nat} {o e c : Expr} {name kw : Str} {apos pos kp : Pos} {l f : Addr} {pl : Sem Bool} {κ : Sto} {p q r : PV} (G : Gl w (K0 w) H) (ho : Ev prog w H A C o (.inst l)) (he1 : Ev prog w H A C e p) (hc : Ev prog w H A C c q) (hn : name ≠ "_headers")
    (hf : findIn (K0 w) (.ref 213) name = some (some (.ref f))) (ht : typeIn (K0 w) (.ref f) = some (.type "function")) (hk : keepIn (K0 w) (.ref f) = true)
    (hF : FnG prog w H n f κ [.inst l, p] [kw] [q] r) (R : Room n A) (hκ : ∀ p ∈ κ, p ∈ C.μ ++ C.κ)
    (he : eval (.Call (.Attribute o name apos) [e] [⟨some kw, c, kp⟩] pos) C.env = (do
      let ov ← eval o C.env
      standAt apos.atName
      let (f, first) ← holding [ov] (getMethod ov name pl)
      callWith pos f first (backTo pos (starEach [e] C.env)) (backToKw pos (keywordEach [⟨some kw, c, kp⟩] C.env))) := by rfl)
    (hs : starEach [e] C.env = (false, eval e C.env) :: starEach [] C.env := by rfl)
    (hall : (backToKw pos (keywordEach [⟨some kw, c, kp⟩] C.env)).all (·.1.isSome) = true := by rfl) (hks : (backToKw pos (keywordEach [⟨some kw, c, kp⟩] C.env)).filterMap (·.1) = [kw] := by rfl)
    (hplain : ((backTo pos (starEach [e] C.env)).any (·.1) || (backToKw pos (keywordEach [⟨some kw, c, kp⟩] C.env)).any (·.1.isNone)) = false := by rfl) : Ev prog w H A C (.Call (.Attribute o name apos) [e] [⟨some kw, c, kp⟩] pos) r := fun s Q E F k =>
  meth_of G ho hn hf ht he F fun x s₁ k₁ F₁ r₁ =>
    callWith_KW G.kin hk hall (evl_cons he1 evl_nil hs pos s₁ _ E F₁ fun vs s₂ k₂ F₂ r₂ => kwAll_cons (hc s₂ _ E F₂ fun u s₃ k₃ F₃ r₃ => kwAll_nil ⟨F₃.kin G, by
      rw [hks]
      exact hF A C.W s₃ (.ref x :: vs) [u] Q E R F₃.st0 (kap_of F₃ hκ) (.cons ((r₁.keeps k₂.keep).keeps k₃.keep) (r₂.keeps k₃.keep)) (.one r₃) fun v s₄ k₄ r₄ => k v s₄ (((k₁.trans k₂).trans k₃).trans k₄) (F₃.keeps k₄) r₄⟩)) hplain hs
end
end Mine

end

section
open PySem PySem.W PyProof.Rows PySem.Calls
namespace Mine

theorem plainAttrs_pat : PlainAttrs "re.Pattern" :=
  ⟨⟨"object.__getattribute__", by rw [typeLookup_type, builtinLookup_eq_fast]; kernel_rfl, by decide +kernel⟩, by rw [typeLookup_type, builtinLookup_eq_fast]; kernel_rfl⟩
theorem slot_pat_search : Slot "re.Pattern" "search" "re.Pattern.search" :=
  .of (owner := "re.Pattern") (n := "search") (by rw [typeLookup_type, builtinLookup_eq_fast]; kernel_rfl) (by decide +kernel) (by decide +kernel) (by decide +kernel)
    (by first | exact .inl (by decide +kernel) | exact .inr (by decide +kernel)) (by rw [isSubtype_type]; kernel_rfl)
theorem type_pat_search : typeOf (.builtin "re.Pattern.search") = pure (.type "method_descriptor") := by show builtinType _ = _; rw [builtinType_eq_fast]; kernel_rfl
theorem entry_pat_search : entryFor table "re.Pattern.search" = some Builtin.«re.Pattern.search» := entryFor_of_tree (by kernel_rfl)
theorem args_pat_search_2 (a b : Value) : argsOk "re.Pattern.search" ⟨[a, b], []⟩ := by unfold argsOk; kernel_rfl

section
variable {prog : Program} {w : World} {H : Heap} {A : Around} {C : Cf}

/-- regex.search(text), that finds nothing -/
theorem ev_search {o e : Expr} {apos pos : Pos} {a : Addr} {x : Str} {fs : Array Value} {sl : Array (Option Value)} (G : Gl w (K0 w) H) (ho : Ev prog w H A C o (.ref a)) (he : Ev prog w H A C e (.str x))
    (hob : (K0 w).lookup a = some ⟨.type "re.Pattern", none, .fields fs, sl⟩)
    (hpk : ∀ t, peek (K0 w) ⟨prog, w.params⟩ (Builtin.«re.Pattern.search» ⟨[.ref a, .str x t], []⟩) = some (.done (.ret .none)))
    (hbase : attributeBase o "search" C.env (eval o C.env) = eval o C.env := by rfl)
    (hfew : ((backTo pos (starEach [e] C.env)).all (fun x => !x.1) && (backToKw pos (keywordEach [] C.env)).all (fun x => x.1.isSome)
      && decide (([e] : List Expr).length + ([] : List Keyword).length + (if ([] : List Keyword).isEmpty then 0 else 1) < 30)) = true := by rfl)
    (hline : (apos.endLine == pos.line) = true := by rfl) (hs : starEach [e] C.env = (false, eval e C.env) :: starEach [] C.env := by rfl) (hp : (backTo pos (starEach [] C.env)).any (·.1) = false := by rfl) :
    Ev prog w H A C (.Call (.Attribute o "search" apos) [e] [] pos) .none := fun s Q E F k => by
  refine wpAny_Call_method hbase hfew hline plainAttrs_pat slot_pat_search type_pat_search (ho s _ E F fun u s₁ k₁ F₁ r₁ => ?_)
  simp only [Rep] at r₁
  subst r₁
  have hat := F₁.kin G _ _ hob
  refine ⟨⟨_, hat, rfl⟩, fun b q => ⟨_, by cases q; exact hat, rfl⟩, ?_⟩
  have hx : wpAny (model prog w) A (spliced (backTo pos (starEach [e] C.env))) (fun vs s₂ => wpAny (model prog w) A (call (.builtin "re.Pattern.search") ([.ref a] ++ vs) []) Q E s₂) E s₁ := evl_cons he evl_nil hs pos s₁ _ E F₁ fun vs s₂ k₂ F₂ r₂ => ?_
  · rw [hs] at hx ⊢
    exact callWith_builtin (by show (false || (backTo pos (starEach [] C.env)).any (·.1)) = false; rw [hp]; rfl) (evalArgs_plain hx)
  simp only [RepL, Rep] at r₂
  obtain ⟨v, r, rfl, ⟨t, rfl⟩, rfl⟩ := r₂
  refine wpAny_call_entry slot_pat_search ⟨_, F₂.kin G _ _ hob, rfl⟩ entry_pat_search ?_ (args_pat_search_2 _ _)
  refine (Looks.of_peek (M := model prog w) (F₂.kin G) (hpk t)).here ⟨_, rfl, ?_⟩
  exact k _ _ (k₁.trans k₂) F₂ (by simp [Rep])
theorem tr_none : Tr prog w H A C .none false := fun s u Q E F r k => by
  simp only [Rep] at r
  subst r
  exact wpAny_of_eq (show truthy .none = pure false by unfold truthy; rfl) (k s .refl F)
/-- type(text) -/
theorem opn_type_str {x : Str} : OpN prog w H A C (fun vs => call (.type "type") vs) [.str x] (.typ "str") := fun s vs Q E F r k => by
  simp only [RepL, Rep] at r
  obtain ⟨v, r', rfl, ⟨t, rfl⟩, rfl⟩ := r
  exact call_type_of (Tx := "str") (typeIs_str _ _ _) (by decide +kernel) (k _ s .refl F (by simp [Rep]))
theorem opn_type_list {a : Addr} {l : List PV} (hm : (a, l) ∈ C.μ ++ C.κ) : OpN prog w H A C (fun vs => call (.type "type") vs) [.ref a] (.typ "list") := fun s vs Q E F r k => by
  simp only [RepL, Rep] at r
  obtain ⟨v, r', rfl, rfl, rfl⟩ := r
  obtain ⟨us, hl, _, _⟩ := F.list hm
  exact call_type_of (Tx := "list") hl.isList.typeIs (by decide +kernel) (k _ s .refl F (by simp [Rep]))
theorem op_is_typ {a : String} : Op2 prog w H A C (compareOp .Is) (.typ a) (.typ a) (.bool true) := fun s u v Q E F r₁ r₂ k => by
  simp only [Rep] at r₁ r₂
  subst r₁
  subst r₂
  exact PySem.wpAny_is_self (by rfl) (k _ s .refl F (by simp [Rep]))
theorem op_isnot_typ {a : String} : Op2 prog w H A C (compareOp .IsNot) (.typ a) (.typ a) (.bool false) := fun s u v Q E F r₁ r₂ k => by
  simp only [Rep] at r₁ r₂
  subst r₁
  subst r₂
  exact PySem.wpAny_isNot_self (by rfl) (k _ s .refl F (by simp [Rep]))
end
end Mine

end

section
open PySem PySem.W PyProof.Rows PySem.Calls
namespace Mine
section
variable {prog : Program} {w : World} {H : Heap} {A : Around} {C : Cf}

/-- x[:] = y, of lists -/
theorem setItem_all {s : Shared} {l sl D : Addr} {items new : Array Value} {n₀ : Nat} {E : Value → Shared → Prop} {Q : Unit → Shared → Prop} (hl : s.heap.get? l = some { cls := .type "list", data := .seq items n₀ }) (hs : s.heap.IsSliceOf sl .none .none .none) (hD : s.heap.IsList D new) (hne : l ≠ D)
    (h : ∀ h', h'.PlainList l new → Heap.SameBut l s.heap h' → Q () { s with heap := h' }) (hz : items.size + new.size ≤ sizeLine) : wpAny (model prog w) A (setItem (.ref l) (.ref sl) (.ref D)) Q E s := by
  have hL : s.heap.IsList l items := ⟨_, hl, rfl, _, rfl⟩
  obtain ⟨os, hos, hcs, hds⟩ := id hs
  obtain ⟨od, hod, hcd, nd, hdd⟩ := id hD
  have hTs : s.TypeIs (.ref sl) "slice" := ⟨os, hos, hcs⟩
  unfold setItem
  try with_reducible refine wpAny_holding ?_
  first | refine wpAny_bind (wpAny_pure ?_) | skip
  refine wpAny_bind (wpAny_sequenceKey hL.typeIs (by decide) ?_)
  refine wpAny_bind (wpAny_callSpecial?_slot (name := Str.ofString "__setitem__") hL.typeIs slot_list_setitem
    (wpAny_call_entry slot_list_setitem hL.typeIs entry_list_setitem ?_ (args_list_setitem _ _ _)))
  show wpAny _ _ (Builtin.List.listSubscript? (.ref sl) >>= _) _ _ s
  refine wpAny_bind ?_
  · unfold Builtin.List.listSubscript?
    refine wpAny_bind (wpAny_specialOf hTs slice_no_index ?_)
    simp only [Option.isNone_none, if_true]
    refine wpAny_pure ?_
    show wpAny _ _ (typeOf (.ref sl) >>= _) _ _ s
    refine wpAny_bind (wpAny_typeOf hTs ?_)
    rw [if_neg (by decide)]
    rw [listSliceParts_eq]
    refine wpAny_bind (wpAny_bind (wpAny_field hos hds (x := .none) rfl (wpAny_bind (wpAny_listPart .none ?_))))
    rw [if_neg (by decide)]
    refine wpAny_bind (wpAny_field hos hds (x := .none) rfl (wpAny_bind (wpAny_listPart .none ?_)))
    refine wpAny_bind (wpAny_field hos hds (x := .none) rfl (wpAny_bind (wpAny_listPart .none (wpAny_pure ?_))))
    have hsame : Builtin.List.listSameRef (.ref l) (.ref D) = false := by simpa [Builtin.List.listSameRef] using hne
    rw [hsame]
    simp only [Bool.false_eq_true, if_false]
    refine wpAny_bind (m := Builtin.List.listAllItems (.ref D) "must assign iterable to extended slice") ?_
    · unfold Builtin.List.listAllItems
      refine wpAny_bind (wpAny_typeOf hD.typeIs ?_)
      rw [if_pos (by decide)]
      unfold Builtin.List.listItems
      refine wpAny_bind (wpAny_seqItems hod hdd (wpAny_pure ?_))
      refine wpAny_bind (m := Builtin.List.listItems (.ref l)) ?_
      · unfold Builtin.List.listItems
        refine wpAny_bind (wpAny_seqItems hl rfl (wpAny_pure ?_))
        refine wpAny_bind (wpAny_of_eq (sliceIndices_raw none none none items.size (by simp)) ?_)
        have hb : sliceBounds none none none items.size = ((0 : Int), (items.size : Int), (1 : Int)) := by simp [sliceBounds]
        rw [hb, if_pos (by rfl)]
        refine wpAny_bind (wpAny_rule ?_)
        rw [if_neg (by unfold Builtin.List.listTooLong; simp; omega)]
        have hf : items.extract 0 (0 : Int).toNat ++ new ++ items.extract (max (0 : Int) (items.size : Int)).toNat = new := by
          apply Array.ext'
          simp
        refine wpAny_bind (m := updateSeq l _) (wpAny_updateSeq hl rfl ?_ (by omega) (by rw [hf]; omega))
        have q := PySem.IsL.update hl (fun xs => xs.extract 0 (0 : Int).toNat ++ new ++ xs.extract (max (0 : Int) (items.size : Int)).toNat)
        rw [hf] at q
        refine wpAny_bind (wpAny_letGo ?_)
        exact wpAny_pure ⟨_, rfl, wpAny_pure (h _ ⟨_, q⟩ (Heap.SameBut.update ..))⟩

theorem run_setall {o e : Expr} {pos' lp pos : Pos} {a : Addr} {l l' : List PV} {j : Nat} {rest : List Stmt} {P : PQ} (he : EvF prog w H A C e l') (ho : Ev prog w H A C o (.ref a)) (hm : C.μ[j]? = some (a, l)) (hn : l.length + l'.length ≤ 1000)
    (kk : Run prog w H A { C with μ := C.μ.set j (a, l') } rest P) (hs : swapsWith e (some (.Subscript o (.Slice none none none lp) pos')) pos.line C.env = pure false := by rfl) : Run prog w H A C (.Assign [.Subscript o (.Slice none none none lp) pos'] e pos :: rest) P :=
  run_one fun s F => wpAny_Assign_Subscript (he s _ _ F fun D vs s₁ k₁ nD hD rD => ho s₁ _ _ (F.keeps k₁) fun u s₂ k₂ F₂ r₂ => wpAny_Slice (by
    rw [evalPart_none]
    refine wpAny_pure (wpAny_pure (wpAny_pure ?_))
    have hmem : (a, l) ∈ C.μ ++ C.κ := List.mem_append_left _ (List.mem_of_getElem? hm)
    simp only [Rep] at r₂
    subst r₂
    have k₃ : KeepS s₂ { s₂ with heap := s₂.heap.push { cls := .type "slice", data := .fields #[.none, .none, .none] } } := .push
    have F₃ := F₂.keeps k₃
    obtain ⟨us, ⟨n₀, hp₀⟩, rl, hl⟩ := F₃.list hmem
    have aW : a ∈ C.W := F₃.inW _ (all_list hmem)
    have hD3 : (s₂.heap.push { cls := .type "slice", data := .fields #[.none, .none, .none] }).PlainList D vs.toArray := plain_keep hD fun o q => (k₂.trans k₃).keep _ o q
    have hvl : vs.length = l'.length := rD.length
    have hne : a ≠ D := fun z => not_mem_of_none F nD (z ▸ aW)
    refine setItem_all hp₀ (Heap.IsSliceOf.new ..) hD3.isList hne (fun h' hp' hs' => ?_) (by rw [List.size_toArray, List.size_toArray, hl, hvl, sizeLine_eq]; omega)
    have eE : Ext [a] (s₂.heap.push { cls := .type "slice", data := .fields #[.none, .none, .none] }) h' := Ext.of_same hs'
    have rl' : RepL h' C.W l' vs := ((rD.weak (fun _ q => .tail _ q)).keeps (k₂.trans k₃).keep).ext eE fun b q => by simp at q; subst q; exact aW
    exact kk.go _ (FS.setList (tk := s₂.toks) F₃ hm hp' eE rl' (fun h => h)))) hs
end
end Mine

end

section
open PySem PySem.W PyProof.Rows PySem.Calls
namespace Mine
section
variable {prog : Program} {w : World} {K : Frag} {H : Heap} {A : Around} {C : Cf}

/-! a comprehension with two generators, without tests -/
abbrev comp2 (elt t1 i1 t2 i2 : Expr) (scope : Scope) (pos : Pos) : Expr := .ListComp elt [⟨t1, i1, [], 0⟩, ⟨t2, i2, [], 0⟩] scope pos
theorem turn_out (elt t1 i1 t2 i2 : Expr) (scope : Scope) (pos : Pos) (it acc : Value) (env : Env) :
    compTurn (comp2 elt t1 i1 t2 i2 scope pos) 0 it acc env = (do
      standAt i1.pos
      match ← pyNext it with
      | none => pure (.done .next)
      | some v =>
        letOwnedTupleGo t1 it v
        assign t1 env v
        let x ← eval i2 env
        standAt i2.pos
        let x ← foldedSetIterable i2 env x
        let _ ← runOwn (.compStart (comp2 elt t1 i1 t2 i2 scope pos) 1 (← holding [x] (pyIter x)) acc env) env
        again (.compLoop (comp2 elt t1 i1 t2 i2 scope pos) 0 it acc env)) := by rfl
theorem turn_in (elt t1 i1 t2 i2 : Expr) (scope : Scope) (pos : Pos) (it acc : Value) (env : Env) :
    compTurn (comp2 elt t1 i1 t2 i2 scope pos) 1 it acc env = (do
      standAt i2.pos
      match ← pyNext it with
      | none => pure (.done .next)
      | some v =>
        letOwnedTupleGo t2 it v
        assign t2 env v
        (do let _ ← call (.builtin "list.append") [acc, ← eval elt env])
        again (.compLoop (comp2 elt t1 i1 t2 i2 scope pos) 1 it acc env)) := by rfl

theorem start_in {elt t1 i1 t2 i2 : Expr} {scope : Scope} {pos : Pos} {it acc : Value} {env : Env} {R : Result → Shared → Prop} {s : Shared}
    (h0 : codeAny (model prog w) A (.compLoop (comp2 elt t1 i1 t2 i2 scope pos) 1 it acc env) R s)
    (h : wpAny (model prog w) A (pyIter it) (fun it' s' => codeAny (model prog w) A (.compLoop (comp2 elt t1 i1 t2 i2 scope pos) 1 it' acc env) R s') (fun _ _ => False) s) :
    codeAny (model prog w) A (.compStart (comp2 elt t1 i1 t2 i2 scope pos) 1 it acc env) R s := by
  refine codeAny_of_tree ?_
  show wpAny _ _ ((compStart (comp2 elt t1 i1 t2 i2 scope pos) 1 it acc env).onRaise (fun x => do noteFrame x env; standAt theWindowsPlace)) _ _ s
  refine wpAny_notedAt ?_
  unfold compStart
  show wpAny _ _ (ask >>= _) _ _ s
  refine wpAny_bind (wpAny_askSetting (wpAny_ite ?_))
  split
  · first
      | exact wpAny_bind (wpAny_pure (wpAny_pure (And.intro rfl h0)))
      | exact wpAny_pure (And.intro rfl h0)
  · refine wpAny_bind (wpAny_rule ?_)
    show wpAny _ _ (standAt i2.pos >>= _) _ _ s
    exact wpAny_bind (wpAny_standAt (wpAny_bind (wpAny_mono h (fun it' s' h' => wpAny_pure (And.intro rfl h')) fun _ _ x => x.elim)))

theorem loop_in {elt t1 i1 t2 i2 : Expr} {scope : Scope} {pos : Pos} {it acc : Value} {env : Env} {R : Result → Shared → Prop} {s : Shared} (I : Nat → Shared → Prop)
    (turn : ∀ n s, I n s → wpAny (model prog w) A (pyNext it) (fun r s₁ => match r with
      | none => R (.ok .next) s₁
      | some v => wpAny (model prog w) A (letOwnedTupleGo t2 it v) (fun _ s₁' => wpAny (model prog w) A (assign t2 env v) (fun _ s₂ => wpAny (model prog w) A (eval elt env) (fun x s₄ =>
              wpAny (model prog w) A (call (.builtin "list.append") [acc, x]) (fun _ s₅ => ∃ m, m < n ∧ I m s₅) (fun _ _ => False) s₄) (fun _ _ => False) s₂) (fun _ _ => False) s₁') (fun _ _ => False) s₁) (fun _ _ => False) s)
    (n : Nat) (h : I n s) : codeAny (model prog w) A (.compLoop (comp2 elt t1 i1 t2 i2 scope pos) 1 it acc env) R s := by
  refine codeAny_loop rfl I (fun n s hI => ?_) n h
  show wpAny _ A ((compTurn (comp2 elt t1 i1 t2 i2 scope pos) 1 it acc env).onRaise (fun x => do noteFrame x env; theTreesLotGoes x)) _ _ s
  refine wpAny_noted ?_
  rw [turn_in]
  refine wpAny_bind (wpAny_standAt (wpAny_bind (wpAny_mono (turn n s hI) (fun r s₁ h₁ => ?_) fun _ _ h' => h'.elim)))
  cases r with
  | none => exact wpAny_pure h₁
  | some v =>
    refine wpAny_bind (wpAny_mono h₁ (fun _ s₁' h₁' => ?_) fun _ _ h' => h'.elim)
    refine wpAny_bind (wpAny_mono h₁' (fun _ s₂ h₂ => ?_) fun _ _ h' => h'.elim)
    exact wpAny_bind (wpAny_bind (wpAny_mono h₂ (fun x s₄ h₄ => wpAny_bind (wpAny_mono h₄ (fun _ s₅ h₅ => wpAny_pure (wpAny_pure ⟨rfl, h₅⟩)) fun _ _ h' => h'.elim)) fun _ _ h' => h'.elim))

theorem loop_out {elt t1 i1 t2 i2 : Expr} {scope : Scope} {pos : Pos} {it acc : Value} {env : Env} {R : Result → Shared → Prop} {s : Shared} (hs : ∀ x, foldedSetIterable i2 env x = pure x) (I : Nat → Shared → Prop)
    (turn : ∀ n s, I n s → wpAny (model prog w) A (pyNext it) (fun r s₁ => match r with
      | none => R (.ok .next) s₁
      | some v => wpAny (model prog w) A (letOwnedTupleGo t1 it v) (fun _ s₁' => wpAny (model prog w) A (assign t1 env v) (fun _ s₂ =>
          wpAny (model prog w) A (eval i2 env) (fun x s₃ => wpAny (model prog w) A (pyIter x) (fun it' s₄ =>
            codeAny (model prog w) A (.compStart (comp2 elt t1 i1 t2 i2 scope pos) 1 it' acc env) (fun r s₅ => match r with | .ok _ => ∃ m, m < n ∧ I m s₅ | .error _ => False) s₄) (fun _ _ => False) s₃) (fun _ _ => False) s₂) (fun _ _ => False) s₁') (fun _ _ => False) s₁) (fun _ _ => False) s)
    (n : Nat) (h : I n s) : codeAny (model prog w) A (.compLoop (comp2 elt t1 i1 t2 i2 scope pos) 0 it acc env) R s := by
  refine codeAny_loop rfl I (fun n s hI => ?_) n h
  show wpAny _ A ((compTurn (comp2 elt t1 i1 t2 i2 scope pos) 0 it acc env).onRaise (fun x => do noteFrame x env; theTreesLotGoes x)) _ _ s
  refine wpAny_noted ?_
  rw [turn_out]
  refine wpAny_bind (wpAny_standAt (wpAny_bind (wpAny_mono (turn n s hI) (fun r s₁ h₁ => ?_) fun _ _ h' => h'.elim)))
  cases r with
  | none => exact wpAny_pure h₁
  | some v =>
    refine wpAny_bind (wpAny_mono h₁ (fun _ s₁' h₁' => ?_) fun _ _ h' => h'.elim)
    refine wpAny_bind (wpAny_mono h₁' (fun _ s₂ h₂ => ?_) fun _ _ h' => h'.elim)
    refine wpAny_bind (wpAny_mono h₂ (fun x s₃ h₃ => ?_) fun _ _ h' => h'.elim)
    refine wpAny_bind (wpAny_standAt ?_)
    rw [hs]
    refine wpAny_bind (wpAny_pure (wpAny_bind (wpAny_holding (wpAny_mono h₃ (fun it' s₄ h₄ => ?_) fun _ _ h' => h'.elim))))
    refine wpAny_bind (wpAny_runOwn (codeAny_mono h₄ fun r s₅ h₅ => ?_))
    cases r with
    | ok f => exact wpAny_pure ⟨rfl, h₅⟩
    | error e => exact h₅.elim
end
end Mine

end

section
open PySem PySem.W PyProof.Rows PySem.Calls
namespace Mine
section
variable {prog : Program} {w : World} {K : Frag} {H : Heap} {A : Around} {C : Cf}

theorem comp_inner {elt t1 i1 i2 : Expr} {y : Str} {py : Pos} {scope : Scope} {pos : Pos} {D : Addr} {acc ps : List PV} {f : PV → PV} (hi : Itr prog w H A C i2 ps []) (hμ : C.μ = [(D, acc)]) (hy : Able prog w H A C.env y) (hρ : C.ρ y = none)
    (hE : ∀ p ∈ ps, ∀ s0 X W acc' τ B, Ev prog w H A ⟨C.env, s0, X, W, upd C.ρ y p, [(D, acc')], τ, C.κ, B⟩ elt (f p)) (hlen : acc.length + ps.length ≤ 1000) {s : Shared} (F : FS H C s) {R : Result → Shared → Prop}
    (k : ∀ s', FS H ⟨C.env, C.s0, C.X, C.W, C.ρ, [(D, acc ++ ps.map f)], C.τ, C.κ, C.B⟩ s' → R (.ok .next) s') :
    wpAny (model prog w) A (eval i2 C.env) (fun x s₃ => wpAny (model prog w) A (pyIter x) (fun it' s₄ => codeAny (model prog w) A (.compStart (comp2 elt t1 i1 (.Name y py) i2 scope pos) 1 it' (.ref D) C.env) R s₄) (fun _ _ => False) s₃) (fun _ _ => False) s := by
  refine hi s _ _ F fun I St τ s₁ k₁ n₁ al₁ F₁ kτ W₁ st₁ => ?_
  have nW : I ∉ C.W := not_mem_of_none F n₁
  have nX : I ∉ C.X := fun q => nW (F.xW _ q)
  have hI0 : C.s0.heap.get? I = none := by
    cases q : C.s0.heap.get? I with
    | none => rfl
    | some o => rw [F.ext I o nX q] at n₁; cases n₁
  have nOm : I ∉ allL C.env (C.μ ++ C.κ) := fun q => nW (F.inW _ q)
  have nO : ∀ acc' : List PV, I ∉ allL C.env ([(D, acc')] ++ C.κ) := fun acc' q => nOm (by rw [hμ]; exact q)
  have dW : ∀ acc' : List PV, ∀ b ∈ allL C.env ([(D, acc')] ++ C.κ), b ∈ C.W := fun acc' b q => F.inW b (by rw [hμ]; exact q)
  have F₁' : FS H ⟨C.env, C.s0, C.X, I :: C.W, C.ρ, [(D, acc ++ (ps.take 0).map f)], τ, C.κ, C.B⟩ s₁ := by
    have z := F₁
    obtain ⟨cenv, cs0, cX, cW, cρ, cμ, cτ, cκ, cB⟩ := C
    simp only at hμ
    subst hμ
    simpa using z
  have loop : ∀ s₂ : Shared, FS H ⟨C.env, C.s0, C.X, I :: C.W, C.ρ, [(D, acc ++ (ps.take 0).map f)], τ, C.κ, C.B⟩ s₂ → St 0 s₂.heap → codeAny (model prog w) A (.compLoop (comp2 elt t1 i1 (.Name y py) i2 scope pos) 1 (.ref I) (.ref D) C.env) R s₂ := by
    intro s₂ G₂ st₂
    refine loop_in (I := fun n s' => ∃ i, n = ps.length + 1 - i ∧ i ≤ ps.length ∧ St i s'.heap ∧ FS H ⟨C.env, C.s0, C.X, I :: C.W, C.ρ, [(D, acc ++ (ps.take i).map f)], τ, C.κ, C.B⟩ s') ?_ (ps.length + 1) ⟨0, rfl, Nat.zero_le _, st₂, G₂⟩
    rintro n s₃ ⟨i, rfl, hile, st₃, F₃⟩
    by_cases hlt : i < ps.length
    · have hp : ps[i]? = some ps[i] := List.getElem?_eq_getElem hlt
      generalize ps[i] = p at hp
      have hmem : p ∈ ps := List.mem_of_getElem? hp
      refine W₁.item i p _ s₃ _ _ hp F₃ ⟨rfl, fun q hq => nomatch hq⟩ st₃ fun v h' tk r st' e' al' ht' => ?_
      have F₄ := F₃.touch (tk := tk) (.head _) (nO _) (.inr hI0) e' al' ht'
      have r₄ : Rep h' (I :: C.W) p v := r.ext e' fun b q => by simp at q; subst q; exact .head _
      have F₅ := F₄.rebase [I] (fun b q => by simp at q; subst q; exact .head _)
      refine W₁.go _ _ _ _ _ _ st' (.inl ⟨y, py, rfl⟩) ?_
      refine wpAny_assign_Name (hy _ _ _ _ _ _ _ _ p _ v _ _ F₅ r₄ fun s₆ F₆ => ?_)
      refine hE p hmem _ _ _ _ _ _ s₆ _ _ F₆ fun x s₇ k₇ F₇ r₇ => ?_
      obtain ⟨vs, hl, rl⟩ := F₇.lists (D, _) (.head _)
      have hvl : vs.length ≤ 1000 := by
        have := rl.length
        simp only [List.length_append, List.length_map, List.length_take] at this
        omega
      refine wpAny_list_append_plain (hsz := by rw [List.size_toArray, sizeLine_eq]; omega) hl fun h'' hl'' hs'' => ?_
      have eD : Ext [D] s₇.heap h'' := Ext.of_same hs''
      have DW : D ∈ I :: C.W := .tail _ (dW acc D (all_list (l := acc) (.head _)))
      have rl' : RepL h'' (I :: C.W) ((acc ++ (ps.take i).map f) ++ [f p]) (vs ++ [x]) := (rl.append (.one r₇)).ext eD fun b q => by simp at q; subst q; exact DW
      have hl3 : h''.PlainList D (vs ++ [x]).toArray := by simpa using hl''
      have F₈ := FS.setList (tk := s₇.toks) (i := 0) F₇ rfl hl3 eD rl' (fun h => h)
      have Iown : I ∉ ownL C.env [(D, (acc ++ (ps.take i).map f) ++ [f p])] := fun q => nO _ (own_all q)
      have Iown' : I ∉ ownL C.env [(D, acc ++ (ps.take i).map f)] := fun q => nO _ (own_all q)
      have G := FS.unbase (C := ⟨C.env, C.s0, C.X, I :: C.W, C.ρ, [(D, acc ++ (ps.take i).map f)], τ, C.κ, C.B⟩) (Z := [I]) F₄ F₈
      have G' := G.forget (ρ' := C.ρ) fun z pv q => by
        show upd C.ρ y p z = some pv
        unfold upd
        by_cases hz : z = y
        · subst hz; rw [hρ] at q; cases q
        · rw [if_neg hz]; exact q
      refine ⟨ps.length + 1 - (i + 1), by omega, i + 1, rfl, hlt, W₁.stay _ _ _ st' fun o e => F₈.ext I o Iown' e, ?_⟩
      have e2 : acc ++ (ps.take (i + 1)).map f = (acc ++ (ps.take i).map f) ++ [f p] := by
        rw [List.take_add_one, hp, List.map_append, List.append_assoc]; rfl
      rw [e2]
      exact G'
    · have hin : i = ps.length := by omega
      subst hin
      refine W₁.done _ s₃ _ _ F₃ ⟨rfl, fun q hq => nomatch hq⟩ st₃ fun h' tk e' ht' => ?_
      have F₄ := FS.close F₃ (tk := tk) (.head _) (nO _) hI0 (fun b q z => nW (z ▸ F.bW b q)) e' ht'
      have F₅ := F₄.shrink (W := C.W) (fun b q => List.mem_filter.mpr ⟨.tail _ q, by
        have : b ≠ I := fun z => nW (z ▸ q)
        simpa using this⟩) (dW _) F.bW
      rw [List.take_length] at F₅
      exact k _ (F₅.untemp kτ)
  exact start_in (loop _ F₁' st₁) (W₁.self _ _ _ (fun _ _ => False) st₁ (loop _ F₁' st₁))
end
end Mine

end

section
open PySem PySem.W PyProof.Rows PySem.Calls
namespace Mine
section
variable {prog : Program} {w : World} {K : Frag} {H : Heap} {A : Around} {C : Cf}

/-- the list so far -/
def flat (qs : PV → List PV) (f : PV → PV → PV) (l : List PV) : List PV := l.flatMap fun p => (qs p).map (f p)
theorem comp_block2 {scope : Scope} {cl : List (Str × Addr)} {x y : Str} {px py : Pos} {iter i2 elt : Expr} {pos : Pos} {ps : List PV} {qs : PV → List PV} {f : PV → PV → PV} {need : Sto}
    {I : Addr} {St : Nat → Heap → Prop} {τ : List (PV × Value)} {s₂ : Shared} {E : Value → Shared → Prop} {RR : Value → Addr → Result → Shared → Prop}
    (hcl : cl.map (fun p => C.env.cells.lookup p.1) = cl.map (fun p => some p.2)) (hcell : ∀ y ∈ scope.names, y.2 ≠ .cell) (hkind : scope.kind = .function) (hn : ∀ i p, ps[i]? = some p → (flat qs f (ps.take i)).length + (qs p).length ≤ 1000)
    (hsub : ∀ b ∈ allL C.env (C.μ ++ C.κ), b ∈ C.W) (hI : I ∉ C.W) (F₂ : FS H { C with τ := τ, W := I :: C.W } s₂) (hneed : ∀ q ∈ need, q ∈ C.μ ++ C.κ) (Wk₁ : Wk prog w H A I ps (fun C' => C'.τ = τ ∧ ∀ q ∈ need, q ∈ C'.μ ++ C'.κ) St) (st₀ : St 0 s₂.heap)
    (hset : ∀ env x, foldedSetIterable i2 env x = pure x) (hxl : cl.lookup x = none) (hyl : cl.lookup y = none) (hxy : y ≠ x)
    (hx : ∀ Cx, Able prog w H A (compEnvC scope cl Cx C.env) x) (hy : ∀ Cx, Able prog w H A (compEnvC scope cl Cx C.env) y)
    (hi2 : ∀ p ∈ ps, ∀ D Cx s0 X W acc τ B, Itr prog w H A (cfI C scope cl (upd (ρI C cl) x p) D Cx s0 X W acc τ B) i2 (qs p) [])
    (hE : ∀ p ∈ ps, ∀ q ∈ qs p, ∀ D Cx s0 X W acc τ B, Ev prog w H A (cfI C scope cl (upd (upd (ρI C cl) x p) y q) D Cx s0 X W acc τ B) elt (f p q))
    (hRR : ∀ D Cx s' vs m, s₂.heap.get? D = none → s₂.heap.get? Cx = none → D ≠ Cx → s'.heap.Ns Cx m → s'.heap.PlainList D (List.toArray vs) → RepL s'.heap (Cx :: D :: I :: C.W) (flat qs f ps) vs →
      (∃ h t, s' = { s₂ with heap := h, toks := t }) → (0 < s₂.toks → 0 < s'.toks) → Ext [I] s₂.heap s'.heap → RR (.ref D) Cx (.ok .next) s') :
    wpAny (model prog w) A (newList []) (fun acc s₃ => wpAny (model prog w) A (newFunctionEnv scope C.env.globals cl [] C.env.qual none .none (some C.env)) (fun cenv s₄ =>
      codeAny (model prog w) A (.compStart (comp2 elt (.Name x px) iter (.Name y py) i2 scope pos) 0 (.ref I) acc { cenv with scope := relabel scope C.env }) (RR acc cenv.locals) s₄) E s₃) E s₂ := by
  refine wpAny_newObj_type (wpAny_newFunctionEnv hcell (by intro y hy; simp at hy) (fun h₁ hns₁ hsb₁ => ?_) hkind)
  dsimp only at hns₁ hsb₁ ⊢
  generalize hH2 : s₂.heap.push { cls := .type "list", dict := none, data := .seq ([] : List Value).toArray } = H2 at hns₁ hsb₁ ⊢
  have hC : H2.objs.size = s₂.heap.objs.size + 1 := by rw [← hH2, Heap.size_push]
  generalize hD : s₂.heap.objs.size = D at hC ⊢
  generalize hCx : H2.objs.size = Cx at hns₁ hsb₁ hC ⊢
  have hDC : D ≠ Cx := by rw [hC]; exact Nat.ne_of_lt (Nat.lt_succ_self _)
  have nD : s₂.heap.get? D = none := by rw [← hD]; exact get_size_none _
  have nC2 : H2.get? Cx = none := by rw [← hCx]; exact get_size_none _
  have old2 : ∀ b o, s₂.heap.get? b = some o → H2.get? b = some o := fun b o e => hH2 ▸ Heap.get?_push_of_some _ e
  have nC : s₂.heap.get? Cx = none := by
    cases q : s₂.heap.get? Cx with
    | none => rfl
    | some o => rw [old2 _ _ q] at nC2; cases nC2
  have old : ∀ b o, s₂.heap.get? b = some o → h₁.get? b = some o := fun b o e =>
    hsb₁.extBut b o (fun q => by rw [q, nC] at e; cases e) (Heap.get?_push_of_some _ (old2 b o e))
  have hplD : h₁.PlainList D (List.toArray []) := by
    have : H2.get? D = some { cls := .type "list", dict := none, data := .seq ([] : List Value).toArray } := by rw [← hH2, ← hD]; exact Heap.get?_push_size _ rfl
    exact ⟨0, hsb₁.extBut _ _ hDC (Heap.get?_push_of_some _ this)⟩
  have kh : KeepS s₂ { s₂ with heap := h₁, toks := s₂.toks + ([] : List (Str × Value)).length } := .of old
  -- the frame's facts
  have start : FS H (cfI C scope cl (ρI C cl) D Cx s₂ [I] (Cx :: D :: I :: C.W) [] τ [I]) { s₂ with heap := h₁, toks := s₂.toks + ([] : List (Str × Value)).length } := by
    have alD : ∃ o, h₁.get? D = some o := let ⟨n, e⟩ := hplD; ⟨_, e⟩
    have alC : ∃ o, h₁.get? Cx = some o := let ⟨o, _, _, e, _⟩ := hns₁; ⟨o, e⟩
    have F₃ := F₂.widen nD (KeepS.refl (s := s₂))
    have G := F₂.keeps kh
    have Gtk := G.tk
    obtain ⟨a1, a2, a3, a4, a5, ⟨m, cm, b1, b2, b3⟩, a7, a8, aX, aB, a9, a10, aT, a11⟩ := G.z
    obtain ⟨z1, z2, z3, z4, z5, ⟨zm, zcm, zb1, zb2, zb3⟩, z7, z8, zX, zB, z9, z10, zT, z11⟩ := F₂.z
    have memcl : ∀ n c, cl.lookup n = some c → C.env.cells.lookup n = some c := fun n c q => by
      have q' := mem_of_lookup q
      have := List.map_inj_left.mp hcl _ q'
      exact this
    have up : ∀ {p v}, Rep s₂.heap (I :: C.W) p v → Rep h₁ (Cx :: D :: I :: C.W) p v := fun r => ((r.more nD).more nC).keeps old
    have upL : ∀ {p v}, RepL s₂.heap (I :: C.W) p v → RepL h₁ (Cx :: D :: I :: C.W) p v := fun r => ((r.more nD).more nC).keeps old
    refine ⟨?_, Gtk, fun h => h⟩
    refine ⟨⟨_, _, rfl⟩, Ext.of_keeps old, a3, fun x q => ?_, fun x q => ?_, ⟨fun _ => none, cm, ?_, fun n c q => ?_, fun y pv q => ?_⟩, fun p hp => ?_, fun x q => ?_, fun _ q => q, fun x q => ?_, fun n n' c q q' => z9 n n' c (memcl n c q) (memcl n' c q'), ?_, fun p hp => up (zT p hp), fun x q => ?_⟩
    · rcases List.mem_cons.mp q with rfl | q
      · cases w : H.get? x with
        | none => rfl
        | some o => rw [z3 _ _ w] at nC; cases nC
      · rcases List.mem_cons.mp q with rfl | q
        · cases w : H.get? x with
          | none => rfl
          | some o => rw [z3 _ _ w] at nD; cases nD
        · exact z4 x q
    · rcases List.mem_cons.mp q with rfl | q
      · exact alC
      · rcases List.mem_cons.mp q with rfl | q
        · exact alD
        · obtain ⟨o, e⟩ := z5 x q; exact ⟨o, old _ _ e⟩
    · exact hns₁
    · exact b2 n c (memcl n c q)
    · unfold cfI ρI at q
      dsimp only at q
      split at q
      · rename_i c hc
        obtain ⟨v, e1, e2⟩ := zb3 y pv q
        refine ⟨v, ?_, up e2⟩
        show (match cl.lookup y with | some _ => cm y | none => none) = some v
        rw [hc]
        have hy := memcl y c hc
        have e1' : (match C.env.cells.lookup y with | some _ => zcm y | none => zm y) = some v := e1
        rw [hy] at e1'
        obtain ⟨o1, p1, p2⟩ := zb2 y c hy
        obtain ⟨o2, r1, r2⟩ := b2 y c hy
        have r1' : h₁.get? c = some o2 := r1
        rw [old _ _ p1] at r1'
        cases r1'
        rw [p2] at r2
        have eq : zcm y = cm y := by injection r2
        show cm y = some v
        rw [← eq]; exact e1'
      · cases q
    · unfold cfI at hp
      dsimp only at hp
      rcases List.mem_append.mp hp with q | q
      · rcases List.mem_singleton.mp q with rfl
        exact ⟨[], hplD, .nil⟩
      · obtain ⟨vs, x, y⟩ := z7 p q
        exact ⟨vs, plain_keep x fun o e => old _ _ e, upL y⟩
    · have q' : x ∈ allL (compEnvC scope cl Cx C.env) ([(D, [])] ++ (C.μ ++ C.κ)) := q
      unfold allL at q'
      rcases List.mem_cons.mp q' with rfl | q'
      · exact .head _
      · refine .tail _ ?_
        rcases List.mem_append.mp q' with q' | q'
        · obtain ⟨⟨n, c⟩, hc, rfl⟩ := List.mem_map.mp q'
          have := List.map_inj_left.mp hcl _ hc
          exact .tail _ (z8 _ (all_cell this))
        · simp only [List.map_append, List.map_cons, List.map_nil, List.singleton_append] at q'
          rcases List.mem_cons.mp q' with rfl | q'
          · exact .head _
          · refine .tail _ (z8 _ ?_)
            unfold allL
            refine .tail _ (List.mem_append_right _ ?_)
            show x ∈ List.map _ (C.μ ++ C.κ)
            rw [List.map_append]; exact q'
    · have q' : x ∈ [I] := q
      simp at q'
      subst q'
      exact .tail _ (.tail _ (.head _))
    · show (([(D, ([] : List PV))] ++ (C.μ ++ C.κ)).map (fun (x : Addr × List PV) => x.1)).Nodup
      have z10' : ((C.μ ++ C.κ).map (·.1)).Nodup := z10
      rw [List.singleton_append, List.map_cons, List.nodup_cons]
      refine ⟨fun q => ?_, z10'⟩
      obtain ⟨p, hp, e⟩ := List.mem_map.mp q
      obtain ⟨vs, ⟨n, x⟩, _⟩ := z7 p hp
      have e' : p.1 = D := e
      rw [e', nD] at x; cases x
    · have q' : x ∈ ownL (compEnvC scope cl Cx C.env) [(D, [])] := q
      unfold ownL at q'
      have : (compEnvC scope cl Cx C.env).func.isSome = false := rfl
      rw [this] at q'
      simp only [Bool.false_eq_true, if_false, List.nil_append, List.map_cons, List.map_nil] at q'
      rcases List.mem_cons.mp q' with rfl | q'
      · exact .inr nC
      · simp at q'
        subst q'
        exact .inr nD
  have alI : ∃ o, s₂.heap.get? I = some o := F₂.live I (.head _)
  have IC : I ≠ Cx := fun q => by obtain ⟨o, e⟩ := alI; rw [q, nC] at e; cases e
  have ID : I ≠ D := fun q => by obtain ⟨o, e⟩ := alI; rw [q, nD] at e; cases e
  have nall : ∀ acc : List PV, I ∉ allL (compEnvC scope cl Cx C.env) ([(D, acc)] ++ (C.μ ++ C.κ)) := fun acc q => by
    unfold allL at q
    rcases List.mem_cons.mp q with q | q
    · exact IC q
    · rcases List.mem_append.mp q with q | q
      · obtain ⟨⟨n, c⟩, hc, e⟩ := List.mem_map.mp q
        have := List.map_inj_left.mp hcl _ hc
        have e' : c = I := e
        exact hI (e' ▸ hsub c (all_cell this))
      · rw [List.singleton_append, List.map_cons] at q
        rcases List.mem_cons.mp q with q | q
        · exact ID q
        · refine hI (hsub I ?_)
          unfold allL
          exact .tail _ (List.mem_append_right _ q)
  have nown : ∀ acc : List PV, I ∉ ownL (compEnvC scope cl Cx C.env) [(D, acc)] := fun acc q => nall acc (own_all q)
  have loop : ∀ s₃ : Shared, s₃ = { s₂ with heap := h₁, toks := s₂.toks + ([] : List (Str × Value)).length } →
      codeAny (model prog w) A (.compLoop (comp2 elt (.Name x px) iter (.Name y py) i2 scope pos) 0 (.ref I) (.ref D) (compEnvC scope cl Cx C.env)) (RR (.ref D) Cx) s₃ := by
    rintro s₃ rfl
    have st₁ : St 0 h₁ := Wk₁.stay _ _ _ st₀ fun o e => old _ _ e
    refine loop_out (hset _) (I := fun n s' => ∃ i, n = ps.length + 1 - i ∧ i ≤ ps.length ∧ St i s'.heap ∧ FS H (cfI C scope cl (ρI C cl) D Cx s₂ [I] (Cx :: D :: I :: C.W) (flat qs f (ps.take i)) τ [I]) s') ?_ (ps.length + 1)
      ⟨0, rfl, Nat.zero_le _, st₁, by simpa [flat] using start⟩
    rintro n s₄ ⟨i, rfl, hi, st₄, F₄⟩
    by_cases hlt : i < ps.length
    · have hp : ps[i]? = some ps[i] := List.getElem?_eq_getElem hlt
      generalize ps[i] = p at hp
      have hmem : p ∈ ps := List.mem_of_getElem? hp
      refine Wk₁.item i p _ s₄ _ _ hp F₄ ⟨rfl, fun q hq => List.mem_append_right _ (hneed q hq)⟩ st₄ fun v h' tk r st' e' al' ht' => ?_
      have F₅ := F₄.touch (tk := tk) (I := I) (.tail _ (.tail _ (.head _))) (nall _) (.inl (.head _)) e' al' ht'
      have r₅ : Rep h' (Cx :: D :: I :: C.W) p v := r.ext e' fun x q => by
        simp at q; subst q; exact .tail _ (.tail _ (.head _))
      have F₆ := F₅.rebase [] (fun _ q => nomatch q)
      refine Wk₁.go _ _ _ _ _ _ st' (.inl ⟨x, px, rfl⟩) ?_
      refine wpAny_assign_Name (hx Cx _ _ _ _ _ _ _ _ p _ v _ _ F₆ r₅ fun s₇ F₇ => ?_)
      refine comp_inner (C := cfI C scope cl (upd (ρI C cl) x p) D Cx { s₄ with heap := h', toks := tk } (ownL (compEnvC scope cl Cx C.env) [(D, flat qs f (ps.take i))]) (Cx :: D :: I :: C.W) (flat qs f (ps.take i)) τ ([] ++ (ownL (compEnvC scope cl Cx C.env) [(D, flat qs f (ps.take i))] ++ [I])))
        (hi2 p hmem _ _ _ _ _ _ _ _) rfl (hy Cx) ?_ (fun q hq s0 X W acc' τ B => hE p hmem q hq D Cx s0 X W acc' τ B) (hn i p hp) F₇ fun s₉ F₉ => ?_
      · show upd (ρI C cl) x p y = none
        unfold upd
        rw [if_neg hxy]
        show (match cl.lookup y with | some _ => C.ρ y | none => none) = none
        rw [hyl]
      · refine ⟨ps.length + 1 - (i + 1), by omega, i + 1, rfl, hlt, Wk₁.stay _ _ _ st' fun o e => F₉.ext I o (nown _) e, ?_⟩
        have G := FS.unbase (C := cfI C scope cl (ρI C cl) D Cx s₂ [I] (Cx :: D :: I :: C.W) (flat qs f (ps.take i)) τ [I]) (Z := []) F₅ F₉
        have e2 : flat qs f (ps.take (i + 1)) = flat qs f (ps.take i) ++ (qs p).map (f p) := by
          unfold flat
          rw [List.take_add_one, hp, List.flatMap_append]
          simp
        rw [e2]
        exact G.forget (ρI_sub hxl)
    · have hin : i = ps.length := by omega
      subst hin
      refine Wk₁.done _ s₄ _ _ F₄ ⟨rfl, fun q hq => List.mem_append_right _ (hneed q hq)⟩ st₄ fun h' tk e' ht' => ?_
      obtain ⟨vs, hl, rl⟩ := F₄.lists (D, _) (.head _)
      obtain ⟨m, cm, b1, _, _⟩ := F₄.vars
      refine hRR D Cx { s₄ with heap := h', toks := tk } vs m nD nC hDC (b1.at' fun o q => e' _ o (fun z => IC (List.mem_singleton.mp z).symm) q) (plain_keep hl fun o q => e' _ o (fun z => ID (List.mem_singleton.mp z).symm) q) ?_ ?_ (fun h => ht' (F₄.up h)) (F₄.ext.trans e')
      · have z : RepL h' (Cx :: D :: I :: C.W) (flat qs f (ps.take ps.length)) vs := rl.ext e' fun y q => by simp at q; subst q; exact .tail _ (.tail _ (.head _))
        rw [List.take_length] at z
        exact z
      · obtain ⟨h, t, e⟩ := F₄.same
        exact ⟨h', tk, by rw [e]; rfl⟩
  exact codeAny_compStart_list (loop _ rfl) (wpAny_mono (Wk₁.self _ _ _ (fun _ _ => False) (Wk₁.stay _ _ _ st₀ fun o e => old _ _ e) (loop _ rfl)) (fun _ _ x => x) fun _ _ x => x.elim)

theorem FS.swap {H' : Heap} {s : Shared} (hH : ∀ a, H'.get? a = H.get? a) (F : FS H C s) (p : H'.life.known = 0 → 0 < s.toks) : FS H' C s := by
  obtain ⟨⟨a1, a2, a3, a4, a5, a6, a7, a8, aX, aB, a9, a10, aT, a11⟩, tk, up⟩ := F
  refine ⟨?_, p, up⟩
  exact ⟨a1, a2, fun b o q => a3 b o ((hH b).symm.trans q), fun b q => (hH b).trans (a4 b q), a5, a6, a7, a8, aX, aB, a9, a10, aT, a11⟩
theorem Holds.swap {H' : Heap} {P : PQ} {f : Flow} {s : Shared} (hH : ∀ a, H'.get? a = H.get? a) (hf : H.life.known ≠ 0) (h : Holds H' C P f s) : Holds H C P f s := by
  obtain ⟨W, ρ, μ, F, p⟩ := h
  exact ⟨W, ρ, μ, F.swap (fun a => (hH a).symm) (fun q => absurd q hf), p⟩
theorem run_comp2_new {H' : Heap} (hH : ∀ a, H'.get? a = H.get? a) (hf : H.life.known ≠ 0) {z : Str} {pz px py pos spos : Pos} {scope : Scope} {cl : List (Str × Addr)} {x y : Str} {iter i2 elt : Expr} {ps : List PV} {qs : PV → List PV} {f : PV → PV → PV} {need : Sto} {rest : List Stmt} {P : PQ}
    (hi : Itr prog w H A C iter ps need) (hneed : ∀ q ∈ need, q ∈ C.μ ++ C.κ) (hn : ∀ i p, ps[i]? = some p → (flat qs f (ps.take i)).length + (qs p).length ≤ 1000)
    (hset : ∀ env x, foldedSetIterable i2 env x = pure x) (hxl : cl.lookup x = none) (hyl : cl.lookup y = none) (hxy : y ≠ x)
    (hxa : ∀ Cx, Able prog w H A (compEnvC scope cl Cx C.env) x) (hya : ∀ Cx, Able prog w H A (compEnvC scope cl Cx C.env) y)
    (hi2 : ∀ p ∈ ps, ∀ D Cx s0 X W acc τ B, Itr prog w H A (cfI C scope cl (upd (ρI C cl) x p) D Cx s0 X W acc τ B) i2 (qs p) [])
    (hE : ∀ p ∈ ps, ∀ q ∈ qs p, ∀ D Cx s0 X W acc τ B, Ev prog w H A (cfI C scope cl (upd (upd (ρI C cl) x p) y q) D Cx s0 X W acc τ B) elt (f p q))
    (k : ∀ D, Fresh C D → Run prog w H' A ⟨C.env, C.s0, C.X, D :: C.W, upd C.ρ z (.ref D), (D, flat qs f ps) :: C.μ, C.τ, C.κ, C.B⟩ rest P)
    (hsw : swapsWith (comp2 elt (.Name x px) iter (.Name y py) i2 scope pos) (some (.Name z pz)) spos.line C.env = pure true := by rfl)
    (hx : C.env.kindOf z = some .local := by rfl) (hxc : C.env.cells.lookup z = none := by rfl) (hp : (C.env.scope.kind == .class || (C.env.scope.kind == .module && C.env.locals != C.env.globals)) = false := by rfl)
    (hclos : closureFor scope C.env = pure cl := by rfl) (hcl : cl.map (fun p => C.env.cells.lookup p.1) = cl.map (fun p => some p.2) := by rfl) (hcell : ∀ y ∈ scope.names, y.2 ≠ .cell := by decide) (hkind : scope.kind = .function := by rfl)
    (hnames : ∀ y ∈ scope.names, y.2 = .local → scope.names.lookup y.1 = some .local := by decide)
    (hs : ∀ x, foldedSetIterable iter C.env x = pure x := by intro _; rfl) :
    Run prog w H A C (.Assign [.Name z pz] (comp2 elt (.Name x px) iter (.Name y py) i2 scope pos) spos :: rest) P := run_one fun s F => by
  rw [exec_Assign_Name_used _ _ _ _ hsw]
  refine wpAny_bind (wpAny_standAt (wpAny_bind ?_))
  show wpAny _ A (do let _ ← comprehension (comp2 elt (.Name x px) iter (.Name y py) i2 scope pos) scope C.env _ (newList []) false (eval iter C.env) (some (assign (.Name z pz) C.env))) _ _ s
  refine wpAny_bind (wpAny_mono (wpAny_comprehension_free (use := some (assign (.Name z pz) C.env)) (Q := fun _ s' => wpAny (model prog w) A (execs rest C.env) (Holds H C P) (fun _ _ => False) s') rfl hs hclos hkind hnames
    (hi s _ _ F fun I St τ s₂ k₂ n₂ al₂ F₂ kτ W₂ st₂ => ?_)) (fun _ s' hq => wpAny_pure (wpAny_pure hq)) fun _ _ e => e)
  refine comp_block2 (RR := fun acc Cx => compPost (model prog w) A (fun _ _ => False) (some (assign (.Name z pz) C.env)) (fun _ s' => wpAny (model prog w) A (execs rest C.env) (Holds H C P) (fun _ _ => False) s') acc Cx) hcl hcell hkind hn F.inW (not_mem_of_none F n₂) F₂ hneed W₂ st₂ hset hxl hyl hxy hxa hya hi2 hE ?_
  rintro D Cx s' vs m nD nC hDC hns hl r ⟨h, t, rfl⟩ hup he
  show wpAny _ A (assign (.Name z pz) C.env (.ref D)) _ _ _
  have nDs := none_back k₂ nD
  have nCs := none_back k₂ nC
  have kS : KeepS s { s₂ with heap := h, toks := t } := by
    have kp := k₂.pos
    obtain ⟨h2, t2, rfl, _⟩ := id k₂
    exact ⟨h, t, rfl, fun z => hup (kp z), fun b o q => he b o (fun z => by rw [List.mem_singleton.mp z, n₂] at q; cases q) (k₂.keep b o q)⟩
  have alC : ∃ o, h.get? Cx = some o := let ⟨o, _, _, e, _⟩ := hns; ⟨o, e⟩
  -- the block's frame and the list among the changeable ones
  have hW : D ∉ C.W := not_mem_of_none F nDs
  have hX : D ∈ C.X ∨ C.s0.heap.get? D = none := by
    by_cases hx : D ∈ C.X
    · exact .inl hx
    · refine .inr ?_
      cases z : C.s0.heap.get? D with
      | none => rfl
      | some o => rw [F.ext D o hx z] at nDs; cases nDs
  have nX : Cx ∉ C.X := fun q => not_mem_of_none F nCs (F.xW _ q)
  have hC0 : C.s0.heap.get? Cx = none := by
    cases z : C.s0.heap.get? Cx with
    | none => rfl
    | some o => rw [F.ext Cx o nX z] at nCs; cases nCs
  have F₃ : FS H { C with W := Cx :: D :: C.W } { s₂ with heap := h, toks := t } := F.widen2 nCs nDs kS alC (let ⟨n, e⟩ := hl; ⟨_, e⟩)
  have r₃ : RepL h (Cx :: D :: C.W) (flat qs f ps) vs := r.weak fun x q => by
    rcases List.mem_cons.mp q with rfl | q
    · exact .head _
    · rcases List.mem_cons.mp q with rfl | q
      · exact .tail _ (.head _)
      · exact .tail _ (.tail _ (.tail _ q))
  have F₄ := F₃.own (D := D) (.tail _ (.head _)) (fun q => hW (F.inW D q)) hX hl r₃
  obtain ⟨mL, cmL, b1, b2, b3⟩ := F₄.vars
  refine wpAny_assign_Name (wpAny_storeName_local hx b1 (fun h₂ hn₂ hs₂ => ?_) hp)
  have LC : Cx ≠ C.env.locals := fun z => not_mem_of_none F nCs (z ▸ F.inW _ (own_all own_loc))
  refine ⟨m, hns.sameBut hs₂ LC, fun h₃ hs₃ => ?_⟩
  have F₅ := F₄.setLocal (tk := t + 1) b1 hxc hn₂ hs₂ (v := .ref D) (pv := .ref D) (by simp [Rep])
  have nA : Cx ∉ allL C.env (((D, flat qs f ps) :: C.μ) ++ C.κ) := fun q => by
    unfold allL at q
    rcases List.mem_cons.mp q with q | q
    · exact LC q
    · rcases List.mem_append.mp q with q | q
      · exact not_mem_of_none F nCs (F.inW Cx (.tail _ (List.mem_append_left _ q)))
      · rw [List.cons_append, List.map_cons] at q
        rcases List.mem_cons.mp q with q | q
        · exact hDC q.symm
        · exact not_mem_of_none F nCs (F.inW Cx (.tail _ (List.mem_append_right _ q)))
  have F₆ := FS.close F₅ (tk := t + 1) (I := Cx) (.head _) nA hC0 (fun y q z => not_mem_of_none F nCs (z ▸ F.bW y q)) (Ext.of_same hs₃) (fun _ => Nat.succ_pos _)
  have sub : ∀ y ∈ D :: C.W, y ∈ (Cx :: D :: C.W).filter (· != Cx) := fun y q => by
    refine List.mem_filter.mpr ⟨.tail _ q, ?_⟩
    have : y ≠ Cx := by
      rintro rfl
      rcases List.mem_cons.mp q with q | q
      · exact hDC q.symm
      · exact not_mem_of_none F nCs q
    simpa using this
  have F₇ := F₆.shrink (W := D :: C.W) sub (fun y q => ?_) (fun y q => .tail _ (F.bW y q))
  · exact wpAny_mono ((k D (.of F nDs)).go _ (F₇.swap hH fun _ => Nat.succ_pos _)) (fun _ _ h => h.swap hH hf) fun _ _ h => h
  · unfold allL at q
    rcases List.mem_cons.mp q with rfl | q
    · exact .tail _ (F.inW _ (own_all own_loc))
    · rcases List.mem_append.mp q with q | q
      · exact .tail _ (F.inW y (.tail _ (List.mem_append_left _ q)))
      · rw [List.cons_append, List.map_cons] at q
        rcases List.mem_cons.mp q with rfl | q
        · exact .head _
        · exact .tail _ (F.inW y (.tail _ (List.mem_append_right _ q)))

end
end Mine

end

section
open PySem PySem.W PyProof.Rows PySem.Calls
namespace Mine
def pick {α : Type} (l : List α) (n k : Int) : List α :=
  (sliceRange (sliceBounds (some n) none (some k) l.length).1 (sliceBounds (some n) none (some k) l.length).2.1 (sliceBounds (some n) none (some k) l.length).2.2).filterMap (l[·]?)
theorem pick_map {α β : Type} (f : α → β) (l : List α) (n k : Int) : pick (l.map f) n k = (pick l n k).map f := by
  unfold pick
  rw [List.length_map, List.map_filterMap]
  refine congrArg (fun g => List.filterMap g _) ?_
  funext i
  rw [List.getElem?_map]
theorem RepL.filterMap {h : Heap} {W : List Addr} {l : List PV} {vs : List Value} (r : RepL h W l vs) : ∀ idx : List Nat, RepL h W (idx.filterMap (l[·]?)) (idx.filterMap (vs[·]?))
  | [] => .nil
  | i :: idx => by
    have ih := RepL.filterMap r idx
    rw [List.filterMap_cons, List.filterMap_cons]
    cases hl : l[i]? with
    | none =>
      have : vs[i]? = none := by
        rw [List.getElem?_eq_none_iff] at hl ⊢
        rw [r.length]; exact hl
      rw [this]
      exact ih
    | some p =>
      obtain ⟨v, hv, rv⟩ := r.get hl
      rw [hv]
      exact .cons rv ih
section
variable {prog : Program} {w : World} {K : Frag} {H : Heap} {A : Around} {C : Cf}

/-- o[n::k] -/
theorem ev_slice {o lo st : Expr} {p pos : Pos} {l : List PV} {n k : Int} (ho : Ev prog w H A C o (.lst l)) (hlo : Ev prog w H A C lo (.int n)) (hst : Ev prog w H A C st (.int k)) (hk : k ≠ 0) (hn : l.length ≤ 1000)
    (ht : ∀ u r, letTemporaryGo o u r = pure () := by intro _ _; rfl) : Ev prog w H A C (.Subscript o (.Slice (some lo) none (some st) p) pos) (.lst (pick l n k)) := fun s Q E F kk => by
  refine wpAny_Subscript_Slice_step (T := "list") list_getitem_lookup (ho s _ E F fun u s₁ k₁ F₁ r₁ => wpAny_Slice ?_) ht
  rw [evalPart_some, evalPart_none, evalPart_some]
  refine hlo s₁ _ E F₁ fun vl s₂ k₂ F₂ r₂ => wpAny_pure (hst s₂ _ E F₂ fun vk s₃ k₃ F₃ r₃ => ?_)
  have r1 := r₁.keeps (k₂.trans k₃).keep
  simp only [Rep] at r1 r₂ r₃
  obtain ⟨ad, vs, rfl, na, hl, rl⟩ := r1
  obtain ⟨t, rfl⟩ := r₂
  obtain ⟨t', rfl⟩ := r₃
  have k₄ : KeepS s₃ { s₃ with heap := s₃.heap.push { cls := .type "slice", data := .fields #[.int n t, .none, .int k t'] } } := .push
  have F₄ := F₃.keeps k₄
  have hl4 : (s₃.heap.push { cls := .type "slice", data := .fields #[.int n t, .none, .int k t'] }).PlainList ad vs.toArray := plain_keep hl fun o q => k₄.keep _ o q
  have rl4 := rl.keeps k₄.keep
  refine ⟨hl4.isList.typeIs, wpAny_getItem_list_slice hl4.isList (Heap.IsSliceOf.new ..) (.int _ _) .none (.int _ _) (by simpa using hk) ?_ (by rw [List.size_toArray, rl.length, sizeLine_eq]; omega)⟩
  have e : slicePick vs.toArray (some n) none (some k) = ((sliceRange (sliceBounds (some n) none (some k) l.length).1 (sliceBounds (some n) none (some k) l.length).2.1 (sliceBounds (some n) none (some k) l.length).2.2).filterMap (vs[·]?)).toArray := by
    unfold slicePick
    rw [List.size_toArray, rl.length]
    refine congrArg List.toArray (congrArg (fun g => List.filterMap g _) ?_)
    funext i
    simp
  rw [e]
  exact kk _ _ (((k₁.trans k₂).trans k₃).trans (k₄.trans .push)) (F₄.keeps .push) (new_list F₄ (rl4.filterMap _))
end
end Mine

end

section
open PySem PySem.W PyProof.Rows PySem.Calls
namespace Mine
open PySem.SeqAt
section
variable {A : Around} {s : Shared}
theorem told_none {M : Model} {E : Value → Shared → Prop} {Q : Bool → Shared → Prop} {K : Frag} {t : Tok} (X : K.In s.heap) (e : nsIn K cStatics sharingNotToldKey = some none) (h : Q false s) : wpAny M A (sharingNotTold t) Q E s := by
  unfold sharingNotTold
  refine wpAny_bind ((looks_nsIn X e).here ?_)
  exact wpAny_pure h
theorem same_flos {M : Model} {E : Value → Shared → Prop} {Q : Bool → Shared → Prop} {K : Frag} {a b : UInt64} {t u : Tok} (X : K.In s.heap) (e : nsIn K cStatics sharingNotToldKey = some none) (ht : t ≠ 0) (hu : u ≠ 0) (h : ∀ r, Q r s) : wpAny M A (isSame (.float a t) (.float b u)) Q E s := by
  show wpAny M A (isSame.created (a == b && !Float64.isNaN a) t u) Q E s
  unfold isSame.created
  rw [if_neg (by simp [ht, hu])]
  refine wpAny_ite ?_
  split
  · exact wpAny_pure (h _)
  refine wpAny_ite ?_
  split
  · exact wpAny_pure (h _)
  refine wpAny_bind (told_none X e ?_)
  rw [if_neg Bool.false_ne_true]
  refine wpAny_bind (told_none X e ?_)
  rw [if_neg Bool.false_ne_true]
  exact wpAny_bind (wpAny_rule (wpAny_bind (wpAny_askSetting (wpAny_pure (h _)))))
theorem EqAt.flos {K : Frag} {a b : UInt64} {t u : Tok} (X : K.In s.heap) (e : nsIn K cStatics sharingNotToldKey = some none) (ht : t ≠ 0) (hu : u ≠ 0) (h : feq a b = true) : EqAt A s (.float a t) (.float b u) true := fun prog w E Q hq => by
  have hc : wpAny (model prog w) A (richCompare .Eq (.float a t) (.float b u)) (fun v s' => wpAny (model prog w) A (truthOfDropped v) Q E s') E s := by
    refine AutoFloatOps.eq_0 ?_
    rw [show (Float64.cmp a b == some Ordering.eq) = true from h]
    exact wpAny_truthy_bool hq
  unfold eqBool
  refine wpAny_holding ?_
  refine wpAny_ite_split (fun _ => ?_) (fun _ => ?_)
  · exact wpAny_bind (wpAny_rule (wpAny_pure hq))
  · refine wpAny_bind (same_flos X e ht hu fun r => ?_)
    cases r with
    | true => exact wpAny_pure hq
    | false => exact wpAny_bind hc
end
section
variable {prog : Program} {w : World} {K : Frag} {H : Heap} {A : Around} {C : Cf}

/-- (a, b, c) != (a', b', c'), where they are alike -/
theorem op_ne_flo3 {a b c a' b' c' : UInt64} (X : K.In H) (e : nsIn K cStatics sharingNotToldKey = some none) (R : Room 1 A) (h1 : feq a a' = true) (h2 : feq b b' = true) (h3 : feq c c' = true) : Op2 prog w H A C (compareOp .NotEq) (.tup [.flo a, .flo b, .flo c]) (.tup [.flo a', .flo b', .flo c']) (.bool false) := fun s u v Q E F r₁ r₂ k => by
  simp only [Rep, RepL] at r₁ r₂
  obtain ⟨x, vs, rfl, _, hx, v1, r1, rfl, ⟨t1, n1, rfl⟩, v2, r2, rfl, ⟨t2, n2, rfl⟩, v3, r3, rfl, ⟨t3, n3, rfl⟩, rfl⟩ := r₁
  have X' : K.In s.heap := fun a o q => F.old _ _ (X _ _ q)
  obtain ⟨y, us, rfl, _, hy, u1, q1, rfl, ⟨z1, m1, rfl⟩, u2, q2, rfl, ⟨z2, m2, rfl⟩, u3, q3, rfl, ⟨z3, m3, rfl⟩, rfl⟩ := r₂
  refine RcNeAt.tuples (e := fun _ => true) hx hy (by have := R.units; unfold cLine; omega) (fun j j1 j2 => ?_) prog w E Q (k _ s .refl F (by simp [Rep]))
  have hj : j = 0 ∨ j = 1 ∨ j = 2 := by
    have : j < 3 := j1
    omega
  rcases hj with rfl | rfl | rfl
  · exact EqAt.flos X' e n1 m1 h1
  · exact EqAt.flos X' e n2 m2 h2
  · exact EqAt.flos X' e n3 m3 h3

/-- text[k] -/
theorem op_item_str {a i : Expr} {x : Str} {k : Int} (hr : fitsSsize k = true) (hin : (Txt.charAt x k).isSome = true)
    (hs : ∀ (t u : Tok), subscripted i false (.str x t) (.int k u) = operate [.str x t, .int k u] (getItem (.str x t) (.int k u)) := by (intro _ _; with_unfolding_all rfl)) : Op2 prog w H A C (subscriptTail a i) (.str x) (.int k) (.str (Txt.item x k)) := fun s u v Q E F r₁ r₂ kk => by
  simp only [Rep] at r₁ r₂
  obtain ⟨t, rfl⟩ := r₁
  obtain ⟨t', rfl⟩ := r₂
  exact tail_any (typeIs_str _ _ _) PySem.F.slot_str_getitem.lookup (SB.getItem hr hin (kk _ _ .tok (tok_keep F) (by simp [Rep]))) (hs _ _)

theorem run_assignT {elts : List Expr} {kd : Nat} {tpos pos : Pos} {e : Expr} {p : PV} {μ : Sto} {ρ : Env0} {rest : List Stmt} {P : PQ} (he : EvM prog w H A C e p μ) (ha : Asg prog w H A { C with μ := μ } (.Tuple elts kd tpos) p ρ)
    (k : Run prog w H A { C with ρ := ρ, μ := μ } rest P)
    (hs : swapsWithSole [.Tuple elts kd tpos] e pos.line C.env = pure false := by rfl) (hw : swappedStores [.Tuple elts kd tpos] e C.env = pure none := by rfl) : Run prog w H A C (.Assign [.Tuple elts kd tpos] e pos :: rest) P :=
  run_one fun s F => Assign_Tuple (he s _ _ F fun v s₁ F₁ r₁ => ha s₁ v _ _ F₁ r₁ fun s₂ F₂ => k.go s₂ F₂) hs hw

/-- x, y, z = a, b, c -/
theorem run_assign3 {x y z : Str} {px py pz tpos pos : Pos} {kd : Nat} {e : Expr} {p q r : PV} {rest : List Stmt} {P : PQ} (hh : A.handled = none) (he : Ev prog w H A C e (.tup [p, q, r])) (hx : Able prog w H A C.env x) (hy : Able prog w H A C.env y) (hz : Able prog w H A C.env z)
    (k : Run prog w H A { C with ρ := upd (upd (upd C.ρ z r) y q) x p } rest P)
    (hs : swapsWithSole [.Tuple [.Name x px, .Name y py, .Name z pz] kd tpos] e pos.line C.env = pure false := by rfl) (hw : swappedStores [.Tuple [.Name x px, .Name y py, .Name z pz] kd tpos] e C.env = pure (some [x, y, z]) := by rfl) :
    Run prog w H A C (.Assign [.Tuple [.Name x px, .Name y py, .Name z pz] kd tpos] e pos :: rest) P :=
  run_one fun s F => Assign_Tuple_swapped (names := [x, y, z]) (he s _ _ F fun v s₁ k₁ F₁ r₁ => by
    simp only [Rep, RepL] at r₁
    obtain ⟨a, vs, rfl, na, ht, v1, r1, rfl, rp, v2, r2, rfl, rq, v3, r3, rfl, rr, rfl⟩ := r₁
    refine unpackItems_tuple (items := #[v1, v2, v3]) hh ht fun h' he => ?_
    have ks : KeepS s₁ { s₁ with heap := h' } := ⟨h', s₁.toks, rfl, fun h => h, fun b o e => he b o (Nat.ne_of_lt (Heap.lt_size e)) e⟩
    have F₂ := ((F₁.temp rp).temp (C := { C with τ := (p, v1) :: C.τ }) rq).keeps ks
    show wpAny _ A (do holding [v2, v1] (bindName C.env z v3); assignInOrder [fun v => bindName C.env y v, fun v => bindName C.env x v] [v2, v1]) _ _ _
    refine wpAny_bind (wpAny_holding (wpAny_bindName (hz _ _ _ _ _ _ _ _ r _ v3 _ _ F₂ (rr.keeps ks.keep) fun s₃ F₃ => ?_)))
    show wpAny _ A (do holding [v1] (bindName C.env y v2); assignInOrder [fun v => bindName C.env x v] [v1]) _ _ _
    refine wpAny_bind (wpAny_holding (wpAny_bindName (hy _ _ _ _ _ _ _ _ q _ v2 _ _ F₃ (F₃.temps (q, v2) (.head _)) fun s₄ F₄ => ?_)))
    show wpAny _ A (do holding [] (bindName C.env x v1); assignInOrder [] []) _ _ _
    refine wpAny_bind (wpAny_holding (wpAny_bindName (hx _ _ _ _ _ _ _ _ p _ v1 _ _ F₄ (F₄.temps (p, v1) (.tail _ (.head _))) fun s₅ F₅ => ?_)))
    exact wpAny_pure (k.go s₅ (F₅.untemp fun _ z => .tail _ (.tail _ z)))) hs hw
end
end Mine

end

section
namespace Mine

/-! the order of items -/
theorem lexLt_asymm : ∀ xs ys : List Int, lexLt xs ys = true → lexLt ys xs = false
  | [], [], h => by simp [lexLt] at h
  | _ :: _, [], h => by simp [lexLt] at h
  | [], _ :: _, h => by simp [lexLt]
  | x :: xs, y :: ys, h => by
    unfold lexLt at h ⊢
    by_cases e : x = y
    · subst e; simp only [if_true] at h ⊢; exact lexLt_asymm xs ys h
    · have e' : ¬ y = x := fun z => e z.symm
      simp only [if_neg e, if_neg e', decide_eq_true_eq, decide_eq_false_iff_not] at h ⊢
      omega
theorem lexLt_total : ∀ xs ys : List Int, lexLt xs ys = false → lexLt ys xs = false → xs = ys
  | [], [], _, _ => rfl
  | _ :: _, [], _, h => by simp [lexLt] at h
  | [], _ :: _, h, _ => by simp [lexLt] at h
  | x :: xs, y :: ys, h, h' => by
    unfold lexLt at h h'
    by_cases e : x = y
    · subst e; simp only [if_true] at h h'; rw [lexLt_total xs ys h h']
    · have e' : ¬ y = x := fun z => e z.symm
      simp only [if_neg e, if_neg e', decide_eq_false_iff_not] at h h'
      omega
theorem lexLt_trans : ∀ xs ys zs : List Int, lexLt xs ys = true → lexLt ys zs = true → lexLt xs zs = true
  | _, _, [], _, h => by simp [lexLt] at h
  | _, [], _ :: _, h, _ => by simp [lexLt] at h
  | [], _ :: _, _ :: _, _, _ => by simp [lexLt]
  | x :: xs, y :: ys, z :: zs, h, h' => by
    unfold lexLt at h h' ⊢
    by_cases e : x = y
    · subst e
      by_cases e2 : x = z
      · subst e2; simp only [if_true] at h h' ⊢; exact lexLt_trans xs ys zs h h'
      · simp only [if_true, if_neg e2] at h h' ⊢; exact h'
    · by_cases e2 : y = z
      · subst e2; simp only [if_neg e] at h ⊢; exact h
      · simp only [if_neg e, if_neg e2, decide_eq_true_eq] at h h'
        have e3 : ¬ x = z := by omega
        simp only [if_neg e3, decide_eq_true_eq]; omega

theorem itemLt_asymm {a b : Item} (h : itemLt a b = true) : itemLt b a = false := by
  unfold itemLt at h ⊢
  by_cases e : a.1 = b.1
  · rw [if_pos e] at h; rw [if_pos e.symm]; exact lexLt_asymm _ _ h
  · rw [if_neg e] at h; rw [if_neg (fun z => e z.symm)]
    simp only [decide_eq_true_eq, decide_eq_false_iff_not] at h ⊢; omega
theorem itemLt_total {a b : Item} (h : itemLt a b = false) (h' : itemLt b a = false) : a = b := by
  unfold itemLt at h h'
  by_cases e : a.1 = b.1
  · rw [if_pos e] at h; rw [if_pos e.symm] at h'
    exact Prod.ext e (lexLt_total _ _ h h')
  · rw [if_neg e] at h; rw [if_neg (fun z => e z.symm)] at h'
    simp only [decide_eq_false_iff_not] at h h'; omega
theorem itemLt_trans {a b c : Item} (h : itemLt a b = true) (h' : itemLt b c = true) : itemLt a c = true := by
  unfold itemLt at h h' ⊢
  by_cases e : a.1 = b.1
  · rw [if_pos e] at h
    by_cases e2 : b.1 = c.1
    · rw [if_pos e2] at h'; rw [if_pos (e.trans e2)]; exact lexLt_trans _ _ _ h h'
    · rw [if_neg e2] at h'; rw [if_neg (fun z => e2 (e.symm.trans z))]
      simp only [decide_eq_true_eq] at h' ⊢; omega
  · rw [if_neg e] at h
    by_cases e2 : b.1 = c.1
    · rw [if_neg (fun z => e (z.trans e2.symm))]
      simp only [decide_eq_true_eq] at h ⊢; omega
    · rw [if_neg e2] at h'
      simp only [decide_eq_true_eq] at h h'
      rw [if_neg (by omega)]
      simp only [decide_eq_true_eq]; omega
/-- a is not greater than b -/
def ile (a b : Item) : Prop := itemLt b a = false
theorem ile_refl (a : Item) : ile a a := by
  unfold ile
  cases h : itemLt a a with
  | false => rfl
  | true => rw [itemLt_asymm h] at h; cases h
theorem ile_of_lt {a b : Item} (h : itemLt a b = true) : ile a b := itemLt_asymm h
theorem ile_trans {a b c : Item} (h : ile a b) (h' : ile b c) : ile a c := by
  unfold ile at *
  cases q : itemLt c a with
  | false => rfl
  | true =>
    cases q2 : itemLt a b with
    | true => rw [itemLt_trans q q2] at h'; cases h'
    | false => rw [itemLt_total q2 h] at q; rw [q] at h'; cases h'
theorem ile_antisymm {a b : Item} (h : ile a b) (h' : ile b a) : a = b := itemLt_total h' h
def minStepO (b x : Item) : Item := if itemLt x b = true then x else b
theorem minStep_le (b x : Item) : ile (minStepO b x) b ∧ ile (minStepO b x) x := by
  unfold minStepO
  split
  · rename_i h; exact ⟨ile_of_lt h, ile_refl x⟩
  · rename_i h; exact ⟨ile_refl b, by unfold ile; cases q : itemLt x b with
      | false => rfl
      | true => exact absurd q h⟩
end Mine

end

section
namespace Mine

def par (i : Nat) : Nat := (i - 1) / 2
def gI (l : List Item) (i : Nat) : Item := l.getD i dI
def HeapL (l : List Item) : Prop := ∀ i, 0 < i → i < l.length → ile (gI l (par i)) (gI l i)

theorem gI_set {l : List Item} {i j : Nat} {x : Item} (h : i < l.length) : gI (l.set i x) j = if i = j then x else gI l j := by
  unfold gI
  rw [List.getD_eq_getElem?_getD, List.getD_eq_getElem?_getD, List.getElem?_set]
  by_cases e : i = j
  · subst e; simp [h]
  · simp [e]
theorem mem_gI {l : List Item} {y : Item} : y ∈ l ↔ ∃ i, i < l.length ∧ gI l i = y := by
  rw [List.mem_iff_getElem]
  constructor
  · rintro ⟨i, h, e⟩; exact ⟨i, h, by simp [gI, List.getD, h, e]⟩
  · rintro ⟨i, h, e⟩; exact ⟨i, h, by simpa [gI, List.getD, h] using e⟩
theorem mem_swap {l : List Item} {a b : Nat} {x y : Item} (ha : a < l.length) (hb : b < l.length) (hne : a ≠ b) : y ∈ (l.set a (gI l b)).set b x ↔ y ∈ l.set a x := by
  have hb' : b < (l.set a (gI l b)).length := by simpa using hb
  rw [mem_gI, mem_gI]
  simp only [List.length_set]
  constructor
  · rintro ⟨i, h, e⟩
    rw [gI_set hb', gI_set ha] at e
    by_cases e1 : b = i
    · rw [if_pos e1] at e; exact ⟨a, ha, by rw [gI_set ha, if_pos rfl]; exact e⟩
    · rw [if_neg e1] at e
      by_cases e2 : a = i
      · rw [if_pos e2] at e; exact ⟨b, hb, by rw [gI_set ha, if_neg hne]; exact e⟩
      · rw [if_neg e2] at e; exact ⟨i, h, by rw [gI_set ha, if_neg e2]; exact e⟩
  · rintro ⟨i, h, e⟩
    rw [gI_set ha] at e
    by_cases e2 : a = i
    · rw [if_pos e2] at e; exact ⟨b, hb, by rw [gI_set hb', if_pos rfl]; exact e⟩
    · rw [if_neg e2] at e
      by_cases e1 : b = i
      · subst e1; exact ⟨a, ha, by rw [gI_set hb', if_neg (fun z => hne z.symm), gI_set ha, if_pos rfl]; exact e⟩
      · exact ⟨i, h, by rw [gI_set hb', if_neg e1, gI_set ha, if_neg e2]; exact e⟩

/-- with x put at pos, all is in order but pos and its parent -/
structure Pre (l : List Item) (pos : Nat) (x : Item) : Prop where
  lt : pos < l.length
  ord : ∀ i, 0 < i → i < l.length → i ≠ pos → ile (gI (l.set pos x) (par i)) (gI (l.set pos x) i)
  up : 0 < pos → ∀ c, 0 < c → c < l.length → par c = pos → ile (gI (l.set pos x) (par pos)) (gI (l.set pos x) c)

theorem sdown_ok (x : Item) : ∀ (f pos : Nat) (l : List Item), pos ≤ f → Pre l pos x → HeapL (sdown x f pos l) ∧ ∀ y, y ∈ sdown x f pos l ↔ y ∈ l.set pos x
  | 0, pos, l, hf, P => by
    have : pos = 0 := by omega
    subst this
    refine ⟨fun i h0 hl => ?_, fun y => by rw [sdown]⟩
    rw [sdown] at hl ⊢
    rw [List.length_set] at hl
    exact P.ord i h0 hl (by omega)
  | f + 1, pos, l, hf, P => by
    have hlt := P.lt
    rw [sdown]
    by_cases hc : 0 < pos ∧ itemLt x (l.getD ((pos - 1) / 2) dI) = true
    · rw [if_pos hc]
      obtain ⟨h0, hx⟩ := hc
      have hp : par pos < pos := by unfold par; omega
      have hpl : par pos < l.length := by omega
      have hx' : ile x (gI l (par pos)) := ile_of_lt hx
      have e1 : ∀ j, gI (l.set pos x) j = if pos = j then x else gI l j := fun j => gI_set hlt
      have hlt2 : par pos < (l.set pos (gI l (par pos))).length := by simpa using hpl
      have e2 : ∀ j, gI ((l.set pos (gI l (par pos))).set (par pos) x) j = if par pos = j then x else if pos = j then gI l (par pos) else gI l j := fun j => by
        rw [gI_set hlt2, gI_set hlt]
      have q : Pre (l.set pos (gI l (par pos))) (par pos) x := by
        refine ⟨hlt2, fun i hi hil hne => ?_, fun hpp c hc hcl hcp => ?_⟩
        · rw [List.length_set] at hil
          rw [e2, e2, if_neg (show ¬ par pos = i from fun z => hne z.symm)]
          have hpi : par i < i := by unfold par; omega
          by_cases a1 : pos = i
          · subst a1; rw [if_pos rfl, if_pos rfl]; exact hx'
          · rw [if_neg a1]
            have ho := P.ord i hi hil (fun z => a1 z.symm)
            rw [e1, e1, if_neg a1] at ho
            by_cases a2 : par pos = par i
            · rw [if_pos a2]
              rw [if_neg (by omega), ← a2] at ho
              exact ile_trans hx' ho
            · rw [if_neg a2]
              by_cases a3 : pos = par i
              · rw [if_pos a3]
                have hu := P.up h0 i hi hil a3.symm
                rw [e1, e1, if_neg (by omega), if_neg a1] at hu
                exact hu
              · rw [if_neg a3]
                rw [if_neg a3] at ho
                exact ho
        · rw [List.length_set] at hcl
          have hppp : par (par pos) < par pos := by unfold par at hpp ⊢; omega
          have hcc : par c < c := by unfold par; omega
          have hop := P.ord (par pos) hpp hpl (by omega)
          rw [e1, e1, if_neg (by omega), if_neg (by omega)] at hop
          rw [e2, e2, if_neg (by omega), if_neg (by omega), if_neg (by omega)]
          by_cases a1 : pos = c
          · rw [if_pos a1]; exact hop
          · rw [if_neg a1]
            have hoc := P.ord c hc hcl (fun z => a1 z.symm)
            rw [e1, e1, if_neg a1, hcp, if_neg (by omega)] at hoc
            exact ile_trans hop hoc
      obtain ⟨r1, r2⟩ := sdown_ok x f (par pos) _ (by omega) q
      refine ⟨r1, fun y => (r2 y).trans (mem_swap hlt hpl (by omega))⟩
    · rw [if_neg hc]
      refine ⟨fun i h0 hl => ?_, fun y => Iff.rfl⟩
      rw [List.length_set] at hl
      by_cases a1 : i = pos
      · subst a1
        have e1 : ∀ j, gI (l.set i x) j = if i = j then x else gI l j := fun j => gI_set hlt
        have : par i < i := by unfold par; omega
        rw [e1, e1, if_neg (by omega), if_pos rfl]
        unfold ile
        cases q : itemLt x (gI l (par i)) with
        | false => rfl
        | true => exact absurd ⟨h0, q⟩ hc
      · exact P.ord i h0 hl a1
end Mine

end

section
namespace Mine

structure Hole (l : List Item) (pos : Nat) : Prop where
  lt : pos < l.length
  ord : ∀ i, 0 < i → i < l.length → i ≠ pos → par i ≠ pos → ile (gI l (par i)) (gI l i)
  up : 0 < pos → ∀ c, 0 < c → c < l.length → par c = pos → ile (gI l (par pos)) (gI l c)

theorem kid_par {l : List Item} {pos : Nat} : par (kid l pos) = pos := by
  unfold kid par
  split <;> omega
theorem kid_least {l : List Item} {pos i : Nat} (h : 2 * pos + 1 < l.length) (hi : 0 < i) (hil : i < l.length) (hp : par i = pos) : ile (gI l (kid l pos)) (gI l i) := by
  have hcase : i = 2 * pos + 1 ∨ i = 2 * pos + 1 + 1 := by unfold par at hp; omega
  unfold kid
  split
  · rename_i hk
    rcases hcase with rfl | rfl
    · exact hk.2
    · exact ile_refl _
  · rename_i hk
    rcases hcase with rfl | rfl
    · exact ile_refl _
    · unfold ile
      cases q : itemLt (gI l (2 * pos + 1 + 1)) (gI l (2 * pos + 1)) with
      | false => rfl
      | true => exact absurd ⟨hil, itemLt_asymm q⟩ hk

theorem sup_ok : ∀ (f pos : Nat) (l : List Item), l.length ≤ pos + f → Hole l pos → Hole (sup f pos l).2 (sup f pos l).1 ∧ (sup f pos l).2.length ≤ 2 * (sup f pos l).1 + 1 ∧ ∀ x y, y ∈ (sup f pos l).2.set (sup f pos l).1 x ↔ y ∈ l.set pos x
  | 0, pos, l, hf, P => by have := P.lt; omega
  | f + 1, pos, l, hf, P => by
    have hlt := P.lt
    rw [sup]
    by_cases hc : 2 * pos + 1 < l.length
    · rw [if_pos hc]
      have hk := kid_lt hc
      have hkp : par (kid l pos) = pos := kid_par
      have e1 : ∀ j, gI (l.set pos (gI l (kid l pos))) j = if pos = j then gI l (kid l pos) else gI l j := fun j => gI_set hlt
      have q : Hole (l.set pos (gI l (kid l pos))) (kid l pos) := by
        refine ⟨by simpa using hk.1, fun i hi hil hne hpn => ?_, fun hpp c h0 hcl hcp => ?_⟩
        · rw [List.length_set] at hil
          rw [e1, e1]
          have hpi : par i < i := by unfold par; omega
          by_cases a1 : pos = i
          · subst a1
            rw [if_neg (by omega), if_pos rfl]
            exact P.up hi _ (by omega) hk.1 hkp
          · rw [if_neg a1]
            by_cases a2 : pos = par i
            · rw [if_pos a2]; exact kid_least hc hi hil a2.symm
            · rw [if_neg a2]; exact P.ord i hi hil (fun z => a1 z.symm) (fun z => a2 z.symm)
        · rw [List.length_set] at hcl
          have hcc : par c < c := by unfold par; omega
          rw [e1, e1, if_pos hkp.symm, if_neg (by omega)]
          have := P.ord c h0 hcl (by omega) (by omega)
          rwa [hcp] at this
      obtain ⟨r1, r2, r3⟩ := sup_ok f (kid l pos) (l.set pos (gI l (kid l pos))) (by rw [List.length_set]; omega) q
      exact ⟨r1, r2, fun x y => (r3 x y).trans (mem_swap hlt hk.1 (by omega))⟩
    · rw [if_neg hc]
      exact ⟨P, by simpa using hc, fun _ _ => Iff.rfl⟩

theorem siftup_ok {l : List Item} (h : Hole l 0) : HeapL (siftup l) ∧ ∀ y, y ∈ siftup l ↔ y ∈ l := by
  obtain ⟨r1, r2, r3⟩ := sup_ok l.length 0 l (by omega) h
  unfold siftup
  generalize hr : sup l.length 0 l = r at r1 r2 r3 ⊢
  obtain ⟨p, l'⟩ := r
  simp only at r1 r2 r3 ⊢
  have hlt := r1.lt
  have e1 : ∀ x j, gI (l'.set p x) j = if p = j then x else gI l' j := fun x j => gI_set hlt
  have q : Pre (l'.set p (l.getD 0 dI)) p (l.getD 0 dI) := by
    refine ⟨by simpa using hlt, fun i hi hil hne => ?_, fun hp c h0 hcl hcp => ?_⟩
    · rw [List.length_set] at hil
      rw [List.set_set, e1, e1, if_neg (show ¬ p = i from fun z => hne z.symm)]
      have hpn : par i ≠ p := by unfold par; omega
      rw [if_neg (fun z => hpn z.symm)]
      exact r1.ord i hi hil hne hpn
    · rw [List.length_set] at hcl
      unfold par at hcp; omega
  obtain ⟨s1, s2⟩ := sdown_ok _ p p _ (Nat.le_refl _) q
  refine ⟨s1, fun y => ?_⟩
  rw [s2, List.set_set, r3]
  have : l.set 0 (l.getD 0 dI) = l := by
    cases l with
    | nil => rfl
    | cons a r => rfl
  rw [this]

theorem hpush_ok {l : List Item} {x : Item} (h : HeapL l) : HeapL (hpush l x) ∧ ∀ y, y ∈ hpush l x ↔ y = x ∨ y ∈ l := by
  have hs : (l ++ [x]).set l.length x = l ++ [x] := by simp
  have q : Pre (l ++ [x]) l.length x := by
    refine ⟨by simp, fun i hi hil hne => ?_, fun hp c h0 hcl hcp => ?_⟩
    · rw [hs]
      have hil' : i < l.length := by simp at hil; omega
      have hpi : par i < i := by unfold par; omega
      have e : ∀ j, j < l.length → gI (l ++ [x]) j = gI l j := fun j hj => by simp [gI, List.getD, List.getElem?_append_left hj]
      rw [e _ (by omega), e _ hil']
      exact h i hi hil'
    · simp at hcl
      unfold par at hcp; omega
  obtain ⟨s1, s2⟩ := sdown_ok x l.length l.length _ (Nat.le_refl _) q
  refine ⟨s1, fun y => ?_⟩
  have := s2 y
  rw [hs] at this
  show y ∈ sdown x l.length l.length (l ++ [x]) ↔ _
  rw [this, List.mem_append, List.mem_singleton]
  exact or_comm

theorem root_least {l : List Item} (h : HeapL l) : ∀ (n i : Nat), i ≤ n → i < l.length → ile (gI l 0) (gI l i)
  | n, 0, _, _ => ile_refl _
  | 0, i + 1, hn, _ => by omega
  | n + 1, i + 1, hn, hl => ile_trans (root_least h n (par (i + 1)) (by unfold par; omega) (by unfold par; omega)) (h (i + 1) (by omega) hl)

theorem hpop_ok {l : List Item} {x : Item} (h : HeapL (l ++ [x])) : HeapL (hpop l x) ∧ (∀ y, y ∈ l ++ [x] ↔ y = hfirst l x ∨ y ∈ hpop l x) ∧ ∀ y ∈ l ++ [x], ile (hfirst l x) y := by
  have hroot : gI (l ++ [x]) 0 = hfirst l x := by cases l <;> rfl
  refine ⟨?_, ?_, fun y hy => ?_⟩
  · cases l with
    | nil => intro i _ hl; simp [hpop] at hl
    | cons y r =>
      refine (siftup_ok ⟨by simp, fun i hi hil hne hpn => ?_, fun hp => absurd hp (by omega)⟩).1
      have hil' : i < (y :: r).length := by simpa using hil
      have := h i hi (by simp at hil' ⊢; omega)
      have hpi : par i < i := by unfold par; omega
      have e : ∀ j, 0 < j → j < (y :: r).length → gI (y :: r ++ [x]) j = gI (x :: r) j := fun j h0 hj => by
        cases j with
        | zero => omega
        | succ j => simp at hj; simp [gI, List.getD, List.getElem?_append_left hj]
      rwa [e _ (by omega) (by omega), e _ hi hil'] at this
  · cases l with
    | nil => intro y; simp [hpop, hfirst]
    | cons a r =>
      have q : Hole (x :: r) 0 := by
        refine ⟨by simp, fun i hi hil hne hpn => ?_, fun hp => absurd hp (by omega)⟩
        have hil' : i < (a :: r).length := by simpa using hil
        have := h i hi (by simp at hil' ⊢; omega)
        have hpi : par i < i := by unfold par; omega
        have e : ∀ j, 0 < j → j < (a :: r).length → gI (a :: r ++ [x]) j = gI (x :: r) j := fun j h0 hj => by
          cases j with
          | zero => omega
          | succ j => simp at hj; simp [gI, List.getD, List.getElem?_append_left hj]
        rwa [e _ (by omega) (by omega), e _ hi hil'] at this
      intro y
      show _ ↔ y = a ∨ y ∈ siftup (x :: r)
      rw [(siftup_ok q).2]
      simp only [List.cons_append, List.mem_cons, List.mem_append, List.not_mem_nil, or_false]
      constructor
      · rintro (h | h | h)
        · exact .inl h
        · exact .inr (.inr h)
        · exact .inr (.inl h)
      · rintro (h | h | h)
        · exact .inl h
        · exact .inr (.inr h)
        · exact .inr (.inl h)
  · rw [← hroot]
    obtain ⟨i, hi, rfl⟩ := mem_gI.mp hy
    exact root_least h _ i (Nat.le_refl _) hi
theorem heap_nil : HeapL [] := fun i _ h => by simp at h
end Mine

end

section
open PySem PySem.W PyProof.Rows PySem.Calls
namespace Mine

def natP (n : Nat) : PV := .int (n : Int)
def edgeP (t : Nat × Nat) : PV := .tup [natP t.1, natP t.2]
def stepT (m : List Nat) (t : Nat × Nat) : List Nat := m.map fun x => if x = m.getD t.1 0 then m.getD t.2 0 else x
def tied (ts : List (Nat × Nat)) : List Nat := ts.foldl stepT [0, 1, 2, 3, 4]

theorem stepT_length (m : List Nat) (t : Nat × Nat) : (stepT m t).length = m.length := by simp [stepT]
theorem foldT_length : ∀ (ts : List (Nat × Nat)) (m : List Nat), (ts.foldl stepT m).length = m.length
  | [], _ => rfl
  | t :: ts, m => by rw [List.foldl_cons, foldT_length ts, stepT_length]
theorem tied_length (ts : List (Nat × Nat)) : (tied ts).length = 5 := foldT_length ts _
theorem tied_snoc {ts : List (Nat × Nat)} {i : Nat} {t : Nat × Nat} (h : ts[i]? = some t) : tied (ts.take (i + 1)) = stepT (tied (ts.take i)) t := by
  rw [List.take_add_one, h]
  simp [tied, List.foldl_append]

abbrev P0 : Program := PySem.Challenge.rw_pg0271_01.row.prog
section
variable {w : World} {H : Heap}

set_option maxHeartbeats 2000000 in
theorem tied_fn (G : Gl w (Mine.hd.heap_39 w.params) H) {n : Nat} (ts : List (Nat × Nat)) (hts : ∀ t ∈ ts, t.1 < 5 ∧ t.2 < 5) : Fn P0 w H (n + 1) 229 [.lst (ts.map edgeP)] (.lst ((tied ts).map natP)) := by
  refine fn_intro (names := ["threads"]) G rfl rfl rfl (fun vs h => ?_) rfl (by decide) (by decide) (by decide) ?_
  · match vs, h with
    | [a], _ => rfl
  · intro A L s W R
    refine run_assign (p := .lst ([0, 1, 2, 3, 4].map natP)) (Ev.m (ev_List (ps := [.int 0, .int 1, .int 2, .int 3, .int 4]) (evl_cons ev_int (evl_cons ev_int (evl_cons ev_int (evl_cons ev_int (evl_cons ev_int evl_nil))))))) (able_local rfl rfl rfl) ?_
    refine run_for (itr_list R.handled (ev_local rfl)) (fun i ρ μ => ρ "marks" = some (.lst ((tied (ts.take i)).map natP))) (fun _ _ => False) rfl (by simp) ?_ ?_
    · intro i p s0 W' ρ μ τ B hp hJ
      rw [List.getElem?_map] at hp
      cases ht : ts[i]? with
      | none => rw [ht] at hp; cases hp
      | some t =>
        rw [ht] at hp
        cases hp
        obtain ⟨h1, h2⟩ := hts t (List.mem_of_getElem? ht)
        have hlen : (tied (ts.take i)).length = 5 := tied_length _
        refine ⟨_, good_tup, asg_tuple2 R.handled (able_local rfl rfl rfl) (able_local rfl rfl rfl), ?_⟩
        refine run_assign (p := natP ((tied (ts.take i)).getD t.1 0)) (Ev.m (ev_Subscript (ev_local hJ) (ev_local rfl) (op_item_list (by omega) (by omega) ?_))) (able_cell rfl rfl rfl rfl) ?_
        · rw [List.getElem?_map, Int.toNat_natCast]; simp [List.getD, h1, hlen]
        refine run_assign (p := natP ((tied (ts.take i)).getD t.2 0)) (Ev.m (ev_Subscript (ev_local hJ) (ev_local rfl) (op_item_list (by omega) (by omega) ?_))) (able_cell rfl rfl rfl rfl) ?_
        · rw [List.getElem?_map, Int.toNat_natCast]; simp [List.getD, h2, hlen]
        refine run_comp_new (ps := (tied (ts.take i)).map natP) (ρv := fun p ρ => upd ρ "mark" p) (b := fun _ => true) (f := fun p => match p with | .int x => .int (if (x == ((tied (ts.take i)).getD t.1 0 : Int)) = true then ((tied (ts.take i)).getD t.2 0 : Int) else x) | q => q)
          (itr_list R.handled (ev_local hJ)) (by simp) ?_ (by simp [hlen]) ?_
        · intro p hp D Cx s0 X W acc τ B
          obtain ⟨x, hx, rfl⟩ := List.mem_map.mp hp
          refine ⟨good_name, ρI_sub rfl, asg_name (able_local rfl rfl rfl), tst_nil, fun _ => ?_⟩
          refine ev_IfExp (evt_Compare (ev_local rfl) (ev_cell rfl) op_eq) (fun h => ?_) (fun h => ?_)
          · simp only [natP, h, if_true]
            exact ev_cell rfl
          · simp only [natP, h, Bool.false_eq_true, if_false]
            exact ev_local rfl
        · intro D hD
          refine run_freeze (y := "marks") hD rfl fun W => ?_
          refine run_nil ?_
          show some (PV.lst _) = some (PV.lst _)
          rw [tied_snoc ht, List.filter_eq_self.mpr (fun _ _ => rfl), List.map_map]
          refine congrArg (fun l => some (PV.lst l)) ?_
          simp only [stepT, List.map_map]
          refine List.map_congr_left fun x hx => ?_
          simp only [Function.comp, natP]
          by_cases hx' : x = (tied (ts.take i)).getD t.1 0
          · rw [if_pos hx', if_pos (by simp [hx'])]
          · have : ¬ ((x : Int) = (((tied (ts.take i)).getD t.1 0 : Nat) : Int)) := by omega
            rw [if_neg (by simpa using this), if_neg hx']
    · intro W' ρ μ h
      rcases h with h | h
      · refine run_return (Ev.m (ev_local h)) ?_
        show PV.lst _ = PV.lst _
        rw [List.length_map, List.take_length]
      · exact h.elim
end
end Mine

end

section
open PySem PySem.W PyProof.Rows PySem.Calls
namespace Mine

def tiesI (ts : List (Nat × Nat)) : Int := 5 - (dcount ((tied ts).map fun (x : Nat) => (x : Int)) : Int)
def bitN (mask kind : Nat) : Nat := mask / 2 ^ kind % 2
def leftL (mask : Nat) : List Nat := (List.range 5).map (bitN mask)
def outL (ends : List (Nat × Nat)) (kinds : List Nat) (mask : Nat) : List (Nat × Nat) :=
  ((List.range 7).filter fun n => decide (bitN mask (kinds.getD n 0) = 0)).map fun n => ends.getD n (0, 0)
def sizeI (ends : List (Nat × Nat)) (kinds : List Nat) (mask : Nat) : Int := ((leftL mask).map fun (x : Nat) => (x : Int)).sum + tiesI (outL ends kinds mask)

theorem map_natP (l : List Nat) : l.map natP = (l.map fun (x : Nat) => (x : Int)).map PV.int := by rw [List.map_map]; rfl
section
variable {w : World} {H : Heap}

theorem ties_fn (G : Gl w (Mine.hd.heap_39 w.params) H) {n : Nat} (ts : List (Nat × Nat)) (hts : ∀ t ∈ ts, t.1 < 5 ∧ t.2 < 5) : Fn P0 w H (n + 3) 236 [.lst (ts.map edgeP)] (.int (tiesI ts)) := by
  refine fn_intro (names := ["threads"]) G rfl rfl rfl (fun vs h => ?_) rfl (by decide) (by decide) (by decide) ?_
  · match vs, h with
    | [a], _ => rfl
  · intro A L s W R
    refine run_return (p := .int (tiesI ts)) (Ev.m (ev_BinOp (q := .int (dcount ((tied ts).map fun (x : Nat) => (x : Int)) : Int)) (ev_int (i := 5)) (ev_lenset (R.less (by omega)) (ev_builtin G rfl rfl rfl) (ev_builtin G rfl rfl rfl) ?_ (by rw [List.length_map, tied_length]; omega)) op_sub)) rfl
    rw [← map_natP]
    exact ev_Call_fn G rfl (tied_fn G ts hts (n := n)) (R.less (by omega)) (ev_global G rfl) (evl_cons (ev_local rfl) evl_nil)
end
end Mine

end

section
open PySem PySem.W PyProof.Rows PySem.Calls
namespace Mine
section
variable {w : World} {H : Heap}

theorem bitN_int (mask kind : Nat) : (((mask : Int).fdiv ((2 : Int) ^ kind)).fmod 2) = ((bitN mask kind : Nat) : Int) := by
  unfold bitN
  have h : ((2 : Int) ^ kind) = ((2 ^ kind : Nat) : Int) := by simp
  rw [h, Int.fdiv_eq_ediv_of_nonneg _ (Int.natCast_nonneg _), Int.fmod_eq_emod_of_nonneg _ (by decide)]
  rfl
theorem rangeL_mem {n : Nat} {p : PV} (h : p ∈ rangeL n) : ∃ i, i < n ∧ p = .int (i : Nat) := by
  obtain ⟨i, hi, rfl⟩ := List.mem_map.mp h
  exact ⟨i, List.mem_range.mp hi, rfl⟩
theorem EvF.cast {prog : Program} {A : Around} {C : Cf} {e : Expr} {l l' : List PV} (h : EvF prog w H A C e l) (q : l = l') : EvF prog w H A C e l' := q ▸ h
theorem Ev.cast {prog : Program} {A : Around} {C : Cf} {e : Expr} {p q : PV} (h : Ev prog w H A C e p) (z : p = q) : Ev prog w H A C e q := z ▸ h
theorem EvM.cast {prog : Program} {A : Around} {C : Cf} {e : Expr} {p : PV} {μ μ' : Sto} (h : EvM prog w H A C e p μ) (z : μ = μ') : EvM prog w H A C e p μ' := z ▸ h
theorem getD_map {α : Type} {f : α → PV} {l : List α} {i : Nat} {d : α} (h : i < l.length) : (l.map f)[i]? = some (f (l.getD i d)) := by
  rw [List.getElem?_map, List.getElem?_eq_getElem h]
  simp [List.getD, h]
theorem getD_mem {α : Type} {l : List α} {i : Nat} {d : α} (h : i < l.length) : l.getD i d ∈ l := by
  simp [List.getD, h]
theorem EvT.cast {prog : Program} {A : Around} {C : Cf} {e : Expr} {p q : Bool} (h : EvT prog w H A C e p) (z : p = q) : EvT prog w H A C e q := z ▸ h
def intOf : PV → Int
  | .int i => i
  | _ => 0

set_option maxHeartbeats 4000000 in
theorem most_fn (G : Gl w (Mine.hd.heap_39 w.params) H) {n : Nat} (ends : List (Nat × Nat)) (kinds : List Nat) (hE : ends.length = 7) (hK : kinds.length = 7) (he5 : ∀ t ∈ ends, t.1 < 5 ∧ t.2 < 5) (hk5 : ∀ k ∈ kinds, k < 5)
    {m : Int} (hm : m ∈ (List.range 32).map (sizeI ends kinds)) (hle : ∀ x ∈ (List.range 32).map (sizeI ends kinds), m ≤ x) :
    Fn P0 w H (n + 6) 241 [.lst (ends.map edgeP), .lst (kinds.map natP)] (.int m) := by
  refine fn_intro (names := ["ends", "kinds"]) G rfl rfl rfl (fun vs h => ?_) rfl (by decide) (by decide) (by decide) ?_
  · match vs, h with
    | [a, b], _ => rfl
  · intro A L s W R
    refine run_new (l := []) (evf_List evl_nil) (able_local rfl rfl rfl) fun S hS => ?_
    refine run_for (ps := rangeL 32) (itr_range R.handled (by omega) (ev_builtin G rfl rfl rfl) (ev_int (i := 32)))
      (fun i ρ μ => ρ "ends" = some (.lst (ends.map edgeP)) ∧ ρ "kinds" = some (.lst (kinds.map natP)) ∧ ρ "sizes" = some (.ref S) ∧ μ = [(S, ((List.range i).map (sizeI ends kinds)).map PV.int)]) (fun _ _ => False) ⟨rfl, rfl, rfl, rfl⟩ (by simp) ?_ ?_
    · rintro i p s0 W' ρ μ τ B hp ⟨hρE, hρK, hρS, rfl⟩
      obtain ⟨hi, rfl⟩ := rangeL_get hp
      refine ⟨_, good_name, asg_name (able_cell rfl rfl rfl rfl), ?_⟩
      refine run_new (l := (leftL i).map natP) ?_ (able_cell rfl rfl rfl rfl) fun D hD => ?_
      · refine (evf_comp (ps := rangeL 5) (ρv := fun p ρ => upd ρ "kind" p) (b := fun _ => true) (f := fun p => .int (bitN i (intOf p).toNat : Nat)) (itr_range R.handled (by omega) (ev_builtin G rfl rfl rfl) (ev_int (i := 5))) (by simp) ?_ (by decide)).cast ?_
        · intro p hp D Cx s0 X W acc τ B
          obtain ⟨k, hk, rfl⟩ := rangeL_mem hp
          refine ⟨good_name, ρI_sub rfl, asg_name (able_local rfl rfl rfl), tst_nil, fun _ => ?_⟩
          have hpos : (0 : Int) < 2 ^ k := Int.pow_pos (by decide)
          have hsm : ((2 : Int) ^ k).natAbs < 1073741824 := by
            have : k = 0 ∨ k = 1 ∨ k = 2 ∨ k = 3 ∨ k = 4 := by omega
            rcases this with rfl | rfl | rfl | rfl | rfl <;> decide
          refine (ev_BinOp (p := .int ((i : Int).fdiv (2 ^ k))) (ev_BinOp (q := .int (2 ^ k)) (ev_cell rfl) (ev_BinOp (ev_int (i := 2)) (ev_local rfl) (op_pow (by omega) (by omega) (by decide))) (op_fdiv (Int.ne_of_gt hpos) hsm)) (ev_int (i := 2)) (op_mod (by decide))).cast ?_
          rw [bitN_int]; rfl
        · rw [List.filter_eq_self.mpr (fun _ _ => rfl)]
          simp only [rangeL, leftL, List.map_map]
          rfl
      refine run_freeze (y := "left") hD rfl fun W => ?_
      refine run_expr (μ := [(S, ((List.range (i + 1)).map (sizeI ends kinds)).map PV.int)]) ?_ ?_
      · refine (evm_append (p := .int (sizeI ends kinds i)) (i := 0) (a := S) (ev_local hρS) rfl ?_ ?_).cast ?_
        · refine (ev_BinOp (p := .int (((leftL i).map fun (x : Nat) => (x : Int)).sum)) (q := .int (tiesI (outL ends kinds i))) ?_ ?_ op_add)
          · exact ev_Call_blt (ps := [.lst (((leftL i).map fun (x : Nat) => (x : Int)).map PV.int)]) (ev_builtin G rfl rfl rfl) (evl_cons (ev_cell (by rw [← map_natP]; rfl)) evl_nil) (opn_sum R.handled)
          · refine ev_Call_fn G rfl (ties_fn G (n := n) (outL ends kinds i) ?_) (R.less (by omega)) (ev_global G rfl) (evl_cons ?_ evl_nil)
            · intro t ht
              obtain ⟨j, hj, rfl⟩ := List.mem_map.mp ht
              have hj := List.mem_range.mp (List.mem_filter.mp hj).1
              exact he5 _ (getD_mem (by omega))
            · refine ((evf_comp (ps := rangeL 7) (ρv := fun p ρ => upd ρ "n" p) (b := fun p => decide (bitN i (kinds.getD (intOf p).toNat 0) = 0)) (f := fun p => edgeP (ends.getD (intOf p).toNat (0, 0))) (itr_range R.handled (by omega) (ev_builtin G rfl rfl rfl) (ev_int (i := 7))) (by simp) ?_ (by decide)).cast ?_).ev
              · intro p hp D Cx s0 X W acc τ B
                obtain ⟨k, hk, rfl⟩ := rangeL_mem hp
                have hkk : kinds.getD k 0 < 5 := hk5 _ (getD_mem (by omega))
                refine ⟨good_name, ρI_sub rfl, asg_name (able_local rfl rfl rfl), tst_one ?_, fun _ => ?_⟩
                · refine EvT.cast (evt_Compare (p := natP (bitN i (kinds.getD k 0))) (ev_Subscript (q := natP (kinds.getD k 0)) (ev_cell rfl) (ev_Subscript (ev_cell hρK) (ev_local rfl) (op_item_list (by omega) (by omega) (getD_map (by rw [Int.toNat_natCast]; omega)))) (op_item_list (by omega) (by omega) ?_)) (ev_int (i := 0)) op_eq) ?_
                  · rw [Int.toNat_natCast, leftL, List.map_map, List.getElem?_map, List.getElem?_range hkk]; rfl
                  · simp only [intOf, Int.toNat_natCast]
                    rw [Bool.eq_iff_iff]; simp
                · exact ev_Subscript (ev_cell hρE) (ev_local rfl) (op_item_list (by omega) (by omega) (getD_map (by rw [Int.toNat_natCast]; omega)))
              · simp only [rangeL, outL, List.filter_map, List.map_map]
                rfl
        · simp only [List.length_map, List.length_range]; omega
        · show [(S, _)] = _
          rw [List.range_succ, List.map_append, List.map_append]
          rfl
      · exact run_nil ⟨hρE, hρK, hρS, rfl⟩
    · rintro W' ρ μ (⟨h1, h2, h3, rfl⟩ | h)
      · rw [rangeL_length]
        refine run_return (Ev.m (ev_Call_blt (ev_builtin G rfl rfl rfl) (evl_cons (ev_local h3) evl_nil) (opn_min_mut R.handled (List.mem_append_left _ (.head _)) hm hle))) rfl
      · exact h.elim
end
end Mine

end

section
open PySem PySem.W PyProof.Rows PySem.Calls
namespace Mine
section
variable {w : World} {H : Heap}

theorem map_set {l : List Item} {i : Nat} {x : Item} : (l.map itemP).set i (itemP x) = (l.set i x).map itemP := by rw [List.map_set]

set_option maxHeartbeats 4000000 in
theorem siftdown_fn (G : Gl w (Mine.hd.heap_39 w.params) H) {n : Nat} {a : Addr} {l : List Item} {p0 : Nat} (hp0 : p0 < l.length) (hl : l.length ≤ 900) :
    FnL P0 w H (n + 6) 73 a [.ref a, .int 0, .int p0] (l.map itemP) ((sdown (l.getD p0 dI) p0 p0 l).map itemP) .none := by
  refine fnl_intro (names := ["heap", "startpos", "pos"]) G rfl rfl rfl (fun vs h => ?_) rfl (by decide) (by decide) (by decide) ?_
  · match vs, h with
    | [a, b, c], _ => rfl
  · intro A L s W R
    refine run_assign (p := itemP (l.getD p0 dI)) (Ev.m (ev_Subscript (ev_local rfl) (ev_local rfl) (op_item_mut (List.mem_append_left _ (.head _)) (by omega) (by omega) (getD_map (by rw [Int.toNat_natCast]; exact hp0))))) (able_local rfl rfl rfl) ?_
    refine run_while (fun n ρ μ => ∃ (l' : List Item) (f : Nat), ρ "pos" = some (.int n) ∧ ρ "startpos" = some (.int 0) ∧ ρ "heap" = some (.ref a) ∧ ρ "newitem" = some (itemP (l.getD p0 dI)) ∧ μ = [(a, l'.map itemP)] ∧ l'.length = l.length ∧ n < l.length ∧ n ≤ f ∧
        sdown (l.getD p0 dI) p0 p0 l = sdown (l.getD p0 dI) f n l')
      (fun ρ μ => ∃ (l' : List Item) (n : Nat), ρ "pos" = some (.int n) ∧ ρ "heap" = some (.ref a) ∧ ρ "newitem" = some (itemP (l.getD p0 dI)) ∧ μ = [(a, l'.map itemP)] ∧ l'.length = l.length ∧ n < l.length ∧ sdown (l.getD p0 dI) p0 p0 l = l'.set n (l.getD p0 dI))
      (fun ρ μ => ∃ (l' : List Item) (n : Nat), ρ "pos" = some (.int n) ∧ ρ "heap" = some (.ref a) ∧ ρ "newitem" = some (itemP (l.getD p0 dI)) ∧ μ = [(a, l'.map itemP)] ∧ l'.length = l.length ∧ n < l.length ∧ sdown (l.getD p0 dI) p0 p0 l = l'.set n (l.getD p0 dI))
      ⟨p0, l, p0, rfl, rfl, rfl, rfl, rfl, rfl, hp0, Nat.le_refl _, rfl⟩ ?_ ?_
    · rintro m W ρ μ ⟨l', f, h1, h2, h3, h4, rfl, h5, h6, h7, h8⟩
      refine ⟨decide ((m : Int) > 0), evt_Compare (ev_local h1) (ev_local h2) op_gt, fun hb => ?_, fun hb => ?_⟩
      · have hm : 0 < m := by simpa using hb
        cases f with
        | zero => exfalso; omega
        | succ f =>
          refine run_assign (p := .int ((m - 1) / 2 : Nat)) (Ev.m ((ev_BinOp (ev_BinOp (ev_local h1) (ev_int (i := 1)) op_sub) (ev_int (i := 1)) (op_shr1 (by omega))).cast ?_)) (able_local rfl rfl rfl) ?_
          · congr 1; omega
          refine run_assign (p := itemP (l'.getD ((m - 1) / 2) dI)) (Ev.m (ev_Subscript (ev_local h3) (ev_local rfl) (op_item_mut (List.mem_append_left _ (.head _)) (by omega) (by omega) (getD_map (by rw [Int.toNat_natCast]; omega))))) (able_local rfl rfl rfl) ?_
          refine run_if (b := itemLt (l.getD p0 dI) (l'.getD ((m - 1) / 2) dI)) (evt_Compare (ev_local h4) (ev_local rfl) (op_lt_item (R.less (by omega)))) (fun hlt => ?_) (fun hlt => ?_)
          · refine run_setitem (j := 0) (k := m) (p := itemP (l'.getD ((m - 1) / 2) dI)) (ev_local rfl) (ev_local h3) (ev_local h1) rfl (by omega) (by omega) (by simp; omega) ?_
            refine run_assign (p := .int ((m - 1) / 2 : Nat)) (Ev.m (ev_local rfl)) (able_local rfl rfl rfl) ?_
            refine run_cont ⟨(m - 1) / 2, by omega, l'.set m (l'.getD ((m - 1) / 2) dI), f, rfl, h2, h3, h4, ?_, by simpa using h5, by omega, by omega, ?_⟩
            · exact congrArg (fun z => [(a, z)]) map_set
            · rw [h8, sdown, if_pos ⟨hm, hlt⟩]
          · refine run_nil fun W => run_brk ⟨l', m, h1, h3, h4, rfl, h5, h6, ?_⟩
            rw [h8, sdown, if_neg (by rw [hlt]; simp)]
      · have hm : m = 0 := by simpa using hb
        subst hm
        refine ⟨l', 0, h1, h3, h4, rfl, h5, h6, ?_⟩
        rw [h8]
        cases f with
        | zero => rfl
        | succ f => rw [sdown, if_neg (by simp)]
    · intro W ρ μ h
      have h : ∃ (l' : List Item) (n : Nat), ρ "pos" = some (.int n) ∧ ρ "heap" = some (.ref a) ∧ ρ "newitem" = some (itemP (l.getD p0 dI)) ∧ μ = [(a, l'.map itemP)] ∧ l'.length = l.length ∧ n < l.length ∧ sdown (l.getD p0 dI) p0 p0 l = l'.set n (l.getD p0 dI) := h.elim (fun h => h) (fun h => h)
      obtain ⟨l', m, h1, h2, h3, rfl, h5, h6, h8⟩ := h
      refine run_setitem (j := 0) (k := m) (ev_local h3) (ev_local h2) (ev_local h1) rfl (by omega) (by omega) (by simp; omega) (run_nil ⟨rfl, ?_⟩)
      exact (congrArg (fun z => [(a, z)]) map_set).trans (congrArg (fun z => [(a, List.map itemP z)]) h8.symm)

theorem kid_bool (l : List Item) (pos : Nat) : (decide (2 * pos + 1 + 1 < l.length) && !itemLt (l.getD (2 * pos + 1) dI) (l.getD (2 * pos + 1 + 1) dI)) = true → kid l pos = 2 * pos + 1 + 1 := fun h => by
  unfold kid
  rw [if_pos (by simpa using h)]
theorem kid_bool' (l : List Item) (pos : Nat) : (decide (2 * pos + 1 + 1 < l.length) && !itemLt (l.getD (2 * pos + 1) dI) (l.getD (2 * pos + 1 + 1) dI)) = false → kid l pos = 2 * pos + 1 := fun h => by
  unfold kid
  rw [if_neg (fun q => by
    have : (decide (2 * pos + 1 + 1 < l.length) && !itemLt (l.getD (2 * pos + 1) dI) (l.getD (2 * pos + 1 + 1) dI)) = true := by simpa using q
    rw [this] at h; cases h)]

set_option maxHeartbeats 2000000 in
theorem siftup_fn (G : Gl w (Mine.hd.heap_39 w.params) H) {n : Nat} {a : Addr} {l : List Item} (hp0 : 0 < l.length) (hl : l.length ≤ 900) :
    FnL P0 w H (n + 7) 80 a [.ref a, .int 0] (l.map itemP) ((siftup l).map itemP) .none := by
  refine fnl_intro (names := ["heap", "pos"]) G rfl rfl rfl (fun vs h => ?_) rfl (by decide) (by decide) (by decide) ?_
  · match vs, h with
    | [a, b], _ => rfl
  · intro A L s W R
    refine run_assign (p := .int l.length) (Ev.m ((ev_Call_blt (ev_builtin G rfl rfl rfl) (evl_cons (ev_local rfl) evl_nil) (opn_len_mut (List.mem_append_left _ (.head _)) (by simp; omega))).cast (by rw [List.length_map]))) (able_local rfl rfl rfl) ?_
    refine run_assign (p := .int 0) (Ev.m (ev_local rfl)) (able_local rfl rfl rfl) ?_
    refine run_assign (p := itemP (l.getD 0 dI)) (Ev.m (ev_Subscript (ev_local rfl) (ev_local rfl) (op_item_mut (List.mem_append_left _ (.head _)) (by omega) (by omega) (getD_map hp0)))) (able_local rfl rfl rfl) ?_
    refine run_assign (p := .int (2 * (0 : Nat) + 1 : Nat)) (Ev.m (ev_BinOp (ev_BinOp (ev_int (i := 2)) (ev_local rfl) (op_mul (.of_left (by decide)))) (ev_int (i := 1)) op_add)) (able_local rfl rfl rfl) ?_
    refine run_while (fun n ρ μ => ∃ (pos : Nat) (l' : List Item) (f : Nat), n = l.length - pos ∧ ρ "pos" = some (.int pos) ∧ ρ "childpos" = some (.int (2 * pos + 1 : Nat)) ∧ ρ "endpos" = some (.int l.length) ∧ ρ "startpos" = some (.int 0) ∧ ρ "heap" = some (.ref a) ∧ ρ "newitem" = some (itemP (l.getD 0 dI)) ∧
        μ = [(a, l'.map itemP)] ∧ l'.length = l.length ∧ pos < l.length ∧ l.length ≤ pos + f ∧ sup l.length 0 l = sup f pos l')
      (fun ρ μ => ∃ (pos : Nat) (l' : List Item), ρ "pos" = some (.int pos) ∧ ρ "startpos" = some (.int 0) ∧ ρ "heap" = some (.ref a) ∧ ρ "newitem" = some (itemP (l.getD 0 dI)) ∧ μ = [(a, l'.map itemP)] ∧ l'.length = l.length ∧ pos < l.length ∧ sup l.length 0 l = (pos, l'))
      (fun _ _ => False)
      ⟨l.length, 0, l, l.length, by omega, rfl, rfl, rfl, rfl, rfl, rfl, rfl, rfl, hp0, by omega, rfl⟩ ?_ ?_
    · rintro m W ρ μ ⟨pos, l', f, rfl, h1, h2, h3, h4, h5, h6, rfl, h7, h8, h9, h10⟩
      refine ⟨decide (((2 * pos + 1 : Nat) : Int) < (l.length : Int)), evt_Compare (ev_local h2) (ev_local h3) op_lt, fun hb => ?_, fun hb => ?_⟩
      · have hm : 2 * pos + 1 < l'.length := by simp at hb; omega
        cases f with
        | zero => exfalso; omega
        | succ f =>
          have hk := kid_lt hm
          refine run_assign (p := .int (2 * pos + 1 + 1 : Nat)) (Ev.m (ev_BinOp (ev_local h2) (ev_int (i := 1)) op_add)) (able_local rfl rfl rfl) ?_
          refine run_if_join (b := (decide (2 * pos + 1 + 1 < l'.length) && !itemLt (l'.getD (2 * pos + 1) dI) (l'.getD (2 * pos + 1 + 1) dI)))
            (fun ρ μ => ρ "pos" = some (.int pos) ∧ ρ "childpos" = some (.int (kid l' pos : Nat)) ∧ ρ "endpos" = some (.int l.length) ∧ ρ "startpos" = some (.int 0) ∧ ρ "heap" = some (.ref a) ∧ ρ "newitem" = some (itemP (l.getD 0 dI)) ∧ μ = [(a, l'.map itemP)])
            (evt_and ((evt_Compare (ev_local rfl) (ev_local h3) op_lt).cast ?_) (fun hq => evt_not (evt_Compare (ev_Subscript (ev_local h5) (ev_local h2) (op_item_mut (List.mem_append_left _ (.head _)) (by omega) (by omega) (getD_map (by rw [Int.toNat_natCast]; exact hm)))) (ev_Subscript (ev_local h5) (ev_local rfl) (op_item_mut (List.mem_append_left _ (.head _)) (by omega) (by omega) (getD_map (by rw [Int.toNat_natCast]; simpa using hq)))) (op_lt_item (R.less (by omega)))))) (fun hq => ?_) (fun hq => ?_) ?_
          · exact decide_eq_decide.mpr (by rw [h7]; omega)
          · refine run_assign (p := .int (2 * pos + 1 + 1 : Nat)) (Ev.m (ev_local rfl)) (able_local rfl rfl rfl) (run_nil ⟨h1, (congrArg (fun z : Nat => some (PV.int z)) (kid_bool l' pos hq)).symm, h3, h4, h5, h6, rfl⟩)
          · refine run_nil ⟨h1, h2.trans (congrArg (fun z : Nat => some (PV.int z)) (kid_bool' l' pos hq)).symm, h3, h4, h5, h6, rfl⟩
          · clear h1 h2 h3 h4 h5 h6
            rintro W ρ μ ⟨h1, h2, h3, h4, h5, h6, rfl⟩
            refine run_setitem (j := 0) (k := pos) (p := itemP (l'.getD (kid l' pos) dI)) (ev_Subscript (ev_local h5) (ev_local h2) (op_item_mut (List.mem_append_left _ (.head _)) (by omega) (by omega) (getD_map (by rw [Int.toNat_natCast]; exact hk.1)))) (ev_local h5) (ev_local h1) rfl (by omega) (by omega) (by simp; omega) ?_
            refine run_assign (p := .int (kid l' pos : Nat)) (Ev.m (ev_local h2)) (able_local rfl rfl rfl) ?_
            refine run_assign (p := .int (2 * kid l' pos + 1 : Nat)) (Ev.m (ev_BinOp (ev_BinOp (ev_int (i := 2)) (ev_local rfl) (op_mul (.of_left (by decide)))) (ev_int (i := 1)) op_add)) (able_local rfl rfl rfl) ?_
            refine run_nil ⟨l.length - kid l' pos, by omega, kid l' pos, l'.set pos (l'.getD (kid l' pos) dI), f, rfl, rfl, rfl, h3, h4, h5, h6, ?_, by simpa using h7, by omega, by omega, ?_⟩
            · exact congrArg (fun z => [(a, z)]) map_set
            · rw [h10, sup, if_pos hm]
      · have hm : ¬ 2 * pos + 1 < l'.length := by simp at hb; omega
        refine ⟨pos, l', h1, h4, h5, h6, rfl, h7, h8, ?_⟩
        rw [h10]
        cases f with
        | zero => rfl
        | succ f => rw [sup, if_neg hm]
    · rintro W ρ μ (⟨pos, l', h1, h4, h5, h6, rfl, h7, h8, h9⟩ | h)
      · refine run_setitem (j := 0) (k := pos) (ev_local h6) (ev_local h5) (ev_local h1) rfl (by omega) (by omega) (by simp; omega) ?_
        refine run_expr (evm_Call_fnl (i := 0) (l := (l'.set pos (l.getD 0 dI)).map itemP) G rfl (siftdown_fn G (n := n) (p0 := pos) (by simpa using h7 ▸ h8) (by simpa using h7 ▸ hl)) R (congrArg (fun z => some (a, z)) map_set) (ev_global G rfl) (evl_cons (ev_local h5) (evl_cons (ev_local h4) (evl_cons (ev_local h1) evl_nil)))) ?_
        refine run_nil ⟨rfl, ?_⟩
        show [(a, _)] = _
        have : (l'.set pos (l.getD 0 dI)).getD pos dI = l.getD 0 dI := by simp [List.getD, h7 ▸ h8]
        exact congrArg (fun z => [(a, List.map itemP z)]) (by rw [this, siftup, h9])
      · exact h.elim
end
end Mine

end

section
open PySem PySem.W PyProof.Rows PySem.Calls
namespace Mine
section
variable {w : World} {H : Heap}

theorem map_snoc {l : List Item} {x : Item} : l.map itemP ++ [itemP x] = (l ++ [x]).map itemP := by simp
theorem getD_snoc {l : List Item} {x : Item} : (l ++ [x]).getD l.length dI = x := by simp [List.getD]

set_option maxHeartbeats 2000000 in
theorem heappush_fn (G : Gl w (Mine.hd.heap_39 w.params) H) {n : Nat} {a : Addr} {l : List Item} {x : Item} (hl : l.length ≤ 800) :
    FnL P0 w H (n + 7) 59 a [.ref a, itemP x] (l.map itemP) ((hpush l x).map itemP) .none := by
  refine fnl_intro (names := ["heap", "item"]) G rfl rfl rfl (fun vs h => ?_) rfl (by decide) (by decide) (by decide) ?_
  · match vs, h with
    | [a, b], _ => rfl
  · intro A L s W R
    refine run_expr (μ := [(a, (l ++ [x]).map itemP)]) ((evm_append (i := 0) (a := a) (l := l.map itemP) (p := itemP x) (ev_local rfl) rfl (ev_local rfl) (by simp; omega)).cast (congrArg (fun z => [(a, z)]) map_snoc)) ?_
    have h1 : l.length < (l ++ [x]).length := by simp
    refine run_expr (evm_Call_fnl (i := 0) (l := (l ++ [x]).map itemP) G rfl (siftdown_fn G (n := n) (p0 := l.length) h1 (by simp; omega)) R rfl (ev_global G rfl)
      (evl_cons (ev_local rfl) (evl_cons (ev_int (i := 0)) (evl_cons ((ev_BinOp (ev_Call_blt (ev_builtin G rfl rfl rfl) (evl_cons (ev_local rfl) evl_nil) (opn_len_mut (List.mem_append_left _ (.head _)) (by simp; omega))) (ev_int (i := 1)) op_sub).cast ?_) evl_nil)))) ?_
    · exact congrArg PV.int (by simp)
    · exact run_nil ⟨rfl, congrArg (fun z => [(a, List.map itemP (sdown z l.length l.length (l ++ [x])))]) getD_snoc⟩

set_option maxHeartbeats 2000000 in
theorem heappop_fn (G : Gl w (Mine.hd.heap_39 w.params) H) {n : Nat} {a : Addr} {l : List Item} {x : Item} (hl : l.length ≤ 800) :
    FnL P0 w H (n + 8) 66 a [.ref a] ((l ++ [x]).map itemP) ((hpop l x).map itemP) (itemP (hfirst l x)) := by
  refine fnl_intro (names := ["heap"]) G rfl rfl rfl (fun vs h => ?_) rfl (by decide) (by decide) (by decide) ?_
  · match vs, h with
    | [a], _ => rfl
  · intro A L s W R
    refine run_assign (p := itemP x) (μ := [(a, l.map itemP)]) (evm_pop (i := 0) (a := a) (l := l.map itemP) (p := itemP x) (ev_local rfl) (congrArg (fun z => some (a, z)) map_snoc.symm) (by simp; omega)) (able_local rfl rfl rfl) ?_
    refine run_if (b := !(l.map itemP).isEmpty) (evt_value (ev_local rfl) (tr_mut (List.mem_append_left _ (.head _)) (by simp; omega))) (fun hb => ?_) (fun hb => ?_)
    · cases l with
      | nil => cases hb
      | cons y l =>
        refine run_assign (p := itemP y) (Ev.m (ev_Subscript (ev_local rfl) (ev_int (i := 0)) (op_item_mut (List.mem_append_left _ (.head _)) (by omega) (by omega) rfl))) (able_local rfl rfl rfl) ?_
        refine run_setitem (j := 0) (k := 0) (p := itemP x) (ev_local rfl) (ev_local rfl) (ev_int (i := 0)) rfl (by omega) (by omega) (by simp) ?_
        refine run_expr (evm_Call_fnl (i := 0) (l := (x :: l).map itemP) G rfl (siftup_fn G (n := n) (l := x :: l) (by simp) (by simp only [List.length_cons] at hl ⊢; omega)) R rfl (ev_global G rfl)
          (evl_cons (ev_local rfl) (evl_cons (ev_int (i := 0)) evl_nil))) ?_
        exact run_return (Ev.m (ev_local rfl)) ⟨rfl, rfl⟩
    · cases l with
      | nil => exact run_nil fun W => run_return (Ev.m (ev_local rfl)) ⟨rfl, rfl⟩
      | cons y l => cases hb
end
end Mine

end

section
open PySem PySem.W PyProof.Rows PySem.Calls
namespace Mine

def mx (r g b : UInt64) : UInt64 := fmaxs (fmaxs r g) b
def mn (r g b : UInt64) : UInt64 := fmins (fmins r g) b
def f2 : UInt64 := 4611686018427387904
def f4 : UInt64 := 4616189618054758400
def f6 : UInt64 := 4618441417868443648
def f1 : UInt64 := 4607182418800017408
def f05 : UInt64 := 4602678819172646912
def hueP (r g b c d : UInt64) : UInt64 :=
  if feq r c then Float64.sub (Float64.div (Float64.sub c b) d) (Float64.div (Float64.sub c g) d)
  else if feq g c then Float64.sub (Float64.add f2 (Float64.div (Float64.sub c r) d)) (Float64.div (Float64.sub c b) d)
  else Float64.sub (Float64.add f4 (Float64.div (Float64.sub c g) d)) (Float64.div (Float64.sub c r) d)
def hueH (r g b : UInt64) : UInt64 := (Float64.divmod (Float64.div (hueP r g b (mx r g b) (Float64.sub (mx r g b) (mn r g b))) f6) f1).snd
def rngP (r g b : UInt64) : UInt64 := Float64.sub (mx r g b) (mn r g b)
def satP (r g b : UInt64) : UInt64 := Float64.div (rngP r g b) (mx r g b)
def litP (r g b : UInt64) : UInt64 := Float64.div (Float64.add (mx r g b) (mn r g b)) f2
def fle (a b : UInt64) : Bool := Float64.cmp a b == some Ordering.lt || Float64.cmp a b == some Ordering.eq
def denP (r g b : UInt64) : UInt64 := if fle (litP r g b) f05 then Float64.add (mx r g b) (mn r g b) else Float64.sub (Float64.sub f2 (mx r g b)) (mn r g b)
def satL (r g b : UInt64) : UInt64 := Float64.div (rngP r g b) (denP r g b)

section
variable {w : World} {H : Heap}

set_option maxHeartbeats 2000000 in
theorem hsv_fn (G : Gl w (Mine.hd.heap_39 w.params) H) (hz : H.life.known = 0) {n : Nat} (r g b : UInt64) (h1 : feq (mn r g b) (mx r g b) = false) (h2 : Float64.isZero (mx r g b) = false) (h3 : Float64.isZero (rngP r g b) = false) :
    Fn P0 w H (n + 3) 52 [.flo r, .flo g, .flo b] (.tup [.flo (hueH r g b), .flo (satP r g b), .flo (mx r g b)]) := by
  refine fn_intro (names := ["r", "g", "b"]) G rfl rfl rfl (fun vs h => ?_) rfl (by decide) (by decide) (by decide) ?_
  · match vs, h with
    | [a, b, c], _ => rfl
  · intro A L s W R
    refine run_assign (p := .flo (mx r g b)) (Ev.m (ev_Call_blt (ev_builtin G rfl rfl rfl) (evl_cons (ev_local rfl) (evl_cons (ev_local rfl) (evl_cons (ev_local rfl) evl_nil))) (opn_max3 R.handled))) (able_local rfl rfl rfl) ?_
    refine run_assign (p := .flo (mn r g b)) (Ev.m (ev_Call_blt (ev_builtin G rfl rfl rfl) (evl_cons (ev_local rfl) (evl_cons (ev_local rfl) (evl_cons (ev_local rfl) evl_nil))) (opn_min3 R.handled))) (able_local rfl rfl rfl) ?_
    refine run_assign (p := .flo (rngP r g b)) (Ev.m (ev_BinOp (ev_local rfl) (ev_local rfl) (op_fsub hz))) (able_local rfl rfl rfl) ?_
    refine run_assign (p := .flo (mx r g b)) (Ev.m (ev_local rfl)) (able_local rfl rfl rfl) ?_
    refine run_if (b := feq (mn r g b) (mx r g b)) (evt_Compare (ev_local rfl) (ev_local rfl) op_feq) (fun hb => by rw [h1] at hb; cases hb) (fun _ => run_nil fun W => ?_)
    refine run_assign (p := .flo (satP r g b)) (Ev.m (ev_BinOp (ev_local rfl) (ev_local rfl) (op_fdivf hz h2))) (able_local rfl rfl rfl) ?_
    refine run_assign (p := .flo (Float64.div (Float64.sub (mx r g b) r) (rngP r g b))) (Ev.m (ev_BinOp (ev_BinOp (ev_local rfl) (ev_local rfl) (op_fsub hz)) (ev_local rfl) (op_fdivf hz h3))) (able_local rfl rfl rfl) ?_
    refine run_assign (p := .flo (Float64.div (Float64.sub (mx r g b) g) (rngP r g b))) (Ev.m (ev_BinOp (ev_BinOp (ev_local rfl) (ev_local rfl) (op_fsub hz)) (ev_local rfl) (op_fdivf hz h3))) (able_local rfl rfl rfl) ?_
    refine run_assign (p := .flo (Float64.div (Float64.sub (mx r g b) b) (rngP r g b))) (Ev.m (ev_BinOp (ev_BinOp (ev_local rfl) (ev_local rfl) (op_fsub hz)) (ev_local rfl) (op_fdivf hz h3))) (able_local rfl rfl rfl) ?_
    refine run_if_join (b := feq r (mx r g b)) (fun ρ μ => ρ "h" = some (.flo (hueP r g b (mx r g b) (rngP r g b))) ∧ ρ "s" = some (.flo (satP r g b)) ∧ ρ "v" = some (.flo (mx r g b))) (evt_Compare (ev_local rfl) (ev_local rfl) op_feq) (fun hb => ?_) (fun hb => ?_) ?_
    · refine run_assign (p := .flo (hueP r g b (mx r g b) (rngP r g b))) (Ev.m (Ev.cast (ev_BinOp (ev_local rfl) (ev_local rfl) (op_fsub hz)) ?_)) (able_local rfl rfl rfl) (run_nil ⟨rfl, rfl, rfl⟩)
      rw [hueP, if_pos hb]
    · refine run_if (b := feq g (mx r g b)) (evt_Compare (ev_local rfl) (ev_local rfl) op_feq) (fun hb2 => ?_) (fun hb2 => ?_)
      · refine run_assign (p := .flo (hueP r g b (mx r g b) (rngP r g b))) (Ev.m (Ev.cast (ev_BinOp (ev_BinOp (ev_flo hz (x := f2)) (ev_local rfl) (op_fadd hz)) (ev_local rfl) (op_fsub hz)) ?_)) (able_local rfl rfl rfl) (run_nil fun W => run_nil ⟨rfl, rfl, rfl⟩)
        rw [hueP, if_neg (by rw [hb]; decide), if_pos hb2]
      · refine run_assign (p := .flo (hueP r g b (mx r g b) (rngP r g b))) (Ev.m (Ev.cast (ev_BinOp (ev_BinOp (ev_flo hz (x := f4)) (ev_local rfl) (op_fadd hz)) (ev_local rfl) (op_fsub hz)) ?_)) (able_local rfl rfl rfl) (run_nil fun W => run_nil ⟨rfl, rfl, rfl⟩)
        rw [hueP, if_neg (by rw [hb]; decide), if_neg (by rw [hb2]; decide)]
    · rintro W ρ μ ⟨e1, e2, e3⟩
      refine run_assign (p := .flo (hueH r g b)) (Ev.m (ev_BinOp (ev_BinOp (ev_local e1) (ev_flo hz (x := f6)) (op_fdivf hz (by decide +kernel))) (ev_flo hz (x := f1)) (op_fmod hz (by decide +kernel)))) (able_local rfl rfl rfl) ?_
      exact run_return (Ev.m (ev_Tuple (evl_cons (ev_local rfl) (evl_cons (ev_local e2) (evl_cons (ev_local e3) evl_nil))) (by simp))) rfl

set_option maxHeartbeats 2000000 in
theorem hls_fn (G : Gl w (Mine.hd.heap_39 w.params) H) (hz : H.life.known = 0) {n : Nat} (r g b : UInt64) (h1 : feq (mn r g b) (mx r g b) = false) (h3 : Float64.isZero (rngP r g b) = false) (h4 : Float64.isZero (denP r g b) = false) :
    Fn P0 w H (n + 3) 45 [.flo r, .flo g, .flo b] (.tup [.flo (hueH r g b), .flo (litP r g b), .flo (satL r g b)]) := by
  refine fn_intro (names := ["r", "g", "b"]) G rfl rfl rfl (fun vs h => ?_) rfl (by decide) (by decide) (by decide) ?_
  · match vs, h with
    | [a, b, c], _ => rfl
  · intro A L s W R
    refine run_assign (p := .flo (mx r g b)) (Ev.m (ev_Call_blt (ev_builtin G rfl rfl rfl) (evl_cons (ev_local rfl) (evl_cons (ev_local rfl) (evl_cons (ev_local rfl) evl_nil))) (opn_max3 R.handled))) (able_local rfl rfl rfl) ?_
    refine run_assign (p := .flo (mn r g b)) (Ev.m (ev_Call_blt (ev_builtin G rfl rfl rfl) (evl_cons (ev_local rfl) (evl_cons (ev_local rfl) (evl_cons (ev_local rfl) evl_nil))) (opn_min3 R.handled))) (able_local rfl rfl rfl) ?_
    refine run_assign (p := .flo (Float64.add (mx r g b) (mn r g b))) (Ev.m (ev_BinOp (ev_local rfl) (ev_local rfl) (op_fadd hz))) (able_local rfl rfl rfl) ?_
    refine run_assign (p := .flo (rngP r g b)) (Ev.m (ev_BinOp (ev_local rfl) (ev_local rfl) (op_fsub hz))) (able_local rfl rfl rfl) ?_
    refine run_assign (p := .flo (litP r g b)) (Ev.m (ev_BinOp (ev_local rfl) (ev_flo hz (x := f2)) (op_fdivf hz (by decide +kernel)))) (able_local rfl rfl rfl) ?_
    refine run_if (b := feq (mn r g b) (mx r g b)) (evt_Compare (ev_local rfl) (ev_local rfl) op_feq) (fun hb => by rw [h1] at hb; cases hb) (fun _ => run_nil fun W => ?_)
    refine run_if_join (b := fle (litP r g b) f05) (fun ρ μ => ρ "r" = some (.flo r) ∧ ρ "g" = some (.flo g) ∧ ρ "b" = some (.flo b) ∧ ρ "maxc" = some (.flo (mx r g b)) ∧ ρ "rangec" = some (.flo (rngP r g b)) ∧ ρ "l" = some (.flo (litP r g b)) ∧ ρ "s" = some (.flo (satL r g b)))
      (evt_Compare (ev_local rfl) (ev_flo hz (x := f05)) op_fle) (fun hb => ?_) (fun hb => ?_) ?_
    · have hd : denP r g b = Float64.add (mx r g b) (mn r g b) := by rw [denP, if_pos hb]
      refine run_assign (p := .flo (satL r g b)) (Ev.m (Ev.cast (ev_BinOp (ev_local rfl) (ev_local rfl) (op_fdivf hz (by rw [← hd]; exact h4))) ?_)) (able_local rfl rfl rfl) (run_nil ⟨rfl, rfl, rfl, rfl, rfl, rfl, rfl⟩)
      rw [satL, hd]
    · have hd : denP r g b = Float64.sub (Float64.sub f2 (mx r g b)) (mn r g b) := by rw [denP, if_neg (by rw [hb]; decide)]
      refine run_assign (p := .flo (satL r g b)) (Ev.m (Ev.cast (ev_BinOp (ev_local rfl) (ev_BinOp (ev_BinOp (ev_flo hz (x := f2)) (ev_local rfl) (op_fsub hz)) (ev_local rfl) (op_fsub hz)) (op_fdivf hz (by rw [← hd]; exact h4))) ?_)) (able_local rfl rfl rfl) (run_nil ⟨rfl, rfl, rfl, rfl, rfl, rfl, rfl⟩)
      rw [satL, hd]
    rintro W ρ μ ⟨q1, q2, q3, q4, q5, q6, q7⟩
    refine run_assign (p := .flo (Float64.div (Float64.sub (mx r g b) r) (rngP r g b))) (Ev.m (ev_BinOp (ev_BinOp (ev_local q4) (ev_local q1) (op_fsub hz)) (ev_local q5) (op_fdivf hz h3))) (able_local rfl rfl rfl) ?_
    refine run_assign (p := .flo (Float64.div (Float64.sub (mx r g b) g) (rngP r g b))) (Ev.m (ev_BinOp (ev_BinOp (ev_local q4) (ev_local q2) (op_fsub hz)) (ev_local q5) (op_fdivf hz h3))) (able_local rfl rfl rfl) ?_
    refine run_assign (p := .flo (Float64.div (Float64.sub (mx r g b) b) (rngP r g b))) (Ev.m (ev_BinOp (ev_BinOp (ev_local q4) (ev_local q3) (op_fsub hz)) (ev_local q5) (op_fdivf hz h3))) (able_local rfl rfl rfl) ?_
    refine run_if_join (b := feq r (mx r g b)) (fun ρ μ => ρ "h" = some (.flo (hueP r g b (mx r g b) (rngP r g b))) ∧ ρ "l" = some (.flo (litP r g b)) ∧ ρ "s" = some (.flo (satL r g b))) (evt_Compare (ev_local q1) (ev_local q4) op_feq) (fun hb => ?_) (fun hb => ?_) ?_
    · refine run_assign (p := .flo (hueP r g b (mx r g b) (rngP r g b))) (Ev.m (Ev.cast (ev_BinOp (ev_local rfl) (ev_local rfl) (op_fsub hz)) ?_)) (able_local rfl rfl rfl) (run_nil ⟨rfl, q6, q7⟩)
      rw [hueP, if_pos hb]
    · refine run_if (b := feq g (mx r g b)) (evt_Compare (ev_local q2) (ev_local q4) op_feq) (fun hb2 => ?_) (fun hb2 => ?_)
      · refine run_assign (p := .flo (hueP r g b (mx r g b) (rngP r g b))) (Ev.m (Ev.cast (ev_BinOp (ev_BinOp (ev_flo hz (x := f2)) (ev_local rfl) (op_fadd hz)) (ev_local rfl) (op_fsub hz)) ?_)) (able_local rfl rfl rfl) (run_nil fun W => run_nil ⟨rfl, q6, q7⟩)
        rw [hueP, if_neg (by rw [hb]; decide), if_pos hb2]
      · refine run_assign (p := .flo (hueP r g b (mx r g b) (rngP r g b))) (Ev.m (Ev.cast (ev_BinOp (ev_BinOp (ev_flo hz (x := f4)) (ev_local rfl) (op_fadd hz)) (ev_local rfl) (op_fsub hz)) ?_)) (able_local rfl rfl rfl) (run_nil fun W => run_nil ⟨rfl, q6, q7⟩)
        rw [hueP, if_neg (by rw [hb]; decide), if_neg (by rw [hb2]; decide)]
    · rintro W ρ μ ⟨e1, e2, e3⟩
      refine run_assign (p := .flo (hueH r g b)) (Ev.m (ev_BinOp (ev_BinOp (ev_local e1) (ev_flo hz (x := f6)) (op_fdivf hz (by decide +kernel))) (ev_flo hz (x := f1)) (op_fmod hz (by decide +kernel)))) (able_local rfl rfl rfl) ?_
      exact run_return (Ev.m (ev_Tuple (evl_cons (ev_local rfl) (evl_cons (ev_local e2) (evl_cons (ev_local e3) evl_nil))) (by simp))) rfl
end
end Mine

end

section
open PySem PySem.W PyProof.Rows PySem.Calls
namespace Mine

def wayI (k corner : Int) : Int := (6 * k - corner).fmod 384
def fallI (k corner : Int) : Int := min (max (min (wayI k corner) (384 - wayI k corner) - 64) 0) 64
def partI (k share value corner : Int) : Int := value * (256 - share * fallI k corner)
def cornL : List Int := [0, 128, 256]

section
variable {w : World} {H : Heap}

set_option maxHeartbeats 2000000 in
theorem parts_fn (G : Gl w (Mine.hd.heap_39 w.params) H) {n : Nat} (k share value : Int) (hs : Builtin.Int.intBits share ≤ 64) (hv : Builtin.Int.intBits value ≤ 64) :
    Fn P0 w H (n + 3) 224 [.int k, .int share, .int value] (.lst ((cornL.map (partI k share value)).map PV.int)) := by
  refine fn_intro (names := ["k", "share", "value"]) G rfl rfl rfl (fun vs h => ?_) rfl (by decide) (by decide) (by decide) ?_
  · match vs, h with
    | [a, b, c], _ => rfl
  · intro A L s W R
    refine run_new (l := []) (evf_List evl_nil) (able_local rfl rfl rfl) fun S hS => ?_
    refine run_for (ps := cornL.map PV.int) (itr_tup R.handled (ev_Tuple (evl_cons (ev_int (i := 0)) (evl_cons (ev_int (i := 128)) (evl_cons (ev_int (i := 256)) evl_nil)))))
      (fun i ρ μ => ρ "k" = some (.int k) ∧ ρ "share" = some (.int share) ∧ ρ "value" = some (.int value) ∧ ρ "parts" = some (.ref S) ∧ μ = [(S, ((cornL.take i).map (partI k share value)).map PV.int)]) (fun _ _ => False) ⟨rfl, rfl, rfl, rfl, rfl⟩ (by simp) ?_ ?_
    · rintro i p s0 W' ρ μ τ B hp ⟨h1, h2, h3, h4, rfl⟩
      rw [List.getElem?_map] at hp
      cases hc : cornL[i]? with
      | none => rw [hc] at hp; cases hp
      | some c =>
        rw [hc] at hp
        cases hp
        refine ⟨_, good_name, asg_name (able_local rfl rfl rfl), ?_⟩
        refine run_assign (p := .int (wayI k c)) (Ev.m (ev_BinOp (ev_BinOp (ev_BinOp (ev_int (i := 6)) (ev_local h1) (op_mul (.of_left (by decide)))) (ev_local rfl) op_sub) (ev_int (i := 384)) (op_mod (by decide)))) (able_local rfl rfl rfl) ?_
        refine run_assign (p := .int (fallI k c)) (Ev.m (ev_Call_blt (ev_builtin G rfl rfl rfl) (evl_cons (ev_Call_blt (ev_builtin G rfl rfl rfl) (evl_cons (ev_BinOp (ev_Call_blt (ev_builtin G rfl rfl rfl) (evl_cons (ev_local rfl) (evl_cons (ev_BinOp (ev_int (i := 384)) (ev_local rfl) op_sub) evl_nil)) (opn_min2 R.handled)) (ev_int (i := 64)) op_sub) (evl_cons (ev_int (i := 0)) evl_nil)) (opn_max2 R.handled)) (evl_cons (ev_int (i := 64)) evl_nil)) (opn_min2 R.handled))) (able_local rfl rfl rfl) ?_
        refine run_expr (evm_append (p := .int (partI k share value c)) (i := 0) (a := S) (ev_local h4) rfl (ev_BinOp (ev_local h3) (ev_BinOp (ev_int (i := 256)) (ev_BinOp (ev_local h2) (ev_local rfl) (op_mul (.of_left hs))) op_sub) (op_mul (.of_left hv))) ?_) ?_
        · simp only [List.length_map, List.length_take]; simp [cornL]; omega
        · refine run_nil ⟨h1, h2, h3, h4, ?_⟩
          show [(S, _)] = [(S, _)]
          refine congrArg (fun z => [(S, z)]) ?_
          rw [List.take_add_one, hc, List.map_append, List.map_append]
          rfl
    · rintro W' ρ μ (⟨h1, h2, h3, h4, rfl⟩ | h)
      · refine run_freeze' (y := "parts") (D := S) (μ := []) hS.2.1 hS.2.2.1 hS.2.2.2 rfl h4 fun W => ?_
        exact run_return (Ev.m (ev_local rfl)) rfl
      · exact h.elim
end
end Mine

end

section
open PySem PySem.W PyProof.Rows PySem.Calls
namespace Mine

/-- the pattern at a finds nothing in the text -/
def Clean (w : World) (a : Addr) (x : Str) : Prop := ∀ t, peek (K0 w) ⟨P0, w.params⟩ (Builtin.«re.Pattern.search» ⟨[.ref a, .str x t], []⟩) = some (.done (.ret .none))
section
variable {w : World} {H : Heap}

set_option maxHeartbeats 2000000 in
theorem conv_fn (G : Gl w (K0 w) H) {n : Nat} {x : Str} {b : Bool} {l : Addr} (hc : Clean w (if b = true then 85 else 90) x) : FnG P0 w H (n + 3) 112 [] [.inst l, .str x] ["name"] [.bool b] (.str x) := by
  refine fng_intro (names := ["self", "value", "name"]) (ds := []) G rfl rfl rfl (fun s W vs us X h1 h2 => ?_) rfl (by decide) (by decide) (by decide) List.nodup_nil ?_
  · match vs, us, h1, h2 with
    | [a, c], [d], _, _ => exact ⟨[], .nil, .of_eq rfl⟩
  · intro A L s W R
    refine run_if (b := true) (evt_Compare (ev_Call_typ (ev_builtin G rfl rfl rfl) (evl_cons (ev_local rfl) evl_nil) opn_type_str) (ev_builtin G rfl rfl rfl) op_is_typ) (fun _ => ?_) (fun h => by cases h)
    refine run_assign (p := .ref (if b = true then 85 else 90)) (Ev.m (ev_IfExp (evt_value (ev_local (p := .bool b) rfl) tr_bool) (fun h => ?_) (fun h => ?_))) (able_local rfl rfl rfl) ?_
    · subst h; exact ev_global G rfl
    · subst h; exact ev_global G rfl
    refine run_if (b := false) (evt_value ?_ tr_none) (fun h => by cases h) (fun _ => run_nil fun W => run_return (Ev.m (ev_local rfl)) rfl)
    cases b with
    | true => exact ev_search G (ev_local rfl) (ev_local rfl) rfl hc
    | false => exact ev_search G (ev_local rfl) (ev_local rfl) rfl hc
end
end Mine

end

section
open PySem PySem.W PyProof.Rows PySem.Calls
namespace Mine

abbrev Hdr := Str × Str
def hdrP (h : Hdr) : PV := .tup [.str h.1, .str h.2]
def hdrV : PV → PV
  | .tup [_, v] => v
  | p => p
/-- a header name as the law has them -/
structure NameOk (w : World) (x : Str) : Prop where
  fit : PySem.Builtin.Str.tooLong (Txt.lower x).length = false
  clean : Clean w 85 x
  cleanL : Clean w 85 (Txt.lower x)
def getH (hs : List Hdr) (x : Str) : PV := match hs.find? fun h => Txt.lower h.1 == Txt.lower x with
  | some h => .str h.2
  | none => .none
section
variable {w : World} {H : Heap}

set_option maxHeartbeats 2000000 in
theorem values_fn (G : Gl w (K0 w) H) {n : Nat} {a : Addr} {hs : List Hdr} (hn : hs.length ≤ 900) : FnG P0 w H (n + 2) 170 [(a, hs.map hdrP)] [.inst a] [] [] (.lst (hs.map fun h => .str h.2)) := by
  refine fng_intro (names := ["self"]) (ds := []) G rfl rfl rfl (fun s W vs us X h1 h2 => ?_) rfl (by decide) (by decide) (by decide) (by simp) ?_
  · match vs, us, h1, h2 with
    | [a], [], _, _ => exact ⟨[], .nil, .of_eq rfl⟩
  · intro A L s W R
    refine run_return (Ev.m (EvF.ev ((evf_comp (ps := hs.map hdrP) (ρv := fun p ρ => upd (upd ρ "k" (match p with | .tup [k, _] => k | p => p)) "v" (hdrV p)) (b := fun _ => true) (f := hdrV) (itr_mut R.handled (ev_headers G (ev_local rfl)) (.head _)) ?_ ?_ (by simp; omega)).cast ?_))) rfl
    · exact fun q z => z
    · intro p hp D Cx s0 X W acc τ B
      obtain ⟨h, hh, rfl⟩ := List.mem_map.mp hp
      refine ⟨good_tup, fun y pv q => ?_, asg_tuple2 R.handled (able_local rfl rfl rfl) (able_local rfl rfl rfl), tst_nil, fun _ => ev_local rfl⟩
      exact absurd q (by show ¬ (none = some pv); simp)
    · rw [List.filter_eq_self.mpr (fun _ _ => rfl), List.map_map]; rfl

set_option maxHeartbeats 2000000 in
theorem get_fn (G : Gl w (K0 w) H) {n : Nat} {a : Addr} {hs : List Hdr} {x : Str} (hx : NameOk w x) (hok : ∀ h ∈ hs, NameOk w h.1) : FnG P0 w H (n + 6) 160 [(a, hs.map hdrP)] [.inst a, .str x] [] [] (getH hs x) := by
  refine fng_intro (names := ["self", "name", "default"]) (ds := [.none]) G rfl rfl rfl (fun s W vs us X h1 h2 => ?_) rfl (by decide) (by decide) (by decide) (by simp) ?_
  · match vs, us, h1, h2 with
    | [a, b], [], _, _ => exact ⟨[.none], .one (by simp [Rep]), binds_K (T := 153) X rfl rfl rfl rfl rfl⟩
  · intro A L s W R
    refine run_assign (p := .str (Txt.lower x)) (Ev.m (ev_meth1k G (ev_local rfl) (ev_lower (ev_local rfl) rfl hx.fit) (ev_bool (b := true)) (by decide) rfl rfl rfl (conv_fn G (n := n) (b := true) hx.cleanL) (R.less (by omega)) (fun _ q => nomatch q))) (able_local rfl rfl rfl) ?_
    refine run_for (ps := hs.map hdrP) (itr_mut R.handled (ev_headers G (ev_local rfl)) (.head _)) (fun i ρ μ => ρ "name" = some (.str (Txt.lower x)) ∧ ρ "default" = some .none ∧ μ = [] ∧ (hs.take i).find? (fun h => Txt.lower h.1 == Txt.lower x) = none) (fun _ _ => False) ⟨rfl, rfl, rfl, rfl⟩ (fun i ρ μ hJ q z => by obtain ⟨_, _, rfl, _⟩ := hJ; exact z) ?_ ?_
    · rintro i p s0 W' ρ μ τ B hp ⟨h1, h2, rfl, h3⟩
      rw [List.getElem?_map] at hp
      cases hc : hs[i]? with
      | none => rw [hc] at hp; cases hp
      | some c =>
        rw [hc] at hp
        cases hp
        have hcm := hok c (List.mem_of_getElem? hc)
        refine ⟨_, good_tup, asg_tuple2 R.handled (able_local rfl rfl rfl) (able_local rfl rfl rfl), ?_⟩
        refine run_if (b := (Txt.lower c.1 == Txt.lower x)) (evt_Compare (ev_lower (ev_local rfl) rfl hcm.fit) (ev_local h1) op_eq_str) (fun hb => ?_) (fun hb => run_nil fun W => run_nil ⟨h1, h2, rfl, ?_⟩)
        · refine run_return (Ev.m (ev_local rfl)) ?_
          have e : hs.find? (fun h => Txt.lower h.1 == Txt.lower x) = some c := by
            rw [← List.take_append_drop i hs, List.find?_append, h3]
            have : hs.drop i = c :: hs.drop (i + 1) := by
              obtain ⟨hi, e⟩ := List.getElem?_eq_some_iff.mp hc
              rw [List.drop_eq_getElem_cons hi, e]
            rw [this, List.find?_cons, hb]; rfl
          show PV.str c.2 = getH hs x
          rw [getH, e]
        · rw [List.take_add_one, hc, List.find?_append, h3]
          simp [hb]
    · rintro W' ρ μ (⟨h1, h2, rfl, h3⟩ | h)
      · refine run_return (Ev.m (ev_local h2)) ?_
        show PV.none = getH hs x
        rw [List.length_map, List.take_length] at h3
        rw [getH, h3]
      · exact h.elim
end
end Mine

end

section
open PySem PySem.W PyProof.Rows PySem.Calls
namespace Mine
section
variable {w : World} {H : Heap}

set_option maxHeartbeats 2000000 in
theorem len_fn (G : Gl w (K0 w) H) {n : Nat} {a : Addr} {l : List PV} (hn : l.length ≤ 900) : FnG P0 w H (n + 2) 119 [(a, l)] [.inst a] [] [] (.int l.length) := by
  refine fng_intro (names := ["self"]) (ds := []) G rfl rfl rfl (fun s W vs us X h1 h2 => ?_) rfl (by decide) (by decide) (by decide) (by simp) ?_
  · match vs, us, h1, h2 with
    | [a], [], _, _ => exact ⟨[], .nil, .of_eq rfl⟩
  · intro A L s W R
    exact run_return (Ev.m (ev_Call_blt (ev_builtin G rfl rfl rfl) (evl_cons (ev_headers G (ev_local rfl)) evl_nil) (opn_len_mut (.head _) (by omega)))) rfl

theorem opn_len_inst {A : Around} {C : Cf} (G : Gl w (K0 w) H) {n : Nat} {a : Addr} {l : List PV} (R : Room (n + 3) A) (hm : (a, l) ∈ C.μ ++ C.κ) (hn : l.length ≤ 900) : OpN P0 w H A C (fun vs => call (.builtin "len") vs) [.inst a] (.int l.length) := fun s vs Q E F r k => by
  simp only [RepL] at r
  obtain ⟨v, r', rfl, r1, rfl⟩ := r
  have r0 := r1
  obtain ⟨x, ox, od, rfl, I, d⟩ := inst_at r1
  refine Calls.call_function_entry kind_len plain_len entry_len (args_len1 _) ?_
  unfold Builtin.«len»
  refine wpAny_bind (m := oneArg "len" _) (wpAny_pure ?_)
  refine wpAny_bind (m := callSpecial? (.ref x) (Str.ofString "__len__")) (special_fn (F.kin G) I (f := 119) (by rfl) (by rfl) (len_fn G (n := n) hn A.in1 C.W s [.ref x] [] _ _ (R.less (by omega)).in1 F.st0 (kap_of F (κ := [(a, l)]) (fun p q => by simp at q; subst q; exact hm)) (.one r0) .nil fun v s' k' r' => ?_))
  simp only [Rep] at r'
  obtain ⟨t, rfl⟩ := r'
  refine wpAny_bind (wpAny_holding (wpAny_pure ?_))
  refine wpAny_bind (wpAny_letGo ?_)
  show wpAny _ _ (if (l.length : Int) < 0 then _ else _) _ _ _
  rw [if_neg (by omega)]
  show wpAny _ _ (if (l.length : Int) ≥ 2 ^ 63 then _ else _) _ _ _
  rw [if_neg (by omega)]
  refine wpAny_bind (wpAny_mkInt (wpAny_pure ⟨_, rfl, ?_⟩))
  exact k _ _ (k'.trans .tok) (F.keeps (k'.trans .tok)) (by simp [Rep])
end
end Mine

end

section
open PySem PySem.W PyProof.Rows PySem.Calls
namespace Mine
def delH (hs : List Hdr) (x : Str) : List Hdr := hs.filter fun h => Txt.lower h.1 != Txt.lower x
def setH (hs : List Hdr) (x v : Str) : List Hdr := delH hs x ++ [(x, v)]
def hdrK : PV → Str
  | .tup [.str k, _] => k
  | _ => ""
section
variable {w : World} {H : Heap}

set_option maxHeartbeats 2000000 in
theorem delitem_fn (G : Gl w (K0 w) H) {n : Nat} {a : Addr} {hs : List Hdr} {x : Str} (hn : hs.length ≤ 400) (hx : NameOk w x) (hok : ∀ h ∈ hs, NameOk w h.1) : FnL P0 w H (n + 6) 131 a [.inst a, .str x] (hs.map hdrP) ((delH hs x).map hdrP) .none := by
  refine fnl_intro (names := ["self", "name"]) G rfl rfl rfl (fun vs h => ?_) rfl (by decide) (by decide) (by decide) ?_
  · match vs, h with
    | [a, b], _ => rfl
  · intro A L s W R
    refine run_assign (p := .str (Txt.lower x)) (Ev.m (ev_meth1k G (ev_local rfl) (ev_lower (ev_cell rfl) rfl hx.fit) (ev_bool (b := true)) (by decide) rfl rfl rfl (conv_fn G (n := n) (b := true) hx.cleanL) (R.less (by omega)) (fun _ q => nomatch q))) (able_cell rfl rfl rfl rfl) ?_
    refine run_setall (j := 0) (l' := (delH hs x).map hdrP) ((evf_comp (ps := hs.map hdrP) (ρv := fun p ρ => upd ρ "kv" p) (b := fun p => Txt.lower (hdrK p) != Txt.lower x) (f := fun p => p) (itr_mut R.handled (ev_headers G (ev_local rfl)) (.head _)) ?_ ?_ (by simp; omega)).cast ?_) (ev_headers G (ev_local rfl)) rfl ?_ (run_nil ⟨rfl, rfl⟩)
    · exact fun q z => z
    · intro p hp D Cx s0 X W acc τ B
      obtain ⟨h, hh, rfl⟩ := List.mem_map.mp hp
      refine ⟨good_name, ρI_sub rfl, asg_name (able_local rfl rfl rfl), tst_one ?_, fun _ => ev_local rfl⟩
      exact evt_Compare (ev_lower (x := h.1) (ev_Subscript (ev_local rfl) (ev_int (i := 0)) (op_item_tup (by omega) (by omega) rfl)) rfl (hok h hh).fit) (ev_cell rfl) op_ne_str
    · rw [List.filter_map, List.map_map]
      exact List.map_congr_left fun _ _ => rfl
    · have : (delH hs x).length ≤ hs.length := List.length_filter_le _ _
      simp only [List.length_map]; omega

/-- a call that writes one list, from within a rule -/
theorem call_fnl {A : Around} {C : Cf} {n j : Nat} {f a : Addr} {ps l l' : List PV} {r : PV} (hF : FnL P0 w H n f a ps l l' r) (R : Room n A) (hm : C.μ[j]? = some (a, l)) {s : Shared} (F : FS H C s) {vs : List Value} (hr : RepL s.heap C.W ps vs) {Q : Value → Shared → Prop} {E : Value → Shared → Prop}
    (k : ∀ v s', FS H { C with μ := C.μ.set j (a, l') } s' → Rep s'.heap C.W r v → Q v s') : wpAny (model P0 w) A (call (.ref f) vs) Q E s := by
  have hmem : (a, l) ∈ C.μ ++ C.κ := List.mem_append_left _ (List.mem_of_getElem? hm)
  have aW : a ∈ C.W := F.inW _ (all_list hmem)
  obtain ⟨us, z1, z2, -⟩ := F.list hmem
  refine hF A C.W s vs _ E R F.st0 aW hr ⟨us, z1, z2⟩ ?_
  rintro v s' ⟨h, t, rfl⟩ hup x ⟨us', y1, y2⟩ r'
  exact k v _ (FS.setList F hm y1 x y2 hup) r'

/-- del o[i], o of Headers -/
theorem run_delinst {A : Around} {C : Cf} {n j : Nat} {o i : Expr} {p' pos : Pos} {a : Addr} {hs : List Hdr} {x : Str} {rest : List Stmt} {P : PQ} (G : Gl w (K0 w) H) (R : Room (n + 6) A) (ho : Ev P0 w H A C o (.inst a)) (hi : Ev P0 w H A C i (.str x)) (hm : C.μ[j]? = some (a, hs.map hdrP))
    (hn : hs.length ≤ 400) (hx : NameOk w x) (hok : ∀ h ∈ hs, NameOk w h.1) (kk : Run P0 w H A { C with μ := C.μ.set j (a, (delH hs x).map hdrP) } rest P) : Run P0 w H A C (.Delete [.Subscript o i p'] pos :: rest) P :=
  run_one fun s F => wpAny_Delete (wpAny_deleteEach_cons (wpAny_delete_Subscript (ho s _ _ F fun u s₁ k₁ F₁ r₁ => hi s₁ _ _ F₁ fun v s₂ k₂ F₂ r₂ => by
    have r1 : Rep s₂.heap C.W (.inst a) u := r₁.keeps k₂.keep
    have r0 := r1
    obtain ⟨y, ox, od, rfl, I, d⟩ := inst_at r1
    unfold delItem sequenceKey
    refine wpAny_holding (wpAny_bind (wpAny_bind (I.type.here ?_)))
    refine wpAny_bind ((anyM_none (F₂.kin G) (C := 213) (by rfl)).here ?_)
    rw [if_pos (show (!false) = true from rfl)]
    refine wpAny_pure (wpAny_bind (special_fn (F₂.kin G) I (f := 131) (by rfl) (by rfl) ?_))
    refine call_fnl (delitem_fn G (n := n) hn hx hok) R hm F₂ (.cons r0 (.one r₂)) fun v s' F' _ => wpAny_pure ?_
    exact wpAny_deleteEach_nil (kk.go s' F'))))

/-- o[i] = e, o of Headers -/
theorem setitem_of {A : Around} {C : Cf} {s : Shared} {u iv v : Value} {a : Addr} {Q : Unit → Shared → Prop} {E : Value → Shared → Prop} (G : Gl w (K0 w) H) (F : FS H C s) (r : Rep s.heap C.W (.inst a) u)
    (h : ∀ y, u = .ref y → wpAny (model P0 w) A (call (.ref 126) [.ref y, iv, v]) (fun _ s' => Q () s') E s) : wpAny (model P0 w) A (setItem u iv v) Q E s := by
  obtain ⟨y, ox, od, rfl, I, d⟩ := inst_at r
  unfold setItem sequenceKey
  refine wpAny_holding (wpAny_bind (wpAny_bind (I.type.here ?_)))
  refine wpAny_bind ((anyM_none (F.kin G) (C := 213) (by rfl)).here ?_)
  rw [if_pos (show (!false) = true from rfl)]
  exact wpAny_pure (wpAny_bind (special_fn (F.kin G) I (f := 126) (by rfl) (by rfl) (wpAny_mono (h y rfl) (fun _ _ z => wpAny_pure z) fun _ _ z => z)))

set_option maxHeartbeats 2000000 in
theorem setitem_fn (G : Gl w (K0 w) H) {n : Nat} {a : Addr} {hs : List Hdr} {x v : Str} (hn : hs.length ≤ 400) (hx : NameOk w x) (hv : Clean w 90 v) (hok : ∀ h ∈ hs, NameOk w h.1) : FnL P0 w H (n + 9) 126 a [.inst a, .str x, .str v] (hs.map hdrP) ((setH hs x v).map hdrP) .none := by
  refine fnl_intro (names := ["self", "name", "val"]) G rfl rfl rfl (fun vs h => ?_) rfl (by decide) (by decide) (by decide) ?_
  · match vs, h with
    | [a, b, c], _ => rfl
  · intro A L s W R
    refine run_delinst (n := n) (j := 0) (x := x) G (R.less (by omega)) (ev_local rfl) (ev_local rfl) rfl hn hx hok ?_
    have hl : (delH hs x).length ≤ hs.length := List.length_filter_le _ _
    refine run_expr (μ := [(a, (setH hs x v).map hdrP)]) ((evm_append (i := 0) (a := a) (l := (delH hs x).map hdrP) (p := hdrP (x, v)) (ev_headers G (ev_local rfl)) rfl
      (ev_Tuple (evl_cons (ev_meth1k G (ev_local rfl) (ev_local rfl) (ev_bool (b := true)) (by decide) rfl rfl rfl (conv_fn G (n := n) (b := true) hx.clean) (R.less (by omega)) (fun _ q => nomatch q)) (evl_cons (ev_meth1k G (ev_local rfl) (ev_local rfl) (ev_bool (b := false)) (by decide) rfl rfl rfl (conv_fn G (n := n) (b := false) hv) (R.less (by omega)) (fun _ q => nomatch q)) evl_nil)) (by simp)) (by simp; omega)).cast ?_) (run_nil ⟨rfl, rfl⟩)
    exact congrArg (fun z => [(a, z)]) (by simp [setH])

theorem run_setinst {A : Around} {C : Cf} {n j : Nat} {o i e : Expr} {p' pos : Pos} {a : Addr} {hs : List Hdr} {x v : Str} {rest : List Stmt} {P : PQ} (G : Gl w (K0 w) H) (R : Room (n + 9) A) (he : Ev P0 w H A C e (.str v)) (ho : Ev P0 w H A C o (.inst a)) (hi : Ev P0 w H A C i (.str x)) (hm : C.μ[j]? = some (a, hs.map hdrP))
    (hn : hs.length ≤ 400) (hx : NameOk w x) (hv : Clean w 90 v) (hok : ∀ h ∈ hs, NameOk w h.1) (kk : Run P0 w H A { C with μ := C.μ.set j (a, (setH hs x v).map hdrP) } rest P)
    (hs' : swapsWith e (some (.Subscript o i p')) pos.line C.env = pure false := by rfl) : Run P0 w H A C (.Assign [.Subscript o i p'] e pos :: rest) P :=
  run_one fun s F => wpAny_Assign_Subscript (he s _ _ F fun ve s₁ k₁ F₁ r₁ => ho s₁ _ _ F₁ fun u s₂ k₂ F₂ r₂ => hi s₂ _ _ F₂ fun iv s₃ k₃ F₃ r₃ => by
    have r0 : Rep s₃.heap C.W (.inst a) u := r₂.keeps k₃.keep
    have rv : Rep s₃.heap C.W (.str v) ve := r₁.keeps (k₂.trans k₃).keep
    refine setitem_of G F₃ r0 fun y hy => ?_
    subst hy
    exact call_fnl (setitem_fn G (n := n) hn hx hv hok) R hm F₃ (.cons r0 (.cons r₃ (.one rv))) fun _ s' F' _ => kk.go s' F') hs'
end
end Mine

end

section
open PySem PySem.W PyProof.Rows PySem.Calls
namespace Mine
section
variable {w : World} {H : Heap}

theorem lookIn_one {name : Str} {hsh : Int} {tk : Tok} {v : Value} {n : Nat} : lookIn name (dictOf [⟨hsh, .str "_headers" tk, v⟩] n) = some (if name = "_headers" then some v else none) := by
  unfold lookIn
  by_cases h : name = "_headers"
  · subst h
    rw [if_pos rfl]
    rfl
  · rw [if_neg h]
    have : (Value.str (Str.ofString "_headers") tk).isStr name = false := by
      show (_ == _) = false
      rw [beq_eq_false_iff_ne]
      exact fun e => h e.symm
    simp [this, DictEntry.refKey]

theorem setattr_inst {A : Around} {s : Shared} {x dx D : Addr} {Q : Unit → Shared → Prop} {E : Value → Shared → Prop} (X : (K0 w).In s.heap) (hx : s.heap.get? x = some (instObj 213 dx)) (hdx : s.heap.get? dx = some emptyDict)
    (h : ∀ h' od, Heap.SameBut dx s.heap h' → h'.get? dx = some od → InstD D od → Q () { s with heap := h', toks := s.toks + 2 }) : wpAny (model P0 w) A (setAttr (.ref x) "_headers" (.ref D)) Q E s := by
  have I : InstAt s.heap x (instObj 213 dx) 213 (some emptyDict) := ⟨hx, rfl, rfl, hdx⟩
  refine set_plain X I (by rfl) ?_
  refine osa_open (s := { s with toks := s.toks + 1 }) X I (by rfl) (by rfl) fun b => ?_
  obtain ⟨cd, hc, hd'⟩ := any_some (show (clsIn (K0 w) 213).any (·.hasDict) = true from rfl)
  have eq : Obj.putName "_headers" (PyData.keyHash w.params "_headers") (.str "_headers" (s.toks + 1)) (.ref D) emptyDict = dictOf [⟨PyData.keyHash w.params "_headers", .str "_headers" (s.toks + 1), .ref D⟩] 1 := putName_dict "_headers" _ _ _ [] 0
  have hD' := Heap.get?_update_self (Obj.putName "_headers" (PyData.keyHash w.params "_headers") (.str "_headers" (s.toks + 1)) (.ref D)) hdx (by rw [eq]; rfl)
  rw [eq] at hD'
  refine wpAny_bind (wpAny_pure (wpAny_bind (wpAny_bind (wpAny_loadPart hx (wpAny_bind (Looks.here (s := { s with toks := s.toks + 1 }) (looks_clsIn X hc) ?_))))))
  rw [hd']
  refine wpAny_pure (a := some dx) (wpAny_bind (wpAny_pure (wpAny_bind ?_)))
  unfold nsSet
  refine wpAny_bind (wpAny_bind (wpAny_askSetting (wpAny_pure (wpAny_bind (wpAny_mkText (wpAny_bind (wpAny_loadPart hdx ?_)))))))
  dsimp only
  rw [aRefKeyMayBeTheName_at]
  refine wpAny_ite_split (fun hab => absurd hab (by simp)) (fun _ => ?_)
  refine wpAny_updatePart (s := { s with toks := s.toks + 1 + 1 }) hdx ?_
  refine wpAny_bind (wpAny_lookBehind (s := { s with heap := s.heap.update dx _, toks := s.toks + 1 + 1 }) hD' (pastItsLine_dict (by simp [sizeLine_eq])) ?_)
  refine wpAny_pure ?_
  exact h _ _ (Heap.SameBut.update ..) hD' (fun name => lookIn_one)
end
end Mine

end

section
open PySem PySem.W PyProof.Rows PySem.Calls
namespace Mine
section
variable {w : World} {H : Heap}

theorem Ev.use {prog : Program} {A : Around} {C : Cf} {e : Expr} {p : PV} {s : Shared} {Q : Value → Shared → Prop} {E : Value → Shared → Prop} (h : Ev prog w H A C e p) (F : FS H C s) (k : ∀ v s', KeepS s s' → FS H C s' → Rep s'.heap C.W p v → Q v s') : wpAny (model prog w) A (eval e C.env) Q E s := h s Q E F k
theorem EvT.use {prog : Program} {A : Around} {C : Cf} {e : Expr} {b : Bool} {s : Shared} {Q : Bool → Shared → Prop} {E : Value → Shared → Prop} (h : EvT prog w H A C e b) (F : FS H C s) (k : ∀ s', KeepS s s' → FS H C s' → Q b s') : wpAny (model prog w) A (isTrue e C.env (eval e C.env)) Q E s := h s Q E F k
theorem Run.use {prog : Program} {A : Around} {C : Cf} {sts : List Stmt} {P : PQ} {s : Shared} {Q : Flow → Shared → Prop} {E : Value → Shared → Prop} (F : FS H C s) (h : Run prog w H A C sts P) (k : ∀ fl s', Holds H C P fl s' → Q fl s') : wpAny (model prog w) A (execs sts C.env) Q E s := wpAny_mono (h.go s F) k fun _ _ z => z.elim
theorem FS.grant {C : Cf} {s : Shared} (F : FS H C s) (hX : C.X = []) {X : List Addr} (h : ∀ b ∈ X, b ∈ C.B) : FS H { C with X := X } s := by
  obtain ⟨⟨a1, a2, a3, a4, a5, a6, a7, a8, aX, aB, a9, a10, aT, a11⟩, tk, up⟩ := F
  refine ⟨?_, tk, up⟩
  exact ⟨a1, a2.mono (fun b q => by rw [hX] at q; cases q), a3, a4, a5, a6, a7, a8, h, aB, a9, a10, aT, fun b q => .inr ((a11 b q).resolve_left fun z => by rw [hX] at z; cases z)⟩

theorem Room.undercls {n : Nat} {A : Around} {a : Addr} {vs : List Value} (R : Room (n + 1) A) : Room n (A.under (.builtin "type.__call__" ⟨.ref a :: vs, []⟩)) := by
  have e1 : (Code.builtin "type.__call__" ⟨.ref a :: vs, []⟩).weight = 1 := rfl
  have e2 : (Code.builtin "type.__call__" ⟨.ref a :: vs, []⟩).cUnits ≤ 20 := Nat.le_of_ble_eq_true rfl
  have e3 : (Code.builtin "type.__call__" ⟨.ref a :: vs, []⟩).envs = [] := rfl
  have e4 : (Code.builtin "type.__call__" ⟨.ref a :: vs, []⟩).guards = [] := rfl
  obtain ⟨r1, r2, r3, r4, r5⟩ := R
  obtain ⟨l, r4⟩ := r4
  refine ⟨r1, ?_, ?_, ⟨l, ?_⟩, ?_⟩
  · show A.depth + (Code.builtin "type.__call__" ⟨.ref a :: vs, []⟩).weight + n ≤ 900
    rw [e1]; omega
  · show A.units + (Code.builtin "type.__call__" ⟨.ref a :: vs, []⟩).cUnits + 20 * n ≤ 9000
    omega
  · show pushEnvs (Code.builtin "type.__call__" ⟨.ref a :: vs, []⟩).envs A.frames = some l
    rw [e3, r4]; rfl
  · show pushGuards (Code.builtin "type.__call__" ⟨.ref a :: vs, []⟩).guards A.guards = some []
    rw [e4, r5]; rfl
theorem enter_raw {A : Around} {R : Result → Shared → Prop} {s : Shared} {f : Addr} {oc : Value} {od : Option Addr} {osl : Array (Option Value)} {fd : FuncData} {body : List Stmt} {names : List Str} {ps : List PV} {vs : List Value} {W : List Addr} {κ : Sto}
    (G : Gl w (K0 w) H) (S : St0 H W s) (hroom : A.depth < recursionLimit) (ho : (K0 w).lookup f = some ⟨oc, od, .func fd, osl⟩) (hbody : fd.body = .stmts body) (hcd : codeIn (K0 w) fd.code fd.qualname = true)
    (hbind : BindsTo s fd ⟨vs, []⟩ (names.zip vs)) (hclo : fd.closure = []) (hnd : names.Nodup) (hsn : (fd.scope.names.map (·.1)).Nodup)
    (hkind : ∀ x ∈ names, fd.scope.names.lookup x = some .local ∨ fd.scope.names.lookup x = some .cell) (hr : RepL s.heap W ps vs)
    (hκ : ∀ p ∈ κ, p.1 ∈ W) (hndm : (κ.map (·.1)).Nodup) (hlists : ∀ p ∈ κ, ∃ vs : List Value, s.heap.PlainList p.1 vs.toArray ∧ RepL s.heap W p.2 vs)
    (run : ∀ L s₁, FS H (cfF fd L f s [] W (fun x => (names.zip ps).lookup x) [] κ) s₁ → KeepS s s₁ → wpAny (model P0 w) (A.deeper (callEnvC fd L f)) (execs body (callEnvC fd L f)) (fun fl s' => R (.ok (.ret (match fl with | .ret v => v | _ => .none))) s') (fun _ _ => False) s₁)
    (hco : fd.scope.isCoroutine = false := by rfl) (hgen : fd.scope.isGenerator = false := by rfl) (hk : fd.scope.kind = .function := by rfl) :
    codeAny (model P0 w) A (.call (.ref f) ⟨vs, []⟩) R s := by
  have hmem : ∀ x ∈ names.zip vs, x.1 ∈ names := fun x q => (List.of_mem_zip (a := x.1) (b := x.2) q).1
  exact enter_fnR (X := []) (μ := []) (κ := κ) (W := W) G S hroom ho hbody hcd hbind hclo (zip_nodup hnd) hsn (fun x q => (kinds_ok hsn (hkind _ (hmem x q))).1) (fun x q => (kinds_ok hsn (hkind _ (hmem x q))).2) (fun x p e => zip_rep hr e)
    (fun _ q => nomatch q) (fun _ q => nomatch q) hκ (by simpa using hndm) (fun p q => hlists p (by simpa using q)) run hco hgen hk

set_option maxHeartbeats 4000000 in
theorem headers_new (G : Gl w (K0 w) H) {A : Around} {C : Cf} {s : Shared} {D : Addr} {Q : Value → Shared → Prop} {E : Value → Shared → Prop} {n : Nat} (R : Room (n + 6) A) (F : FS H C s) (hD : (D, []) ∈ C.μ ++ C.κ)
    (k : ∀ x s', KeepS s s' → FS H C s' → Rep s'.heap C.W (.inst D) (.ref x) → Q (.ref x) s') : wpAny (model P0 w) A (call (.ref 213) [.ref D]) Q E s := by
  have X := F.kin G
  refine wpAny_call ?_
  obtain ⟨h, g, d, t, os⟩ := s
  refine make_core (makes_of X (by rfl)) (looks_findIn X (show findIn (K0 w) (.ref 213) "__init__" = some (some (.ref 105)) by rfl)) (fun self => bind_fn X self (show typeIn (K0 w) (.ref 105) = some (.type "function") by rfl)) (.inl rfl) ?_
  have RU := R.undercls (a := 213) (vs := [.ref D])
  generalize A.under (.builtin "type.__call__" ⟨[.ref 213, .ref D], []⟩) = AU at RU ⊢
  have ndx : h.get? h.objs.size = none := get_size_none h
  have nx : h.get? (h.objs.size + 1) = none := get_ge_none (Nat.le_succ _)
  have hkeep : ∀ b o, h.get? b = some o → ((h.push emptyDict).push (instObj 213 h.objs.size)).get? b = some o := fun b o e => Heap.get?_push_of_some _ (Heap.get?_push_of_some _ e)
  have hx : ((h.push emptyDict).push (instObj 213 h.objs.size)).get? (h.objs.size + 1) = some (instObj 213 h.objs.size) := by
    have := Heap.get?_push_size (h := h.push emptyDict) (o := instObj 213 h.objs.size) rfl
    rwa [Heap.size_push] at this
  have hdx : ((h.push emptyDict).push (instObj 213 h.objs.size)).get? h.objs.size = some emptyDict := Heap.get?_push_of_some _ (Heap.get?_push_size _ rfl)
  have hne : h.objs.size ≠ h.objs.size + 1 := Nat.ne_of_lt (Nat.lt_succ_self _)
  generalize (h.push emptyDict).push (instObj 213 h.objs.size) = h2 at hkeep hx hdx ⊢
  generalize h.objs.size + 1 = x at nx hx hne ⊢
  generalize h.objs.size = dx at ndx hx hdx hne ⊢
  have k2 : KeepS ⟨h, g, d, t, os⟩ ⟨h2, g, d, t, os⟩ := ⟨h2, t, rfl, fun h => h, hkeep⟩
  have F1 : FS H { C with W := dx :: C.W } ⟨h2, g, d, t, os⟩ := F.widen ndx k2 ⟨_, hdx⟩
  obtain ⟨vs, hl, rl, hlen⟩ := F.list hD
  have hvs : vs = [] := by cases vs with
    | nil => rfl
    | cons a b => cases hlen
  subst hvs
  have DW : D ∈ C.W := F.inW _ (all_list hD)
  have xW : x ∉ dx :: C.W := fun q => by
    rcases List.mem_cons.mp q with q | q
    · exact hne q.symm
    · exact not_mem_of_none F nx q
  have dxC : dx ∉ C.W := not_mem_of_none F ndx
  have dxD : dx ≠ D := fun z => dxC (z ▸ DW)
  refine enter_raw (names := ["self", "headers"]) (ps := [.ref x, .ref D]) (κ := [(D, [])]) G F1.st0 RU.lim rfl rfl rfl (binds_K (T := 98) (F1.kin G) rfl rfl rfl rfl rfl) rfl (by decide) (by decide) (by decide) (RepL.cons (by simp [Rep]) (RepL.one (by simp [Rep])))
    (fun p q => by rw [List.mem_singleton.mp q]; exact .tail _ DW) (by simp)
    (fun p q => by rw [List.mem_singleton.mp q]; exact ⟨[], plain_keep hl fun o e => hkeep _ o e, .nil⟩) fun L s₁ F₁ k₁ => ?_
  refine wpAny_execs_cons (wpAny_Assign_Name (Ev.use (ev_IfExp (p := .ref D) (c := true) (evt_Compare (ev_local rfl) ev_none op_isnot_none_ref) (fun _ => ev_local rfl) (fun h => by cases h)) F₁ fun v s₂ k₂ F₂ r₂ => able_local rfl rfl rfl _ _ _ _ _ _ _ _ (.ref D) s₂ v _ _ F₂ r₂ fun s₃ F₃ => ?_))
  refine wpAny_execs_cons (wpAny_If (EvT.use (evt_Compare (b := false) (ev_Call_typ (ev_builtin G rfl rfl rfl) (evl_cons (ev_local rfl) evl_nil) (opn_type_list (.head _))) (ev_builtin G rfl rfl rfl) op_isnot_typ) F₃ fun s₄ k₄ F₄ => ?_))
  refine wpAny_execs_nil ?_
  refine wpAny_execs_cons (plainObj_wpAny_Assign_Attribute (Ev.use (ev_local (p := .ref D) rfl) F₄ fun v s₅ k₅ F₅ r₅ => Ev.use (ev_local (p := .ref x) rfl) F₅ fun u s₆ k₆ F₆ r₆ => ?_))
  simp only [Rep] at r₅ r₆
  subst r₅
  subst r₆
  have hx6 : s₆.heap.get? x = some (instObj 213 dx) := F₆.ext x _ (fun q => nomatch q) hx
  have hdx6 : s₆.heap.get? dx = some emptyDict := F₆.ext dx _ (fun q => nomatch q) hdx
  have hL : h2.get? L = none := (F₆.mine L own_loc).resolve_left fun q => nomatch q
  have dxL : dx ≠ L := fun z => by rw [z, hL] at hdx; cases hdx
  refine setattr_inst (F₆.kin G) hx6 hdx6 fun h' od hs hod hI => ?_
  have dxA : dx ∉ L :: ([] ++ [D]) := fun q => by
    rcases List.mem_cons.mp q with q | q
    · exact dxL q
    · rcases List.mem_append.mp q with q | q
      · cases q
      · exact dxD (List.mem_singleton.mp q)
  have F₇ := FS.touch (tk := s₆.toks + 2) (F₆.grant rfl (X := [dx]) (fun b q => by rw [List.mem_singleton.mp q]; exact .head _)) (I := dx) (h' := h') (.tail _ (.head _)) dxA (.inl (.head _)) (Ext.of_same hs) ⟨od, hod⟩ (fun _ => Nat.succ_pos _)
  have F₈ := F₇.rebase [] (fun _ q => nomatch q)
  refine Run.use (P := ⟨fun _ _ => True, fun _ _ => False, fun _ _ => False, fun _ _ => False⟩) F₈ ?_ fun fl s' hf => ?_
  · refine run_if (b := true) (evt_value ev_bool tr_bool) (fun _ => ?_) (fun h => by cases h)
    refine run_for (ps := []) (itr_mut RU.handled (ev_local (p := .ref D) rfl) (.head _)) (fun _ _ _ => True) (fun _ _ => False) trivial (fun i ρ μ _ q hq => List.mem_append_right _ hq) (fun i p s0 W ρ μ τ B hp => by cases hp) (fun W' ρ μ _ => ?_)
    exact run_nil fun W'' => run_nil trivial
  obtain ⟨W', ρ', μ', F', hp⟩ := hf
  cases fl with
  | ret v => obtain ⟨p, _, hp⟩ := hp; exact hp.elim
  | cont => exact hp.elim
  | brk => exact hp.elim
  | next =>
    have L8 : ∀ b o, h'.get? b = some o → b ≠ L → s'.heap.get? b = some o := fun b o e hb => F'.ext b o (fun q => by
      rcases List.mem_cons.mp q with q | q
      · exact hb q
      · cases q) e
    have kall : ∀ b o, h2.get? b = some o → b ≠ dx → s'.heap.get? b = some o := fun b o e hb => L8 b o (hs.extBut b o hb (F₆.ext b o (fun q => nomatch q) e)) fun z => by rw [z, hL] at e; cases e
    have kS : KeepS ⟨h, g, d, t, os⟩ s' := by
      obtain ⟨h6, t6, e6⟩ := F₆.same
      obtain ⟨h8, t8, e8⟩ := F'.same
      have up8 : 0 < s'.toks := F'.up (Nat.succ_pos _)
      refine ⟨h8, t8, ?_, fun _ => Nat.lt_of_lt_of_eq up8 (congrArg (fun z : Shared => z.toks) e8), fun b o e => ?_⟩
      · rw [e8]
        show ({ s₆ with heap := h8, toks := t8 } : Shared) = _
        rw [e6]
      · have := kall b o (hkeep b o e) fun z => by rw [z, ndx] at e; cases e
        rw [e8] at this
        exact this
    refine ⟨rfl, k x s' kS (F.keeps kS) ?_⟩
    simp only [Rep]
    exact ⟨x, dx, _, od, rfl, fun q => xW (.tail _ q), dxC, kall x _ hx (Ne.symm hne), L8 dx _ hod dxL, hI⟩
end
end Mine

end

section
open PySem PySem.W PyProof.Rows PySem.Calls
namespace Mine
section
variable {w : World} {H : Heap}

theorem run_headers {A : Around} {C : Cf} {n : Nat} {x : Str} {px pos spos : Pos} {fx e : Expr} {rest : List Stmt} {P : PQ} (G : Gl w (K0 w) H) (R : Room (n + 6) A) (hf : Ev P0 w H A C fx (.ref 213)) (he : EvF P0 w H A C e []) (hx : Able P0 w H A C.env x)
    (k : ∀ D, Fresh C D → Run P0 w H A ⟨C.env, C.s0, C.X, D :: C.W, upd C.ρ x (.inst D), (D, []) :: C.μ, C.τ, C.κ, C.B⟩ rest P)
    (hc : eval (.Call fx [e] [] pos) C.env = (do callWith pos (← eval fx C.env) [] (backTo pos (starEach [e] C.env)) (backToKw pos (keywordEach [] C.env))) := by rfl)
    (hs : starEach [e] C.env = (false, eval e C.env) :: starEach [] C.env := by rfl) (hp : (backTo pos (starEach [] C.env)).any (·.1) = false := by rfl)
    (hsw : swapsWith (.Call fx [e] [] pos) (some (.Name x px)) spos.line C.env = pure false := by rfl) : Run P0 w H A C (.Assign [.Name x px] (.Call fx [e] [] pos) spos :: rest) P :=
  run_one fun s F => wpAny_Assign_Name (Call_ (hf s _ _ F fun u s₁ k₁ F₁ r₁ => by
    simp only [Rep] at r₁
    subst r₁
    refine callWith_K (G.kin) (by rfl) (args_cons (he s₁ _ _ F₁ fun D vs s₂ k₂ nD hl r => args_nil ?_) hs) hs hp
    have F₂ : FS H { C with W := D :: C.W, μ := (D, []) :: C.μ } s₂ := F₁.take nD k₂ hl r
    refine ⟨F₂.kin G, headers_new G (n := n) R F₂ (.head _) fun y s₃ k₃ F₃ r₃ => ?_⟩
    exact hx _ _ _ _ _ _ _ _ (.inst D) s₃ _ _ _ F₃ r₃ fun s₄ F₄ => (k D (.of F₁ nD)).go s₄ F₄) hc) hsw
end
end Mine

end

section
namespace Mine

theorem nodup_le : ∀ {l l' : List Nat}, l.Nodup → (∀ x ∈ l, x ∈ l') → l.length ≤ l'.length
  | [], _, _, _ => Nat.zero_le _
  | a :: t, l', h, hs => by
    rw [List.nodup_cons] at h
    have ha := hs a (.head _)
    have ih := nodup_le (l := t) (l' := l'.erase a) h.2 fun x hx => by
      have hne : x ≠ a := fun e => h.1 (e ▸ hx)
      exact (List.mem_erase_of_ne hne).mpr (hs x (.tail _ hx))
    rw [List.length_erase_of_mem ha] at ih
    have := List.length_pos_of_mem ha
    simp only [List.length_cons]
    omega
theorem nodup_eq {l l' : List Nat} (h : l.Nodup) (h' : l'.Nodup) (hs : ∀ x, x ∈ l ↔ x ∈ l') : l.length = l'.length :=
  Nat.le_antisymm (nodup_le h fun x => (hs x).mp) (nodup_le h' fun x => (hs x).mpr)

theorem filter_split {α : Type} (p : α → Bool) : ∀ l : List α, (l.filter p).length + (l.filter fun x => !p x).length = l.length
  | [] => rfl
  | a :: l => by
    have := filter_split p l
    simp only [List.filter_cons]
    cases p a <;> simp <;> omega

/-- what is asked of a closure and a rank -/
structure Mat (cl : List Nat → Nat → Prop) (r : List Nat → Nat) : Prop where
  self : ∀ T x, x ∈ T → cl T x
  trans : ∀ T T' x, (∀ y ∈ T, cl T' y) → cl T x → cl T' x
  nil : r [] = 0
  inn : ∀ T x, cl T x → r (T ++ [x]) = r T
  out : ∀ T x, ¬ cl T x → r (T ++ [x]) = r T + 1
  eqv : ∀ T T', (∀ y ∈ T, cl T' y) → (∀ y ∈ T', cl T y) → r T = r T'

section
variable {cl : List Nat → Nat → Prop} {r : List Nat → Nat} (M : Mat cl r)
include M

theorem Mat.mono {T T' : List Nat} {x : Nat} (h : ∀ y ∈ T, y ∈ T') (hx : cl T x) : cl T' x := M.trans T T' x (fun y hy => M.self T' y (h y hy)) hx
theorem Mat.step (T : List Nat) (x : Nat) : r T ≤ r (T ++ [x]) ∧ r (T ++ [x]) ≤ r T + 1 := by
  by_cases h : cl T x
  · rw [M.inn T x h]; omega
  · rw [M.out T x h]; omega
theorem Mat.app (T : List Nat) : ∀ U : List Nat, r T ≤ r (T ++ U) ∧ r (T ++ U) ≤ r T + U.length := by
  intro U
  induction U generalizing T with
  | nil => simp
  | cons u U ih =>
    have e : T ++ u :: U = T ++ [u] ++ U := by simp
    have := ih (T ++ [u])
    have := M.step T u
    rw [e]
    simp only [List.length_cons]
    omega
theorem Mat.len (T : List Nat) : r T ≤ T.length := by
  have := (M.app [] T).2
  rw [M.nil] at this
  simpa using this
theorem Mat.le {T T' : List Nat} (h : ∀ y ∈ T, cl T' y) : r T ≤ r T' := by
  have h1 := (M.app T T').1
  have h2 : r (T ++ T') = r T' := M.eqv _ _ (fun y hy => by
    rcases List.mem_append.mp hy with hy | hy
    · exact h y hy
    · exact M.self _ _ hy) (fun y hy => M.self _ _ (List.mem_append_right _ hy))
  omega
theorem Mat.exch {T : List Nat} {z e : Nat} (h : cl (T ++ [z]) e) (hn : ¬ cl T e) : cl (T ++ [e]) z := by
  apply Classical.byContradiction
  intro hz
  have h1 := M.out _ _ hz
  rw [M.out _ _ hn] at h1
  have h2 := M.inn _ _ h
  have h3 := (M.step T z).2
  have h4 : r (T ++ [e] ++ [z]) = r (T ++ [z] ++ [e]) := M.eqv _ _ (fun y hy => M.self _ _ (by simp at hy ⊢; rcases hy with hy | hy | hy <;> simp [hy])) (fun y hy => M.self _ _ (by simp at hy ⊢; rcases hy with hy | hy | hy <;> simp [hy]))
  omega
theorem Mat.sub {K : List Nat} (h : r K = K.length) (p : Nat → Bool) : r (K.filter p) = (K.filter p).length := by
  have h1 := (M.app (K.filter p) (K.filter fun x => !p x)).2
  have h2 : r K ≤ r (K.filter p ++ K.filter fun x => !p x) := M.le fun y hy => M.self _ _ (by
    simp only [List.mem_append, List.mem_filter]
    cases hp : p y <;> simp [hy])
  have h3 := filter_split p K
  have h4 := M.len (K.filter p)
  omega
def rem (K : List Nat) (z : Nat) : List Nat := K.filter fun n => decide (n ≠ z)
omit M in
theorem mem_rem {K : List Nat} {z x : Nat} : x ∈ rem K z ↔ x ∈ K ∧ x ≠ z := by simp [rem]
omit M in
theorem rem_lt {K : List Nat} {z : Nat} (h : z ∈ K) : (rem K z).length < K.length := by
  have h1 := filter_split (fun n => decide (n ≠ z)) K
  have h2 : 0 < (K.filter fun x => !decide (x ≠ z)).length := List.length_pos_of_mem (a := z) (by simp [h])
  unfold rem
  omega
theorem Mat.indep {K : List Nat} {z : Nat} (h : r K = K.length) (hz : z ∈ K) : ¬ cl (rem K z) z := fun hc => by
  have h1 : r K ≤ r (rem K z) := M.le fun y hy => by
    by_cases e : y = z
    · rw [e]; exact hc
    · exact M.self _ _ (mem_rem.mpr ⟨hy, e⟩)
  have h2 := M.len (rem K z)
  have h3 := rem_lt hz
  omega
end

/-! paths -/
/-- the path q, y of the search from K on -/
inductive VP (cl : List Nat → Nat → Prop) (kind : Nat → Nat) (K : List Nat) : List Nat → Nat → Prop
  | one (y : Nat) : y ∉ K → ¬ cl K y → VP cl kind K [] y
  | snoc (q : List Nat) (y n z : Nat) : VP cl kind K q y → z ∈ K → kind z = kind y → n ∉ K → cl K n → ¬ cl (rem K z) n → (∀ x ∈ q, ∃ z ∈ K, kind z = kind x ∧ cl (rem K z) n) → VP cl kind K (q ++ [y]) n

section
variable {cl : List Nat → Nat → Prop} {r : List Nat → Nat} {kind : Nat → Nat} {K : List Nat}

theorem kind_inj : ∀ {K : List Nat} {a b : Nat}, (K.map kind).Nodup → a ∈ K → b ∈ K → kind a = kind b → a = b
  | k :: K, a, b, h, ha, hb, e => by
    rw [List.map_cons, List.nodup_cons] at h
    rcases List.mem_cons.mp ha with ea | ha'
    · rcases List.mem_cons.mp hb with eb | hb'
      · rw [ea, eb]
      · refine absurd ?_ h.1
        rw [← ea, e]
        exact List.mem_map_of_mem hb'
    · rcases List.mem_cons.mp hb with eb | hb'
      · refine absurd ?_ h.1
        rw [← eb, ← e]
        exact List.mem_map_of_mem ha'
      · exact kind_inj h.2 ha' hb' e

theorem VP.head {q : List Nat} {y : Nat} (h : VP cl kind K q y) : ∃ f t, q ++ [y] = f :: t ∧ ¬ cl K f ∧ ∀ x ∈ t, cl K x := by
  induction h with
  | one y h1 h2 => exact ⟨y, [], rfl, h2, fun _ q => nomatch q⟩
  | snoc q y n z _ h1 h2 h3 h4 h5 h6 ih =>
    obtain ⟨f, t, e, hf, ht⟩ := ih
    refine ⟨f, t ++ [n], by rw [e]; rfl, hf, fun x hx => ?_⟩
    rcases List.mem_append.mp hx with hx | hx
    · exact ht x hx
    · rw [List.mem_singleton.mp hx]; exact h4
theorem VP.notin {q : List Nat} {y : Nat} (h : VP cl kind K q y) : ∀ x ∈ q ++ [y], x ∉ K := by
  induction h with
  | one y h1 h2 => intro x hx; simp at hx; rw [hx]; exact h1
  | snoc q y n z _ h1 h2 h3 h4 h5 h6 ih =>
    intro x hx
    rcases List.mem_append.mp hx with hx | hx
    · exact ih x hx
    · rw [List.mem_singleton.mp hx]; exact h3
theorem VP.kinds {q : List Nat} {y : Nat} (hK : (K.map kind).Nodup) (h : VP cl kind K q y) : (q.map kind).Nodup ∧ ∀ x ∈ q, kind x ∈ K.map kind := by
  induction h with
  | one y h1 h2 => exact ⟨List.nodup_nil, fun _ q => nomatch q⟩
  | snoc q y n z _ h1 h2 h3 h4 h5 h6 ih =>
    obtain ⟨a, b⟩ := ih
    refine ⟨?_, fun x hx => ?_⟩
    · rw [List.map_append, List.nodup_append]
      refine ⟨a, by simp, ?_⟩
      intro u hu v hv
      simp only [List.map_cons, List.map_nil, List.mem_singleton] at hv
      subst hv
      obtain ⟨x, hx, rfl⟩ := List.mem_map.mp hu
      intro e
      obtain ⟨z', hz', e', hc⟩ := h6 x hx
      have : z' = z := kind_inj hK hz' h1 (e'.trans (e.trans h2.symm))
      subst this
      exact h5 hc
    · rcases List.mem_append.mp hx with hx | hx
      · exact b x hx
      · rw [List.mem_singleton.mp hx, ← h2]; exact List.mem_map_of_mem h1

/-- K without the kinds of S, and L -/
def swp (kind : Nat → Nat) (K S L : List Nat) : List Nat := (K.filter fun a => decide (kind a ∉ S)) ++ L
theorem mem_swp {S L : List Nat} {a : Nat} : a ∈ swp kind K S L ↔ (a ∈ K ∧ kind a ∉ S) ∨ a ∈ L := by simp [swp]

theorem swp_step (M : Mat cl r) (hK : (K.map kind).Nodup) {S L : List Nat} {y z n : Nat} (hJ : ∀ a ∈ K, cl (swp kind K S L) a) (hz : z ∈ K) (e : kind z = kind y) (h1 : cl K n) (h2 : ¬ cl (rem K z) n) (hL : ∀ l ∈ L, cl (rem K z) l) :
    ∀ a ∈ K, cl (swp kind K (kind y :: S) (n :: L)) a := by
  have b1 : ∀ a ∈ swp kind K S L, a ∈ swp kind K (kind y :: S) L ++ [z] := fun a ha => by
    rcases mem_swp.mp ha with ⟨ha, hs⟩ | ha
    · by_cases h : kind a = kind y
      · have : a = z := kind_inj hK ha hz (h.trans e.symm)
        simp [this]
      · exact List.mem_append_left _ (mem_swp.mpr (.inl ⟨ha, by simp [h, hs]⟩))
    · exact List.mem_append_left _ (mem_swp.mpr (.inr ha))
  have c1 : cl (swp kind K (kind y :: S) L ++ [z]) n := M.mono b1 (M.trans _ _ _ hJ h1)
  have c2 : ¬ cl (swp kind K (kind y :: S) L) n := fun h => h2 (M.trans _ _ _ (fun a ha => by
    rcases mem_swp.mp ha with ⟨ha, hs⟩ | ha
    · exact M.self _ _ (mem_rem.mpr ⟨ha, fun q => hs (by rw [q, e]; exact .head _)⟩)
    · exact hL a ha) h)
  have c3 := M.exch c1 c2
  intro a ha
  refine M.trans _ _ _ (fun b hb => ?_) (hJ a ha)
  rcases List.mem_append.mp (b1 b hb) with hb | hb
  · refine M.self _ _ ?_
    rcases mem_swp.mp hb with hb | hb
    · exact mem_swp.mpr (.inl hb)
    · exact mem_swp.mpr (.inr (.tail _ hb))
  · rw [List.mem_singleton.mp hb]
    refine M.mono (fun x hx => ?_) c3
    rcases List.mem_append.mp hx with hx | hx
    · rcases mem_swp.mp hx with hx | hx
      · exact mem_swp.mpr (.inl hx)
      · exact mem_swp.mpr (.inr (.tail _ hx))
    · rw [List.mem_singleton.mp hx]; exact mem_swp.mpr (.inr (.head _))

theorem VP.span (M : Mat cl r) (hK : (K.map kind).Nodup) {q : List Nat} {y : Nat} (h : VP cl kind K q y) : ∀ S L : List Nat, (∀ a ∈ K, cl (swp kind K S L) a) → (∀ l ∈ L, ∀ x ∈ q, ∃ z ∈ K, kind z = kind x ∧ cl (rem K z) l) →
    ∃ S' L', (∀ a ∈ K, cl (swp kind K S' L') a) ∧ (∀ k, k ∈ S' ↔ k ∈ S ∨ k ∈ q.map kind) ∧ ∀ x, x ∈ L' ↔ x ∈ L ∨ x ∈ (q ++ [y]).tail := by
  induction h with
  | one y h1 h2 => intro S L hJ hL; exact ⟨S, L, hJ, by simp, by simp⟩
  | snoc q y n z h0 h1 h2 h3 h4 h5 h6 ih =>
    intro S L hJ hL
    have hL' : ∀ l ∈ L, cl (rem K z) l := fun l hl => by
      obtain ⟨z', hz', e', hc⟩ := hL l hl y (by simp)
      have : z' = z := kind_inj hK hz' h1 (e'.trans h2.symm)
      subst this
      exact hc
    obtain ⟨S', L', a, b, c⟩ := ih (kind y :: S) (n :: L) (swp_step M hK hJ h1 h2 h4 h5 hL') fun l hl x hx => by
      rcases List.mem_cons.mp hl with rfl | hl
      · exact h6 x hx
      · exact hL l hl x (List.mem_append_left _ hx)
    refine ⟨S', L', a, fun k => ?_, fun x => ?_⟩
    · rw [b k]; simp only [List.map_append, List.mem_append, List.mem_cons, List.map_cons, List.map_nil, List.not_mem_nil, or_false]
      constructor
      · rintro ((h | h) | h)
        · exact .inr (.inr h)
        · exact .inl h
        · exact .inr (.inl h)
      · rintro (h | h | h)
        · exact .inl (.inr h)
        · exact .inr h
        · exact .inl (.inl h)
    · have et : (q ++ [y] ++ [n]).tail = (q ++ [y]).tail ++ [n] := List.tail_append_of_ne_nil (by simp)
      rw [c x, et]
      simp only [List.mem_append, List.mem_cons, List.not_mem_nil, or_false]
      constructor
      · rintro ((h | h) | h)
        · exact .inr (.inr h)
        · exact .inl h
        · exact .inr (.inl h)
      · rintro (h | h | h)
        · exact .inl (.inr h)
        · exact .inr h
        · exact .inl (.inl h)

/-- along a path whose end is of no held kind one more is held -/
theorem VP.grow (M : Mat cl r) (hK : (K.map kind).Nodup) (hi : r K = K.length) {q : List Nat} {y : Nat} (h : VP cl kind K q y) (hy : kind y ∉ K.map kind) {N : List Nat} (hN : ∀ a, a ∈ N ↔ (a ∈ K ∧ kind a ∉ (q ++ [y]).map kind) ∨ a ∈ q ++ [y]) : r N = K.length + 1 := by
  obtain ⟨S, L, hs, hS, hL⟩ := h.span M hK [] [] (fun a ha => M.self _ _ (mem_swp.mpr (.inl ⟨ha, by simp⟩))) (fun _ q => nomatch q)
  obtain ⟨f, t, e, hf, ht⟩ := h.head
  have hL' : ∀ x, x ∈ L ↔ x ∈ t := fun x => by rw [hL x, e]; simp
  have hA : ∀ a ∈ swp kind K S L, cl K a := fun a ha => by
    rcases mem_swp.mp ha with ⟨ha, _⟩ | ha
    · exact M.self _ _ ha
    · exact ht a ((hL' a).mp ha)
  have hr : r (swp kind K S L) = K.length := (M.eqv _ _ hA hs).trans hi
  have hfA : ¬ cl (swp kind K S L) f := fun hc => hf (M.trans _ _ _ hA hc)
  have h1 := M.out _ _ hfA
  rw [hr] at h1
  rw [← h1]
  refine M.eqv _ _ (fun x hx => M.self _ _ ?_) (fun x hx => M.self _ _ ?_)
  · rcases (hN x).mp hx with ⟨ha, hk⟩ | ha
    · refine List.mem_append_left _ (mem_swp.mpr (.inl ⟨ha, fun z => hk ?_⟩))
      rcases (hS _).mp z with z | z
      · cases z
      · rw [List.map_append]; exact List.mem_append_left _ z
    · rw [e] at ha
      rcases List.mem_cons.mp ha with rfl | ha
      · simp
      · exact List.mem_append_left _ (mem_swp.mpr (.inr ((hL' x).mpr ha)))
  · rcases List.mem_append.mp hx with hx | hx
    · rcases mem_swp.mp hx with ⟨ha, hk⟩ | ha
      · refine (hN x).mpr (.inl ⟨ha, fun z => ?_⟩)
        rw [List.map_append] at z
        rcases List.mem_append.mp z with z | z
        · exact hk ((hS _).mpr (.inr z))
        · simp at z
          exact hy (z ▸ List.mem_map_of_mem ha)
      · exact (hN x).mpr (.inr (by rw [e]; exact .tail _ ((hL' x).mp ha)))
    · rw [List.mem_singleton.mp hx]
      exact (hN f).mpr (.inr (by rw [e]; exact .head _))

/-! the held ones, when a row is stored -/
def put (kind : Nat → Nat) (K : List Nat) (n : Nat) : List Nat := (K.filter fun a => decide (kind a ≠ kind n)) ++ [n]
theorem put_fold : ∀ (p K : List Nat), (p.map kind).Nodup → p.foldl (put kind) K = (K.filter fun a => decide (kind a ∉ p.map kind)) ++ p
  | [], K, _ => by
    have : (K.filter fun a => decide (kind a ∉ ([] : List Nat).map kind)) = K := List.filter_eq_self.mpr fun a _ => by simp
    rw [this]; simp
  | n :: p, K, h => by
    rw [List.map_cons, List.nodup_cons] at h
    rw [List.foldl_cons, put_fold p _ h.2, put, List.filter_append, List.filter_filter]
    have h1 : ([n].filter fun a => decide (kind a ∉ p.map kind)) = [n] := by
      rw [List.filter_cons, if_pos (by simpa using h.1)]; rfl
    rw [h1, List.append_assoc]
    refine congrArg (· ++ (n :: p)) (List.filter_congr fun a _ => ?_)
    simp only [List.map_cons, List.mem_cons, not_or]
    by_cases e : kind a = kind n <;> simp [e]

structure Good (r : List Nat → Nat) (kind : Nat → Nat) (K : List Nat) : Prop where
  lt : ∀ n ∈ K, n < 7
  kinds : (K.map kind).Nodup
  indep : r K = K.length

theorem Good.grow (M : Mat cl r) (G : Good r kind K) {q : List Nat} {y : Nat} (h : VP cl kind K q y) (hlt : ∀ x ∈ q ++ [y], x < 7) (hy : kind y ∉ K.map kind) :
    Good r kind ((q ++ [y]).foldl (put kind) K) ∧ ((q ++ [y]).foldl (put kind) K).length = K.length + 1 := by
  obtain ⟨hk, hin⟩ := h.kinds G.kinds
  have hnd : ((q ++ [y]).map kind).Nodup := by
    rw [List.map_append, List.nodup_append]
    refine ⟨hk, by simp, ?_⟩
    intro u hu v hv e
    simp only [List.map_cons, List.map_nil, List.mem_singleton] at hv
    obtain ⟨x, hx, rfl⟩ := List.mem_map.mp hu
    exact hy (hv ▸ e ▸ hin x hx)
  have hf := put_fold (q ++ [y]) K hnd
  rw [hf]
  have hr := h.grow M G.kinds G.indep hy (N := (K.filter fun a => decide (kind a ∉ (q ++ [y]).map kind)) ++ (q ++ [y])) (fun a => by simp)
  have hlen : ((K.filter fun a => decide (kind a ∉ (q ++ [y]).map kind)) ++ (q ++ [y])).length = K.length + 1 := by
    have h1 := filter_split (fun a => decide (kind a ∉ (q ++ [y]).map kind)) K
    have h2 : (K.filter fun a => !decide (kind a ∉ (q ++ [y]).map kind)).length = q.length := by
      have := nodup_eq (l := (K.filter fun a => !decide (kind a ∉ (q ++ [y]).map kind)).map kind) (l' := q.map kind)
        (G.kinds.sublist (List.Sublist.map _ (List.filter_sublist))) hk (fun k => by
          constructor
          · intro hh
            obtain ⟨a, ha, rfl⟩ := List.mem_map.mp hh
            obtain ⟨ha, hb⟩ := List.mem_filter.mp ha
            have hb : kind a ∈ (q ++ [y]).map kind := by simpa using hb
            rw [List.map_append] at hb
            rcases List.mem_append.mp hb with hb | hb
            · exact hb
            · simp only [List.map_cons, List.map_nil, List.mem_singleton] at hb
              exact absurd (hb ▸ List.mem_map_of_mem ha) hy
          · intro hh
            obtain ⟨x, hx, rfl⟩ := List.mem_map.mp hh
            obtain ⟨a, ha, e⟩ := List.mem_map.mp (hin x hx)
            rw [← e]
            refine List.mem_map_of_mem (List.mem_filter.mpr ⟨ha, ?_⟩)
            have : kind a ∈ (q ++ [y]).map kind := by rw [e]; exact List.mem_map_of_mem (List.mem_append_left _ hx)
            simpa using this)
      simpa using this
    rw [List.length_append, List.length_append]
    simp only [List.length_cons, List.length_nil]
    omega
  refine ⟨⟨fun n hn => ?_, ?_, by rw [hr, hlen]⟩, hlen⟩
  · rcases List.mem_append.mp hn with hn | hn
    · exact G.lt n (List.mem_filter.mp hn).1
    · exact hlt n hn
  · rw [List.map_append, List.nodup_append]
    refine ⟨G.kinds.sublist (List.Sublist.map _ List.filter_sublist), hnd, ?_⟩
    intro u hu v hv e
    obtain ⟨a, ha, rfl⟩ := List.mem_map.mp hu
    have := (List.mem_filter.mp ha).2
    exact (of_decide_eq_true this) (e ▸ hv)

/-! the search -/
/-- y was taken off the heap, and the row went on -/
def Exp (cl : List Nat → Nat → Prop) (kind : Nat → Nat) (K met : List Nat) (y : Nat) : Prop := ∃ z ∈ K, kind z = kind y ∧ ∀ n, n < 7 → n ∉ K → n ∉ met → cl (rem K z) n
theorem Exp.more {met met' : List Nat} {y : Nat} (h : Exp cl kind K met y) (s : ∀ x ∈ met, x ∈ met') : Exp cl kind K met' y :=
  let ⟨z, hz, e, k⟩ := h; ⟨z, hz, e, fun n h1 h2 h3 => k n h1 h2 fun q => h3 (s n q)⟩

structure Inv (cl : List Nat → Nat → Prop) (kind : Nat → Nat) (K met : List Nat) (Hp : List Nat → Prop) : Prop where
  nd : met.Nodup
  lt : ∀ n ∈ met, n < 7
  out : ∀ n ∈ met, n ∉ K
  rest : ∀ n, n < 7 → n ∉ K → n ∉ met → cl K n
  each : ∀ y ∈ met, (∃ q, Hp (q ++ [y])) ∨ Exp cl kind K met y
  path : ∀ p, Hp p → ∃ q y, p = q ++ [y] ∧ VP cl kind K q y ∧ (∀ x ∈ q ++ [y], x ∈ met) ∧ (∀ x ∈ q, Exp cl kind K met x) ∧ p.length ≤ met.length

theorem Inv.size {met : List Nat} {Hp : List Nat → Prop} (I : Inv cl kind K met Hp) : met.length ≤ 7 := by
  have := nodup_le I.nd (l' := List.range 7) fun x hx => List.mem_range.mpr (I.lt x hx)
  simpa using this

theorem Inv.start (M : Mat cl r) {met : List Nat} {Hp : List Nat → Prop} (hnd : met.Nodup) (hmet : ∀ n, n ∈ met ↔ n < 7 ∧ ¬ cl K n) (hH : ∀ p, Hp p ↔ ∃ n ∈ met, p = [n]) : Inv cl kind K met Hp where
  nd := hnd
  lt := fun n hn => ((hmet n).mp hn).1
  out := fun n hn hk => ((hmet n).mp hn).2 (M.self _ _ hk)
  rest := fun n h1 h2 h3 => Classical.byContradiction fun hc => h3 ((hmet n).mpr ⟨h1, hc⟩)
  each := fun y hy => .inl ⟨[], (hH _).mpr ⟨y, hy, rfl⟩⟩
  path := fun p hp => by
    obtain ⟨n, hn, rfl⟩ := (hH p).mp hp
    refine ⟨[], n, rfl, .one n (fun hk => ((hmet n).mp hn).2 (M.self _ _ hk)) ((hmet n).mp hn).2, by simpa using hn, (fun _ q => nomatch q), ?_⟩
    have := List.length_pos_of_mem hn
    exact this

/-- the row q, y goes on -/
theorem Inv.go (M : Mat cl r) {met news : List Nat} {Hp Hp' Hp'' : List Nat → Prop} {q : List Nat} {y z : Nat} (I : Inv cl kind K met Hp) (hK : (K.map kind).Nodup) (h1 : ∀ p, Hp p ↔ p = q ++ [y] ∨ Hp' p) (hz : z ∈ K) (e : kind z = kind y)
    (hn : ∀ n, n ∈ news ↔ n < 7 ∧ n ∉ K ∧ n ∉ met ∧ ¬ cl (rem K z) n) (hnd : news.Nodup) (h2 : ∀ p, Hp'' p ↔ Hp' p ∨ ∃ n ∈ news, p = q ++ [y] ++ [n]) : Inv cl kind K (met ++ news) Hp'' := by
  have hsub : ∀ x ∈ met, x ∈ met ++ news := fun x hx => List.mem_append_left _ hx
  obtain ⟨q0, y0, e0, hv, hm, hx, hl⟩ := I.path _ ((h1 _).mpr (.inl rfl))
  obtain ⟨eq0, e0⟩ := List.append_inj' e0 rfl
  cases e0
  subst eq0
  have hy : Exp cl kind K (met ++ news) y := ⟨z, hz, e, fun n a b c => Classical.byContradiction fun hc => c (List.mem_append_right _ ((hn n).mpr ⟨a, b, fun w => c (hsub n w), hc⟩))⟩
  refine ⟨?_, fun n h => ?_, fun n h => ?_, fun n a b c => I.rest n a b fun w => c (hsub n w), fun u hu => ?_, fun p hp => ?_⟩
  · rw [List.nodup_append]
    refine ⟨I.nd, hnd, fun a ha b hb eab => ?_⟩
    subst eab
    exact ((hn a).mp hb).2.2.1 ha
  · rcases List.mem_append.mp h with h | h
    · exact I.lt n h
    · exact ((hn n).mp h).1
  · rcases List.mem_append.mp h with h | h
    · exact I.out n h
    · exact ((hn n).mp h).2.1
  · rcases List.mem_append.mp hu with hu | hu
    · rcases I.each u hu with ⟨q', hq'⟩ | hq'
      · rcases (h1 _).mp hq' with eq | hq'
        · obtain ⟨eq1, e1⟩ := List.append_inj' eq rfl
          cases e1
          exact .inr hy
        · exact .inl ⟨q', (h2 _).mpr (.inl hq')⟩
      · exact .inr (hq'.more hsub)
    · exact .inl ⟨q ++ [y], (h2 _).mpr (.inr ⟨u, hu, rfl⟩)⟩
  · rcases (h2 p).mp hp with hp | ⟨n, hnn, rfl⟩
    · obtain ⟨q', y', rfl, a, b, c, d⟩ := I.path p ((h1 p).mpr (.inr hp))
      exact ⟨q', y', rfl, a, fun x hx => hsub x (b x hx), fun x hx => (c x hx).more hsub, by rw [List.length_append (as := met)]; omega⟩
    · obtain ⟨n1, n2, n3, n4⟩ := (hn n).mp hnn
      refine ⟨q ++ [y], n, rfl, .snoc q y n z hv hz e n2 (I.rest n n1 n2 n3) n4 (fun x hxq => ?_), fun x hxq => ?_, fun x hxq => ?_, ?_⟩
      · obtain ⟨z', hz', e', k'⟩ := hx x hxq
        exact ⟨z', hz', e', k' n n1 n2 n3⟩
      · rcases List.mem_append.mp hxq with hxq | hxq
        · exact hsub x (hm x hxq)
        · rw [List.mem_singleton.mp hxq]; exact List.mem_append_right _ hnn
      · rcases List.mem_append.mp hxq with hxq | hxq
        · exact (hx x hxq).more hsub
        · rw [List.mem_singleton.mp hxq]; exact hy
      · have := List.length_pos_of_mem hnn
        simp only [List.length_append, List.length_cons, List.length_nil] at hl ⊢
        omega

/-! the end -/
/-- the held ones of the kinds outside Z tie all that those kinds tie -/
theorem rem_many (M : Mat cl r) (hi : r K = K.length) {n : Nat} (h0 : cl K n) : ∀ Z : List Nat, (∀ z ∈ Z, z ∈ K ∧ cl (rem K z) n) → cl (K.filter fun a => decide (a ∉ Z)) n
  | [], _ => by
    have : (K.filter fun a => decide (a ∉ ([] : List Nat))) = K := List.filter_eq_self.mpr fun a _ => by simp
    rw [this]; exact h0
  | z :: Z, h => by
    have ih := rem_many M hi h0 Z fun z hz => h z (.tail _ hz)
    obtain ⟨hz, hc⟩ := h z (.head _)
    apply Classical.byContradiction
    intro hn
    have h1 : cl ((K.filter fun a => decide (a ∉ z :: Z)) ++ [z]) n := M.mono (fun a ha => by
      obtain ⟨ha, hb⟩ := List.mem_filter.mp ha
      have hb : a ∉ Z := by simpa using hb
      by_cases e : a = z
      · simp [e]
      · exact List.mem_append_left _ (List.mem_filter.mpr ⟨ha, by simp [e, hb]⟩)) ih
    have h2 := M.exch h1 hn
    refine M.indep hi hz (M.trans _ _ _ (fun a ha => ?_) h2)
    rcases List.mem_append.mp ha with ha | ha
    · obtain ⟨ha, hb⟩ := List.mem_filter.mp ha
      have hb : a ≠ z ∧ a ∉ Z := by simpa using hb
      exact M.self _ _ (mem_rem.mpr ⟨ha, hb.1⟩)
    · rw [List.mem_singleton.mp ha]; exact hc

theorem Inv.fin (M : Mat cl r) (G : Good r kind K) {met : List Nat} {Hp : List Nat → Prop} (I : Inv cl kind K met Hp) (h : ∀ p, ¬ Hp p) :
    ∃ Z : List Nat, Z.Nodup ∧ (∀ k ∈ Z, k ∈ K.map kind) ∧ ∀ T : List Nat, (∀ n, n ∈ T ↔ n < 7 ∧ kind n ∉ Z) → K.length = Z.length + r T := by
  have hE : ∀ y ∈ met, Exp cl kind K met y := fun y hy => (I.each y hy).elim (fun ⟨q, hq⟩ => absurd hq (h _)) id
  refine ⟨(K.filter fun a => decide (kind a ∈ met.map kind)).map kind, G.kinds.sublist (List.Sublist.map _ List.filter_sublist), fun k hk => ?_, fun T hT => ?_⟩
  · obtain ⟨a, ha, rfl⟩ := List.mem_map.mp hk
    exact List.mem_map_of_mem (List.mem_filter.mp ha).1
  · have hZ : ∀ k, k ∈ (K.filter fun a => decide (kind a ∈ met.map kind)).map kind ↔ k ∈ met.map kind := fun k => by
      constructor
      · intro hk
        obtain ⟨a, ha, rfl⟩ := List.mem_map.mp hk
        exact of_decide_eq_true (List.mem_filter.mp ha).2
      · intro hk
        obtain ⟨y, hy, rfl⟩ := List.mem_map.mp hk
        obtain ⟨z, hz, e, _⟩ := hE y hy
        rw [← e]
        exact List.mem_map_of_mem (List.mem_filter.mpr ⟨hz, decide_eq_true (e ▸ hk)⟩)
    have hs := filter_split (fun a => decide (kind a ∈ met.map kind)) K
    have hr : r T = (K.filter fun a => !decide (kind a ∈ met.map kind)).length := by
      rw [← M.sub G.indep]
      refine M.eqv _ _ (fun n hn => ?_) (fun n hn => M.self _ _ ?_)
      · obtain ⟨h1, h2⟩ := (hT n).mp hn
        rw [hZ] at h2
        by_cases hk : n ∈ K
        · exact M.self _ _ (List.mem_filter.mpr ⟨hk, by simpa using h2⟩)
        · have hnm : n ∉ met := fun w => h2 (List.mem_map_of_mem w)
          have := rem_many M G.indep (I.rest n h1 hk hnm) (K.filter fun a => decide (kind a ∈ met.map kind)) fun z hz => by
            obtain ⟨hz, hm⟩ := List.mem_filter.mp hz
            obtain ⟨y, hy, e⟩ := List.mem_map.mp (of_decide_eq_true hm)
            obtain ⟨z', hz', e', k'⟩ := hE y hy
            have : z' = z := kind_inj G.kinds hz' hz (e'.trans e)
            subst this
            exact ⟨hz', k' n h1 hk hnm⟩
          refine M.mono (fun a ha => ?_) this
          obtain ⟨ha, hb⟩ := List.mem_filter.mp ha
          refine List.mem_filter.mpr ⟨ha, ?_⟩
          have hb := of_decide_eq_true hb
          have : ¬ kind a ∈ met.map kind := fun w => hb (List.mem_filter.mpr ⟨ha, decide_eq_true w⟩)
          simpa using this
      · obtain ⟨ha, hb⟩ := List.mem_filter.mp hn
        refine (hT n).mpr ⟨G.lt n ha, ?_⟩
        rw [hZ]
        simpa using hb
    rw [hr, List.length_map]
    omega

/-- no net of unlike kinds has more -/
theorem Good.weak (M : Mat cl r) (G : Good r kind K) {Z T : List Nat} (hT : ∀ n, n < 7 → kind n ∉ Z → n ∈ T) : K.length ≤ Z.length + r T := by
  have hs := filter_split (fun a => decide (kind a ∈ Z)) K
  have h1 : ((K.filter fun a => decide (kind a ∈ Z)).map kind).length ≤ Z.length := nodup_le (G.kinds.sublist (List.Sublist.map _ List.filter_sublist)) fun k hk => by
    obtain ⟨a, ha, rfl⟩ := List.mem_map.mp hk
    exact of_decide_eq_true (List.mem_filter.mp ha).2
  have h2 : r (K.filter fun a => !decide (kind a ∈ Z)) ≤ r T := M.le fun a ha => by
    obtain ⟨ha, hb⟩ := List.mem_filter.mp ha
    exact M.self _ _ (hT a (G.lt a ha) (by simpa using hb))
  rw [M.sub G.indep] at h2
  rw [List.length_map] at h1
  omega
end
end Mine

end

section
open PySem PySem.W PyProof.Rows PySem.Calls
namespace Mine

theorem fold_dedup_mem : ∀ (l acc : List Int) (x : Int), x ∈ l.foldl step_dedup acc ↔ x ∈ acc ∨ x ∈ l
  | [], acc, x => by simp
  | a :: l, acc, x => by
    rw [List.foldl_cons, fold_dedup_mem l]
    unfold step_dedup
    split
    · rename_i h
      have h : a ∈ acc := by simpa using h
      constructor
      · rintro (h1 | h1)
        · exact .inl h1
        · exact .inr (.tail _ h1)
      · rintro (h1 | h1)
        · exact .inl h1
        · rcases List.mem_cons.mp h1 with rfl | h1
          · exact .inl h
          · exact .inr h1
    · simp only [List.mem_append, List.mem_cons, List.not_mem_nil, or_false]
      constructor
      · rintro ((h1 | h1) | h1)
        · exact .inl h1
        · exact .inr (.inl h1)
        · exact .inr (.inr h1)
      · rintro (h1 | h1 | h1)
        · exact .inl (.inl h1)
        · exact .inl (.inr h1)
        · exact .inr h1
theorem dcount_snoc (l : List Int) (x : Int) : dcount (l ++ [x]) = dcount l + (if x ∈ l then 0 else 1) := by
  have hm := fold_dedup_mem l [] x
  simp only [List.not_mem_nil, false_or] at hm
  unfold dcount
  rw [List.foldl_append, List.foldl_cons, List.foldl_nil]
  generalize l.foldl step_dedup [] = d at hm
  unfold step_dedup
  by_cases h : x ∈ l
  · rw [if_pos h, if_pos (by simpa using hm.mpr h)]; rfl
  · rw [if_neg h, if_neg (by simpa using fun q => h (hm.mp q))]; simp

/-- as many unlike ones, where the same places are alike -/
theorem dcount_same (l l' : List Int) (hl : l.length = l'.length) (h : ∀ i j, i < l.length → j < l.length → (l.getD i 0 = l.getD j 0 ↔ l'.getD i 0 = l'.getD j 0)) : ∀ k, k ≤ l.length → dcount (l.take k) = dcount (l'.take k)
  | 0, _ => rfl
  | k + 1, hk => by
    have ih := dcount_same l l' hl h k (by omega)
    have h1 : l[k]? = some (l.getD k 0) := by simp [List.getD, List.getElem?_eq_getElem (show k < l.length by omega)]
    have h2 : l'[k]? = some (l'.getD k 0) := by simp [List.getD, List.getElem?_eq_getElem (show k < l'.length by omega)]
    rw [List.take_add_one, List.take_add_one, h1, h2]
    simp only [Option.toList_some]
    rw [dcount_snoc, dcount_snoc, ih]
    have key : ∀ m : List Int, k < m.length → (m.getD k 0 ∈ m.take k ↔ ∃ j, j < k ∧ m.getD j 0 = m.getD k 0) := fun m hm => by
      constructor
      · intro hh
        obtain ⟨j, hj⟩ := List.getElem?_of_mem hh
        rw [List.getElem?_take] at hj
        split at hj
        · rename_i hjk
          exact ⟨j, hjk, by rw [List.getD, hj]; rfl⟩
        · cases hj
      · rintro ⟨j, hj, e⟩
        rw [← e]
        refine List.mem_of_getElem? (i := j) ?_
        rw [List.getElem?_take, if_pos hj]
        simp [List.getD, List.getElem?_eq_getElem (show j < m.length by omega)]
    have : (l.getD k 0 ∈ l.take k) ↔ (l'.getD k 0 ∈ l'.take k) := by
      rw [key l (by omega), key l' (by omega)]
      constructor
      · rintro ⟨j, hj, e⟩; exact ⟨j, hj, (h j k (by omega) (by omega)).mp e⟩
      · rintro ⟨j, hj, e⟩; exact ⟨j, hj, (h j k (by omega) (by omega)).mpr e⟩
    by_cases hh : l.getD k 0 ∈ l.take k
    · rw [if_pos hh, if_pos (this.mp hh)]
    · rw [if_neg hh, if_neg fun q => hh (this.mpr q)]

theorem dcount_le (l : List Int) : dcount l ≤ l.length := by have := dedup_len l []; simpa [dcount] using this

def lab (ts : List (Nat × Nat)) (u : Nat) : Nat := (tied ts).getD u 0
theorem step_lab {m : List Nat} {t : Nat × Nat} {u : Nat} (h : u < m.length) : (stepT m t).getD u 0 = if m.getD u 0 = m.getD t.1 0 then m.getD t.2 0 else m.getD u 0 := by
  simp only [stepT, List.getD, List.getElem?_map, List.getElem?_eq_getElem h]
  rfl
theorem lab_snoc (ts : List (Nat × Nat)) (t : Nat × Nat) : tied (ts ++ [t]) = stepT (tied ts) t := by
  unfold tied; rw [List.foldl_append]; rfl
theorem fold_const : ∀ (ts : List (Nat × Nat)) (m : List Nat), m.length = 5 → ∀ u v, u < 5 → v < 5 → m.getD u 0 = m.getD v 0 → (ts.foldl stepT m).getD u 0 = (ts.foldl stepT m).getD v 0
  | [], m, _, u, v, _, _, h => h
  | t :: ts, m, hm, u, v, hu, hv, h => by
    rw [List.foldl_cons]
    refine fold_const ts _ (by rw [stepT_length, hm]) u v hu hv ?_
    rw [step_lab (by omega), step_lab (by omega), h]
theorem fold_self : ∀ (ts : List (Nat × Nat)) (m : List Nat), m.length = 5 → (∀ t ∈ ts, t.1 < 5 ∧ t.2 < 5) → ∀ t ∈ ts, (ts.foldl stepT m).getD t.1 0 = (ts.foldl stepT m).getD t.2 0
  | t :: ts, m, hm, h5, s, hs => by
    rw [List.foldl_cons]
    have hm' : (stepT m t).length = 5 := by rw [stepT_length, hm]
    rcases List.mem_cons.mp hs with rfl | hs
    · obtain ⟨h1, h2⟩ := h5 s (.head _)
      refine fold_const ts _ hm' _ _ h1 h2 ?_
      rw [step_lab (by omega), step_lab (by omega), if_pos rfl]
      split <;> rfl
    · exact fold_self ts _ hm' (fun t ht => h5 t (.tail _ ht)) s hs
theorem fold_finest (f : Nat → Nat) : ∀ (ts : List (Nat × Nat)) (m : List Nat), m.length = 5 → (∀ t ∈ ts, t.1 < 5 ∧ t.2 < 5) → (∀ t ∈ ts, f t.1 = f t.2) → (∀ u v, u < 5 → v < 5 → m.getD u 0 = m.getD v 0 → f u = f v) →
    ∀ u v, u < 5 → v < 5 → (ts.foldl stepT m).getD u 0 = (ts.foldl stepT m).getD v 0 → f u = f v
  | [], m, _, _, _, h, u, v, hu, hv, e => h u v hu hv e
  | t :: ts, m, hm, h5, hf, h, u, v, hu, hv, e => by
    rw [List.foldl_cons] at e
    obtain ⟨h1, h2⟩ := h5 t (.head _)
    refine fold_finest f ts _ (by rw [stepT_length, hm]) (fun t ht => h5 t (.tail _ ht)) (fun t ht => hf t (.tail _ ht)) (fun u v hu hv e => ?_) u v hu hv e
    rw [step_lab (by omega), step_lab (by omega)] at e
    have ht := hf t (.head _)
    split at e
    · rename_i e1
      have a1 := h u t.1 hu h1 e1
      split at e
      · rename_i e2
        exact a1.trans (h v t.1 hv h1 e2).symm
      · exact a1.trans (ht.trans (h t.2 v h2 hv e))
    · split at e
      · rename_i e2
        exact ((h u t.2 hu h2 e).trans ht.symm).trans (h v t.1 hv h1 e2).symm
      · exact h u v hu hv e
theorem lab_self {ts : List (Nat × Nat)} (h5 : ∀ t ∈ ts, t.1 < 5 ∧ t.2 < 5) {t : Nat × Nat} (ht : t ∈ ts) : lab ts t.1 = lab ts t.2 := fold_self ts _ rfl h5 t ht
theorem lab_finest {ts : List (Nat × Nat)} (h5 : ∀ t ∈ ts, t.1 < 5 ∧ t.2 < 5) {f : Nat → Nat} (hf : ∀ t ∈ ts, f t.1 = f t.2) {u v : Nat} (hu : u < 5) (hv : v < 5) (e : lab ts u = lab ts v) : f u = f v :=
  fold_finest f ts _ rfl h5 hf (fun u v hu hv e => by
    have : ∀ u < 5, [0, 1, 2, 3, 4].getD u 0 = u := by decide
    rw [this u hu, this v hv] at e
    rw [e]) u v hu hv e

def castL (l : List Nat) : List Int := l.map fun (x : Nat) => (x : Int)
theorem castL_getD {l : List Nat} {i : Nat} : (castL l).getD i 0 = ((l.getD i 0 : Nat) : Int) := by
  simp only [castL, List.getD, List.getElem?_map]
  cases l[i]? <;> rfl
/-- as many unlike labels -/
def lbls (ts : List (Nat × Nat)) : Nat := dcount (castL (tied ts))
def rnk (ts : List (Nat × Nat)) : Nat := 5 - lbls ts
theorem lbls_le (ts : List (Nat × Nat)) : lbls ts ≤ 5 := by
  have := dcount_le (castL (tied ts))
  rwa [castL, List.length_map, tied_length] at this
theorem lbls_pos (ts : List (Nat × Nat)) : 1 ≤ lbls ts := by
  unfold lbls
  have h : (castL (tied ts)).length = 5 := by rw [castL, List.length_map, tied_length]
  cases e : castL (tied ts) with
  | nil => rw [e] at h; cases h
  | cons a l =>
    unfold dcount
    have := (fold_dedup_mem (a :: l) [] a).mpr (.inr (.head _))
    exact List.length_pos_of_mem this
theorem ties_rnk (ts : List (Nat × Nat)) : tiesI ts = (rnk ts : Int) := by
  have := lbls_le ts
  show 5 - (lbls ts : Int) = ((5 - lbls ts : Nat) : Int)
  omega

theorem dcount_nodup (d : List Int) (h : d.Nodup) : ∀ l : List Int, (∀ x, x ∈ l ↔ x ∈ d) → dcount l = d.length := fun l hl => by
  have hnd : (l.foldl step_dedup []).Nodup := by
    have : ∀ (l acc : List Int), acc.Nodup → (l.foldl step_dedup acc).Nodup := by
      intro l
      induction l with
      | nil => intro acc h; exact h
      | cons a l ih =>
        intro acc h
        rw [List.foldl_cons]
        refine ih _ ?_
        unfold step_dedup
        split
        · exact h
        · rename_i hn
          rw [List.nodup_append]
          refine ⟨h, by simp, fun x hx y hy e => ?_⟩
          rw [List.mem_singleton.mp hy] at e
          exact hn (by simpa [e] using hx)
    exact this l [] List.nodup_nil
  have hle : ∀ {a b : List Int}, a.Nodup → (∀ x ∈ a, x ∈ b) → a.length ≤ b.length := by
    intro a
    induction a with
    | nil => intros; exact Nat.zero_le _
    | cons c t ih =>
      intro b h hs
      rw [List.nodup_cons] at h
      have hc := hs c (.head _)
      have := ih (b := b.erase c) h.2 fun x hx => (List.mem_erase_of_ne (fun e : x = c => h.1 (e ▸ hx))).mpr (hs x (.tail _ hx))
      rw [List.length_erase_of_mem hc] at this
      have := List.length_pos_of_mem hc
      simp only [List.length_cons]
      omega
  unfold dcount
  refine Nat.le_antisymm (hle hnd fun x hx => ?_) (hle h fun x hx => ?_)
  · have := (fold_dedup_mem l [] x).mp hx
    simp only [List.not_mem_nil, false_or] at this
    exact (hl x).mp this
  · exact (fold_dedup_mem l [] x).mpr (.inr ((hl x).mpr hx))

theorem lbls_out {ts : List (Nat × Nat)} {t : Nat × Nat} (h1 : t.1 < 5) (h2 : t.2 < 5) (h : lab ts t.1 ≠ lab ts t.2) : lbls (ts ++ [t]) + 1 = lbls ts := by
  unfold lbls
  rw [lab_snoc]
  have hm5 : (tied ts).length = 5 := tied_length ts
  unfold lab at h
  generalize tied ts = m at hm5 h
  -- the unlike ones
  have hd := fun x => fold_dedup_mem (castL m) [] x
  have hnd : ∃ d : List Int, d.Nodup ∧ ∀ x, x ∈ castL m ↔ x ∈ d := by
    have : ∀ l : List Int, ∃ d : List Int, d.Nodup ∧ ∀ x, x ∈ l ↔ x ∈ d := by
      intro l
      induction l with
      | nil => exact ⟨[], List.nodup_nil, fun _ => Iff.rfl⟩
      | cons a l ih =>
        obtain ⟨d, h, e⟩ := ih
        by_cases ha : a ∈ d
        · refine ⟨d, h, fun x => ?_⟩
          rw [List.mem_cons, e]
          constructor
          · rintro (rfl | h)
            · exact ha
            · exact h
          · exact .inr
        · exact ⟨a :: d, List.nodup_cons.mpr ⟨ha, h⟩, fun x => by rw [List.mem_cons, List.mem_cons, e]⟩
    exact this _
  obtain ⟨d, hnd, he⟩ := hnd
  rw [dcount_nodup d hnd _ he]
  have hA : ((m.getD t.1 0 : Nat) : Int) ∈ d := (he _).mp (List.mem_map.mpr ⟨_, getD_mem (by omega), rfl⟩)
  have hB : ((m.getD t.2 0 : Nat) : Int) ∈ d := (he _).mp (List.mem_map.mpr ⟨_, getD_mem (by omega), rfl⟩)
  rw [dcount_nodup (d.erase ((m.getD t.1 0 : Nat) : Int)) (hnd.erase _) _ fun x => ?_]
  · rw [List.length_erase_of_mem hA]
    have := List.length_pos_of_mem hA
    omega
  · rw [hnd.mem_erase_iff]
    constructor
    · intro hx
      obtain ⟨y, hy, rfl⟩ := List.mem_map.mp hx
      obtain ⟨z, hz, rfl⟩ := List.mem_map.mp hy
      split
      · exact ⟨fun q => h (by omega), hB⟩
      · rename_i hne
        exact ⟨fun q => hne (by omega), (he _).mp (List.mem_map.mpr ⟨z, hz, rfl⟩)⟩
    · rintro ⟨hne, hx⟩
      obtain ⟨z, hz, rfl⟩ := List.mem_map.mp ((he _).mpr hx)
      refine List.mem_map.mpr ⟨z, List.mem_map.mpr ⟨z, hz, ?_⟩, rfl⟩
      rw [if_neg fun q => hne (by rw [q])]
theorem tied_inn {ts : List (Nat × Nat)} {t : Nat × Nat} (h : lab ts t.1 = lab ts t.2) : tied (ts ++ [t]) = tied ts := by
  rw [lab_snoc]
  unfold lab at h
  unfold stepT
  rw [h]
  have : ∀ x ∈ tied ts, (if x = (tied ts).getD t.2 0 then (tied ts).getD t.2 0 else x) = x := fun x _ => by split <;> simp_all
  rw [List.map_congr_left this, List.map_id']

section
variable (E : Nat → Nat × Nat)
def clE (T : List Nat) (x : Nat) : Prop := lab (T.map E) (E x).1 = lab (T.map E) (E x).2
def rE (T : List Nat) : Nat := rnk (T.map E)
theorem matE (h5 : ∀ n, (E n).1 < 5 ∧ (E n).2 < 5) : Mat (clE E) (rE E) where
  self := fun T x hx => lab_self (fun t ht => by obtain ⟨n, _, rfl⟩ := List.mem_map.mp ht; exact h5 n) (List.mem_map_of_mem hx)
  trans := fun T T' x h hx => lab_finest (ts := T.map E) (fun t ht => by obtain ⟨n, _, rfl⟩ := List.mem_map.mp ht; exact h5 n) (f := lab (T'.map E)) (fun t ht => by
    obtain ⟨n, hn, rfl⟩ := List.mem_map.mp ht; exact h n hn) (h5 x).1 (h5 x).2 hx
  nil := show 5 - dcount (castL (tied [])) = 0 by decide
  inn := fun T x h => by
    unfold rE rnk lbls
    rw [List.map_append, List.map_cons, List.map_nil, tied_inn h]
  out := fun T x h => by
    unfold rE rnk
    rw [List.map_append, List.map_cons, List.map_nil]
    have h1 := lbls_out (ts := T.map E) (h5 x).1 (h5 x).2 h
    have h2 := lbls_le (T.map E)
    have h3 := lbls_pos (T.map E ++ [E x])
    omega
  eqv := fun T T' h h' => by
    have g5 : ∀ T : List Nat, ∀ t ∈ T.map E, t.1 < 5 ∧ t.2 < 5 := fun T t ht => by obtain ⟨n, _, rfl⟩ := List.mem_map.mp ht; exact h5 n
    have key : ∀ T T' : List Nat, (∀ y ∈ T, clE E T' y) → ∀ u v, u < 5 → v < 5 → lab (T.map E) u = lab (T.map E) v → lab (T'.map E) u = lab (T'.map E) v := fun T T' h u v hu hv e =>
      lab_finest (g5 T) (f := lab (T'.map E)) (fun t ht => by obtain ⟨n, hn, rfl⟩ := List.mem_map.mp ht; exact h n hn) hu hv e
    unfold rE rnk lbls
    have l1 : (castL (tied (T.map E))).length = 5 := by rw [castL, List.length_map, tied_length]
    have l2 : (castL (tied (T'.map E))).length = 5 := by rw [castL, List.length_map, tied_length]
    have := dcount_same (castL (tied (T.map E))) (castL (tied (T'.map E))) (l1.trans l2.symm) (fun i j hi hj => by
      rw [castL_getD, castL_getD, castL_getD, castL_getD]
      constructor
      · intro e
        have := key T T' h i j (by omega) (by omega) (by unfold lab; omega)
        unfold lab at this
        omega
      · intro e
        have := key T' T h' i j (by omega) (by omega) (by unfold lab; omega)
        unfold lab at this
        omega) 5 (by omega)
    rw [List.take_of_length_le (by omega), List.take_of_length_le (by omega)] at this
    rw [this]
end
end Mine

end

section
open PySem PySem.W PyProof.Rows PySem.Calls
namespace Mine
/-- kinds left out, by a mask -/
def maskZ (mask : Nat) : List Nat := (List.range 5).filter fun k => decide (bitN mask k = 1)
theorem bit_two (m k : Nat) : bitN m k = 0 ∨ bitN m k = 1 := by unfold bitN; omega
theorem sum_bits (f : Nat → Nat) (h : ∀ k, f k = 0 ∨ f k = 1) : ∀ l : List Nat, ((l.map f).map fun (x : Nat) => (x : Int)).sum = ((l.filter fun k => decide (f k = 1)).length : Int)
  | [] => rfl
  | k :: l => by
    have ih := sum_bits f h l
    simp only [List.map_cons, List.sum_cons, List.filter_cons]
    rcases h k with e | e
    · rw [ih, if_neg (by simp [e]), e]; simp
    · rw [ih, if_pos (by simp [e]), e]; simp; omega
def maskB (b0 b1 b2 b3 b4 : Bool) : Nat := b0.toNat + 2 * b1.toNat + 4 * b2.toNat + 8 * b3.toNat + 16 * b4.toNat
theorem mask_of (p : Nat → Bool) : ∃ m < 32, ∀ k < 5, (bitN m k = 1 ↔ p k = true) := by
  have key : ∀ b0 b1 b2 b3 b4 : Bool, maskB b0 b1 b2 b3 b4 < 32 ∧ (bitN (maskB b0 b1 b2 b3 b4) 0 = 1 ↔ b0 = true) ∧ (bitN (maskB b0 b1 b2 b3 b4) 1 = 1 ↔ b1 = true) ∧ (bitN (maskB b0 b1 b2 b3 b4) 2 = 1 ↔ b2 = true) ∧ (bitN (maskB b0 b1 b2 b3 b4) 3 = 1 ↔ b3 = true) ∧ (bitN (maskB b0 b1 b2 b3 b4) 4 = 1 ↔ b4 = true) := by decide
  obtain ⟨hm, h0, h1, h2, h3, h4⟩ := key (p 0) (p 1) (p 2) (p 3) (p 4)
  refine ⟨_, hm, fun k hk => ?_⟩
  match k, hk with
  | 0, _ => exact h0
  | 1, _ => exact h1
  | 2, _ => exact h2
  | 3, _ => exact h3
  | 4, _ => exact h4

section
variable {E : Nat → Nat × Nat} {kind : Nat → Nat} {ends : List (Nat × Nat)} {kinds : List Nat}
theorem size_mask (hE : ∀ n < 7, ends.getD n (0, 0) = E n) (hK : ∀ n < 7, kinds.getD n 0 = kind n) (mask : Nat) :
    sizeI ends kinds mask = ((maskZ mask).length : Int) + (rE E ((List.range 7).filter fun n => decide (bitN mask (kind n) = 0)) : Int) := by
  unfold sizeI
  have h1 : outL ends kinds mask = ((List.range 7).filter fun n => decide (bitN mask (kind n) = 0)).map E := by
    unfold outL
    have e1 : ((List.range 7).filter fun n => decide (bitN mask (kinds.getD n 0) = 0)) = (List.range 7).filter fun n => decide (bitN mask (kind n) = 0) :=
      List.filter_congr fun n hn => by rw [hK n (List.mem_range.mp hn)]
    rw [e1]
    exact List.map_congr_left fun n hn => hE n (List.mem_range.mp (List.mem_filter.mp hn).1)
  rw [h1, ties_rnk]
  have h2 : ((leftL mask).map fun (x : Nat) => (x : Int)).sum = ((maskZ mask).length : Int) := sum_bits (bitN mask) (bit_two mask) (List.range 5)
  rw [h2]
  rfl

theorem final_le (h5 : ∀ n, (E n).1 < 5 ∧ (E n).2 < 5) (hk5 : ∀ n, kind n < 5) (hE : ∀ n < 7, ends.getD n (0, 0) = E n) (hK : ∀ n < 7, kinds.getD n 0 = kind n) {K : List Nat} (G : Good (rE E) kind K) :
    ∀ x ∈ (List.range 32).map (sizeI ends kinds), (K.length : Int) ≤ x := fun x hx => by
  obtain ⟨mask, _, rfl⟩ := List.mem_map.mp hx
  rw [size_mask hE hK]
  have := G.weak (matE E h5) (Z := maskZ mask) (T := (List.range 7).filter fun n => decide (bitN mask (kind n) = 0)) fun n hn hz => by
    refine List.mem_filter.mpr ⟨List.mem_range.mpr hn, ?_⟩
    have : bitN mask (kind n) ≠ 1 := fun e => hz (List.mem_filter.mpr ⟨List.mem_range.mpr (hk5 n), decide_eq_true e⟩)
    rcases bit_two mask (kind n) with e | e
    · exact decide_eq_true e
    · exact absurd e this
  omega
theorem final_mem (h5 : ∀ n, (E n).1 < 5 ∧ (E n).2 < 5) (hk5 : ∀ n, kind n < 5) (hE : ∀ n < 7, ends.getD n (0, 0) = E n) (hK : ∀ n < 7, kinds.getD n 0 = kind n) {K : List Nat} (G : Good (rE E) kind K)
    {met : List Nat} {Hp : List Nat → Prop} (I : Inv (clE E) kind K met Hp) (h : ∀ p, ¬ Hp p) : (K.length : Int) ∈ (List.range 32).map (sizeI ends kinds) := by
  obtain ⟨Z, hZ, hZK, hT⟩ := I.fin (matE E h5) G h
  obtain ⟨m, hm, hb⟩ := mask_of fun k => decide (k ∈ Z)
  have hb : ∀ k < 5, (bitN m k = 1 ↔ k ∈ Z) := fun k hk => by rw [hb k hk]; simp
  have h5Z : ∀ k ∈ Z, k < 5 := fun k hk => by
    obtain ⟨a, _, rfl⟩ := List.mem_map.mp (hZK k hk)
    exact hk5 a
  refine List.mem_map.mpr ⟨m, List.mem_range.mpr hm, ?_⟩
  rw [size_mask hE hK]
  have e1 := hT ((List.range 7).filter fun n => decide (bitN m (kind n) = 0)) fun n => by
    rw [List.mem_filter, List.mem_range]
    constructor
    · rintro ⟨a, b⟩
      refine ⟨a, fun q => ?_⟩
      have := (hb _ (hk5 n)).mpr q
      have := of_decide_eq_true b
      omega
    · rintro ⟨a, b⟩
      refine ⟨a, decide_eq_true ?_⟩
      rcases bit_two m (kind n) with e | e
      · exact e
      · exact absurd ((hb _ (hk5 n)).mp e) b
  have e2 : (maskZ m).length = Z.length := nodup_eq (List.nodup_range.filter _) hZ fun k => by
    unfold maskZ
    rw [List.mem_filter, List.mem_range]
    constructor
    · rintro ⟨a, b⟩; exact (hb k a).mp (of_decide_eq_true b)
    · intro hk; exact ⟨h5Z k hk, decide_eq_true ((hb k (h5Z k hk)).mpr hk)⟩
  rw [e2]
  omega
end
end Mine

end

section
open PySem PySem.W PyProof.Rows PySem.Calls
namespace Mine

/-- a whole number by a whole number -/
def flr (a b : Int) : UInt64 := Float64.ofFrac (decide (a < 0) != decide (b < 0)) a.natAbs b.natAbs
def redC (k s v : Nat) : UInt64 := flr (partI (13 * (k : Int)) s v 0) 1024
def greC (k s v : Nat) : UInt64 := flr (partI (13 * (k : Int)) s v 128) 1024
def bluC (k s v : Nat) : UInt64 := flr (partI (13 * (k : Int)) s v 256) 1024
def levC (s v : Nat) : Int := (v : Int) * (8 - (s : Int))
def minC (s v : Nat) : Int := min (levC s v) (32 - levC s v)
/-- the hue times 64 -/
def hueC (k s v : Nat) : UInt64 := Float64.mul (hueH (redC k s v) (greC k s v) (bluC k s v)) (Float64.ofInt 64)
def okC (k s v : Nat) : Bool :=
  let r := redC k s v
  let g := greC k s v
  let b := bluC k s v
  !Float64.isInf r && !Float64.isInf g && !Float64.isInf b &&
  !feq (mn r g b) (mx r g b) && !Float64.isZero (mx r g b) && !Float64.isZero (rngP r g b) && !Float64.isZero (denP r g b) &&
  !Float64.isInf (flr (13 * k) 64) && !Float64.isInf (flr s 4) && !Float64.isInf (flr v 4) &&
  feq (hueH r g b) (flr (13 * k) 64) && feq (satP r g b) (flr s 4) && feq (mx r g b) (flr v 4) &&
  !Float64.isInf (flr (levC s v) 32) && decide (minC s v ≠ 0) && !Float64.isInf (flr (v * s) (minC s v)) &&
  feq (litP r g b) (flr (levC s v) 32) && feq (satL r g b) (flr (v * s) (minC s v)) &&
  Float64.isFinite (hueC k s v) && !Float64.isNaN (hueC k s v) && !Float64.isInf (hueC k s v) &&
  decide ((Flt.toInt Float64.truncOf (hueC k s v)).fdiv 13 = (k : Int))
theorem ok_all : ∀ k < 5, ∀ s < 4, ∀ v < 4, okC k (s + 1) (v + 1) = true := by decide +kernel
theorem inf64 : Float64.isInf (Float64.ofInt 64) = false := by decide +kernel
end Mine

end

section
open PySem PySem.W PyProof.Rows PySem.Calls
namespace Mine

def abc (k : Nat) : Str := Txt.item "abcde" (k : Int)
theorem five {P : Nat → Prop} (h0 : P 0) (h1 : P 1) (h2 : P 2) (h3 : P 3) (h4 : P 4) : ∀ k < 5, P k := fun k hk => by
  match k, hk with
  | 0, _ => exact h0
  | 1, _ => exact h1
  | 2, _ => exact h2
  | 3, _ => exact h3
  | 4, _ => exact h4
theorem seven {P : Nat → Prop} (h0 : P 0) (h1 : P 1) (h2 : P 2) (h3 : P 3) (h4 : P 4) (h5 : P 5) (h6 : P 6) : ∀ k < 7, P k := fun k hk => by
  match k, hk with
  | 0, _ => exact h0
  | 1, _ => exact h1
  | 2, _ => exact h2
  | 3, _ => exact h3
  | 4, _ => exact h4
  | 5, _ => exact h5
  | 6, _ => exact h6
theorem abc_low : ∀ k < 5, Txt.lower (abc k) = abc k := five (by decide +kernel) (by decide +kernel) (by decide +kernel) (by decide +kernel) (by decide +kernel)
theorem abc_up : ∀ k < 5, Txt.lower (Txt.upper (abc k)) = abc k := five (by decide +kernel) (by decide +kernel) (by decide +kernel) (by decide +kernel) (by decide +kernel)
theorem abc_fit : ∀ k < 5, PySem.Builtin.Str.tooLong (abc k).length = false := five (by decide +kernel) (by decide +kernel) (by decide +kernel) (by decide +kernel) (by decide +kernel)
theorem abc_upfit : ∀ k < 5, PySem.Builtin.Str.tooLong (Txt.upper (abc k)).length = false := five (by decide +kernel) (by decide +kernel) (by decide +kernel) (by decide +kernel) (by decide +kernel)
theorem abc_inj : ∀ k < 5, ∀ j < 5, abc k = abc j → k = j := five (five (by decide +kernel) (by decide +kernel) (by decide +kernel) (by decide +kernel) (by decide +kernel)) (five (by decide +kernel) (by decide +kernel) (by decide +kernel) (by decide +kernel) (by decide +kernel))
  (five (by decide +kernel) (by decide +kernel) (by decide +kernel) (by decide +kernel) (by decide +kernel)) (five (by decide +kernel) (by decide +kernel) (by decide +kernel) (by decide +kernel) (by decide +kernel)) (five (by decide +kernel) (by decide +kernel) (by decide +kernel) (by decide +kernel) (by decide +kernel))
theorem abc_at : ∀ k : Nat, k < 5 → (Txt.charAt "abcde" (k : Int)).isSome = true := five (by decide +kernel) (by decide +kernel) (by decide +kernel) (by decide +kernel) (by decide +kernel)
theorem abc_clean (w : World) : ∀ k < 5, Clean w 85 (abc k) := five (fun t => by kernel_rfl) (fun t => by kernel_rfl) (fun t => by kernel_rfl) (fun t => by kernel_rfl) (fun t => by kernel_rfl)
theorem abc_cleanUp (w : World) : ∀ k < 5, Clean w 85 (Txt.upper (abc k)) := five (fun t => by kernel_rfl) (fun t => by kernel_rfl) (fun t => by kernel_rfl) (fun t => by kernel_rfl) (fun t => by kernel_rfl)
/-- a number's text -/
def numT (n : Nat) : Str := PySem.Str.ofString (toString (n : Int))
theorem num_clean (w : World) : ∀ n < 7, Clean w 90 (numT n) := seven (fun t => by kernel_rfl) (fun t => by kernel_rfl) (fun t => by kernel_rfl) (fun t => by kernel_rfl) (fun t => by kernel_rfl) (fun t => by kernel_rfl) (fun t => by kernel_rfl)
theorem num_int : ∀ n < 7, PySem.intText? (numT n) = some (n : Int) ∧ (numT n).length ≤ 640 := seven (by decide +kernel) (by decide +kernel) (by decide +kernel) (by decide +kernel) (by decide +kernel) (by decide +kernel) (by decide +kernel)

/-! a thread by its number -/
def xk (x : Nat) : Nat := x / 10 % 5
def xs (x : Nat) : Nat := 1 + x / 50 % 4
def xv (x : Nat) : Nat := 1 + x / 200
def bigC (k s v : Nat) : Bool := Float64.cmp (litP (redC k s v) (greC k s v) (bluC k s v)) f05 == some Ordering.gt
def nameX (x : Nat) : Str := if bigC (xk x) (xs x) (xv x) = true then Txt.upper (abc (xk x)) else abc (xk x)
theorem xk_lt (x : Nat) : xk x < 5 := Nat.mod_lt _ (by decide)
theorem ok_x {x : Nat} (h : x < 800) : okC (xk x) (xs x) (xv x) = true := by
  have := ok_all (xk x) (xk_lt x) (x / 50 % 4) (Nat.mod_lt _ (by decide)) (x / 200) (by omega)
  rw [Nat.add_comm (x / 50 % 4) 1, Nat.add_comm (x / 200) 1] at this
  exact this
theorem name_low (x : Nat) : Txt.lower (nameX x) = abc (xk x) := by
  unfold nameX
  split
  · exact abc_up _ (xk_lt x)
  · exact abc_low _ (xk_lt x)
theorem name_ok (w : World) (x : Nat) : NameOk w (nameX x) := by
  refine ⟨?_, ?_, ?_⟩
  · rw [name_low]; exact abc_fit _ (xk_lt x)
  · unfold nameX
    split
    · exact abc_cleanUp w _ (xk_lt x)
    · exact abc_clean w _ (xk_lt x)
  · rw [name_low]; exact abc_clean w _ (xk_lt x)
def pairsL : List (Nat × Nat) := [(1, 0), (2, 0), (2, 1), (3, 0), (3, 1), (3, 2), (4, 0), (4, 1), (4, 2), (4, 3)]
def endX (x : Nat) : Nat × Nat := pairsL.getD (x % 10) (0, 0)
theorem end_lt (x : Nat) : (endX x).1 < 5 ∧ (endX x).2 < 5 := by
  have : ∀ j < 10, (pairsL.getD j (0, 0)).1 < 5 ∧ (pairsL.getD j (0, 0)).2 < 5 := by decide
  exact this _ (Nat.mod_lt _ (by decide))
end Mine

end

section
open PySem PySem.W PyProof.Rows PySem.Calls
namespace Mine

structure OkF (r g b : UInt64) (k s v : Nat) : Prop where
  i1 : Float64.isInf r = false
  i2 : Float64.isInf g = false
  i3 : Float64.isInf b = false
  ne : feq (mn r g b) (mx r g b) = false
  z1 : Float64.isZero (mx r g b) = false
  z2 : Float64.isZero (rngP r g b) = false
  z3 : Float64.isZero (denP r g b) = false
  i4 : Float64.isInf (flr (13 * k) 64) = false
  i5 : Float64.isInf (flr s 4) = false
  i6 : Float64.isInf (flr v 4) = false
  e1 : feq (hueH r g b) (flr (13 * k) 64) = true
  e2 : feq (satP r g b) (flr s 4) = true
  e3 : feq (mx r g b) (flr v 4) = true
  i7 : Float64.isInf (flr (levC s v) 32) = false
  nz : minC s v ≠ 0
  i8 : Float64.isInf (flr (v * s) (minC s v)) = false
  e4 : feq (litP r g b) (flr (levC s v) 32) = true
  e5 : feq (satL r g b) (flr (v * s) (minC s v)) = true
  f1 : Float64.isFinite ((Float64.mul (hueH r g b) (Float64.ofInt 64))) = true
  f2 : Float64.isNaN ((Float64.mul (hueH r g b) (Float64.ofInt 64))) = false
  f3 : Float64.isInf ((Float64.mul (hueH r g b) (Float64.ofInt 64))) = false
  k1 : (Flt.toInt Float64.truncOf ((Float64.mul (hueH r g b) (Float64.ofInt 64)))).fdiv 13 = (k : Int)
abbrev OkC (k s v : Nat) : Prop := OkF (redC k s v) (greC k s v) (bluC k s v) k s v
theorem okC_all {k s v : Nat} (h : okC k s v = true) : OkC k s v := by
  unfold okC at h
  simp only [Bool.and_eq_true, Bool.not_eq_true', decide_eq_true_eq] at h
  obtain ⟨⟨⟨⟨⟨⟨⟨⟨⟨⟨⟨⟨⟨⟨⟨⟨⟨⟨⟨⟨⟨a1, a2⟩, a3⟩, a4⟩, a5⟩, a6⟩, a7⟩, a8⟩, a9⟩, b1⟩, b2⟩, b3⟩, b4⟩, b5⟩, b6⟩, b7⟩, b8⟩, b9⟩, c1⟩, c2⟩, c3⟩, c4⟩ := h
  exact ⟨a1, a2, a3, a4, a5, a6, a7, a8, a9, b1, b2, b3, b4, b5, b6, b7, b8, b9, c1, c2, c3, c4⟩

noncomputable def lawFd (w : World) : FuncData := match (K0 w).lookup 246 with
  | some ⟨_, _, .func fd, _⟩ => fd
  | _ => default
def lawB : List Stmt := match PySem.Challenge.pw_pg0271_01.main.body.getLast? with
  | some (.FunctionDef _ _ b _ _ _ _ _ _ _) => b
  | _ => []
def inOf : Stmt → List Stmt
  | .For _ _ b _ _ => b
  | .While _ b _ _ => b
  | _ => []
def nthS (l : List Stmt) (n : Nat) : Stmt := l.getD n (.Pass default)
noncomputable abbrev lawE (w : World) (L : Addr) : Env := callEnvC (lawFd w) L 246
theorem law_body (w : World) : (lawFd w).body = .stmts lawB := by rfl

def startL : List Int := [750, 431, 262, 613, 124, 656, 559]
def xOf (script : List Int) (n : Nat) : Nat := ((startL.getD n 0 + (pick script n 7).sum).fmod 800).toNat
theorem xOf_int (script : List Int) (n : Nat) : (startL.getD n 0 + (pick script n 7).sum).fmod 800 = (xOf script n : Int) := by
  unfold xOf
  rw [Int.toNat_of_nonneg (Int.fmod_nonneg_of_pos _ (by decide))]
theorem xOf_lt (script : List Int) (n : Nat) : xOf script n < 800 := by
  have := xOf_int script n
  have h2 := Int.fmod_lt_of_pos (startL.getD n 0 + (pick script n 7).sum) (b := 800) (by decide)
  omega
theorem fdiv_nat (x m : Nat) : (x : Int).fdiv (m : Int) = ((x / m : Nat) : Int) := by
  rw [Int.fdiv_eq_ediv_of_nonneg _ (Int.natCast_nonneg _)]; rfl
theorem fmod_nat (x m : Nat) : (x : Int).fmod (m : Int) = ((x % m : Nat) : Int) := by
  rw [Int.fmod_eq_emod_of_nonneg _ (Int.natCast_nonneg _)]; rfl
theorem bits_small : ∀ n < 40, Builtin.Int.intBits (n : Nat) ≤ 64 := by decide +kernel
theorem xs_lt (x : Nat) : xs x < 5 := by unfold xs; omega
theorem xv_lt {x : Nat} (h : x < 800) : xv x < 5 := by unfold xv; omega

section
variable {w : World} {H : Heap}

set_option maxHeartbeats 4000000 in
/-- a turn of the first loop, up to the parts -/
theorem law_t1 (G : Gl w (K0 w) H) {A : Around} (R : Room 30 A) {script : List Int} (hlen : script.length ≤ 63) {L : Addr} {i : Nat} (hi : i < 7) {s0 : Shared} {X W B : List Addr} {ρ : Env0} {τ : List (PV × Value)} {μ : Sto} {P : PQ}
    (hn : ρ "n" = some (.int i)) (h1 : ρ "script" = some (.lst (script.map PV.int))) (h2 : ρ "pairs" = some (.lst (pairsL.map edgeP))) {pE pK pN : PV} (h3 : ρ "ends" = some pE) (h4 : ρ "kinds" = some pK) (h5 : ρ "names" = some pN)
    (k : ∀ ρ', ρ' "script" = some (.lst (script.map PV.int)) → ρ' "pairs" = some (.lst (pairsL.map edgeP)) → ρ' "ends" = some pE → ρ' "kinds" = some pK → ρ' "names" = some pN →
      ρ' "x" = some (natP (xOf script i)) → ρ' "kind" = some (natP (xk (xOf script i))) → ρ' "share" = some (natP (xs (xOf script i))) → ρ' "value" = some (natP (xv (xOf script i))) → ρ' "level" = some (.int (levC (xs (xOf script i)) (xv (xOf script i)))) →
      ρ' "parts" = some (.lst ((cornL.map (partI (13 * (xk (xOf script i) : Int)) (xs (xOf script i)) (xv (xOf script i)))).map PV.int)) → Run P0 w H A ⟨lawE w L, s0, X, W, ρ', μ, τ, [], B⟩ ((inOf (nthS lawB 4)).drop 7) P) :
    Run P0 w H A ⟨lawE w L, s0, X, W, ρ, μ, τ, [], B⟩ (inOf (nthS lawB 4)) P := by
  have hx := xOf_lt script i
  generalize hxx : xOf script i = x at hx k
  have hsb := bits_small (xs x) (by have := xs_lt x; omega)
  have hvb := bits_small (xv x) (by have := xv_lt hx; omega)
  refine run_assign (p := .int (startL.getD i 0)) (Ev.m (ev_Subscript (ev_Tuple (ps := startL.map PV.int) (evl_cons (ev_int (i := 750)) (evl_cons (ev_int (i := 431)) (evl_cons (ev_int (i := 262)) (evl_cons (ev_int (i := 613)) (evl_cons (ev_int (i := 124)) (evl_cons (ev_int (i := 656)) (evl_cons (ev_int (i := 559)) evl_nil)))))))) (ev_local hn) (op_item_tup (by omega) (by omega) (getD_map (by simpa [startL] using hi))))) (able_local rfl rfl rfl) ?_
  refine run_assign (p := .int (x : Int)) (Ev.m (Ev.cast (ev_BinOp (ev_BinOp (ev_local rfl) (ev_Call_blt (ps := [.lst ((pick script i 7).map PV.int)]) (ev_builtin G rfl rfl rfl) (evl_cons (Ev.cast (ev_slice (ev_local h1) (ev_local hn) (ev_int (i := 7)) (by decide) (by simp; omega)) (congrArg PV.lst (pick_map PV.int script i 7))) evl_nil) (opn_sum R.handled)) op_add) (ev_int (i := 800)) (op_mod (by decide))) ?_)) (able_local rfl rfl rfl) ?_
  · exact congrArg PV.int ((xOf_int script i).trans (congrArg _ hxx))
  refine run_assign (p := natP (xk x)) (Ev.m (Ev.cast (ev_BinOp (ev_BinOp (ev_local rfl) (ev_int (i := 10)) (op_fdiv (by decide) (by decide))) (ev_int (i := 5)) (op_mod (by decide))) ?_)) (able_local rfl rfl rfl) ?_
  · exact congrArg PV.int ((congrArg (fun z => Int.fmod z 5) (fdiv_nat x 10)).trans (fmod_nat (x / 10) 5))
  refine run_assign (p := natP (xs x)) (Ev.m (Ev.cast (ev_BinOp (ev_int (i := 1)) (ev_BinOp (ev_BinOp (ev_local rfl) (ev_int (i := 50)) (op_fdiv (by decide) (by decide))) (ev_int (i := 4)) (op_mod (by decide))) op_add) ?_)) (able_local rfl rfl rfl) ?_
  · exact congrArg PV.int (congrArg (fun z => (1 : Int) + z) ((congrArg (fun z => Int.fmod z 4) (fdiv_nat x 50)).trans (fmod_nat (x / 50) 4)))
  refine run_assign (p := natP (xv x)) (Ev.m (Ev.cast (ev_BinOp (ev_int (i := 1)) (ev_BinOp (ev_local rfl) (ev_int (i := 200)) (op_fdiv (by decide) (by decide))) op_add) ?_)) (able_local rfl rfl rfl) ?_
  · exact congrArg PV.int (congrArg (fun z => (1 : Int) + z) (fdiv_nat x 200))
  refine run_assign (p := .int (levC (xs x) (xv x))) (Ev.m (ev_BinOp (ev_local rfl) (ev_BinOp (ev_int (i := 8)) (ev_local rfl) op_sub) (op_mul (.of_left hvb)))) (able_local rfl rfl rfl) ?_
  refine run_assign (p := .lst ((cornL.map (partI (13 * (xk x : Int)) (xs x) (xv x))).map PV.int)) (Ev.m (ev_Call_fn G rfl (parts_fn G (n := 0) (13 * (xk x : Int)) (xs x) (xv x) hsb hvb) (R.less (by omega)) (ev_global G rfl) (evl_cons (ev_BinOp (ev_int (i := 13)) (ev_local rfl) (op_mul (.of_left (by decide)))) (evl_cons (ev_local rfl) (evl_cons (ev_local rfl) evl_nil))))) (able_local rfl rfl rfl) ?_
  exact k _ h1 h2 h3 h4 h5 rfl rfl rfl rfl rfl rfl
end
end Mine

end

section
open PySem PySem.W PyProof.Rows PySem.Calls
namespace Mine
section
variable {w : World} {H : Heap}

theorem seer (w : World) : nsIn (K0 w) cStatics sharingNotToldKey = some none := by rfl

set_option maxHeartbeats 4000000 in
/-- a turn of the first loop, the colours -/
theorem law_t2 (G : Gl w (K0 w) H) (hz : H.life.known = 0) {A : Around} (R : Room 30 A) {L : Addr} {x : Nat} (hx : x < 800) {s0 : Shared} {X W B : List Addr} {ρ : Env0} {τ : List (PV × Value)} {μ : Sto} {P : PQ}
    (q6 : ρ "parts" = some (.lst ((cornL.map (partI (13 * (xk x : Int)) (xs x) (xv x))).map PV.int)))
    (k : Run P0 w H A ⟨lawE w L, s0, X, W, upd (upd (upd ρ "blue" (.flo (bluC (xk x) (xs x) (xv x)))) "green" (.flo (greC (xk x) (xs x) (xv x)))) "red" (.flo (redC (xk x) (xs x) (xv x))), μ, τ, [], B⟩ ((inOf (nthS lawB 4)).drop 8) P) :
    Run P0 w H A ⟨lawE w L, s0, X, W, ρ, μ, τ, [], B⟩ ((inOf (nthS lawB 4)).drop 7) P := by
  have O := okC_all (ok_x hx)
  refine run_assign3 (p := .flo (redC (xk x) (xs x) (xv x))) (q := .flo (greC (xk x) (xs x) (xv x))) (r := .flo (bluC (xk x) (xs x) (xv x))) R.handled (ev_Tuple (evl_cons ?e1 (evl_cons ?e2 (evl_cons ?e3 evl_nil))) (by simp)) (able_local rfl rfl rfl) (able_local rfl rfl rfl) (able_local rfl rfl rfl) k
  case e1 => exact ev_BinOp (ev_Subscript (ev_local q6) (ev_int (i := 0)) (op_item_list (by omega) (by omega) rfl)) (ev_int (i := 1024)) (op_div_ii hz (by decide) O.i1)
  case e2 => exact ev_BinOp (ev_Subscript (ev_local q6) (ev_int (i := 1)) (op_item_list (by omega) (by omega) rfl)) (ev_int (i := 1024)) (op_div_ii hz (by decide) O.i2)
  case e3 => exact ev_BinOp (ev_Subscript (ev_local q6) (ev_int (i := 2)) (op_item_list (by omega) (by omega) rfl)) (ev_int (i := 1024)) (op_div_ii hz (by decide) O.i3)

set_option maxHeartbeats 4000000 in
theorem law_t3 (G : Gl w (K0 w) H) (hz : H.life.known = 0) {A : Around} (R : Room 30 A) {L : Addr} {k s v : Nat} {r g b : UInt64} (O : OkF r g b k s v) (hvb : Builtin.Int.intBits v ≤ 64) {s0 : Shared} {X W B : List Addr} {ρ : Env0} {τ : List (PV × Value)} {μ : Sto} {P : PQ}
    {pS pP pE pK pN pX : PV} (h1 : ρ "script" = some pS) (h2 : ρ "pairs" = some pP) (h3 : ρ "ends" = some pE) (h4 : ρ "kinds" = some pK) (h5 : ρ "names" = some pN) (q1 : ρ "x" = some pX)
    (q2 : ρ "kind" = some (natP k)) (q3 : ρ "share" = some (natP s)) (q4 : ρ "value" = some (natP v)) (q5 : ρ "level" = some (.int (levC s v)))
    (q6 : ρ "red" = some (.flo r)) (q7 : ρ "green" = some (.flo g)) (q8 : ρ "blue" = some (.flo b))
    (kk : ∀ W ρ', ρ' "script" = some pS → ρ' "pairs" = some pP → ρ' "ends" = some pE → ρ' "kinds" = some pK → ρ' "names" = some pN → ρ' "x" = some pX → ρ' "kind" = some (natP k) →
      ρ' "seen" = some (.tup [.flo (hueH r g b), .flo (satP r g b), .flo (mx r g b)]) → ρ' "back" = some (.tup [.flo (hueH r g b), .flo (litP r g b), .flo (satL r g b)]) → Run P0 w H A ⟨lawE w L, s0, X, W, ρ', μ, τ, [], B⟩ ((inOf (nthS lawB 4)).drop 12) P) :
    Run P0 w H A ⟨lawE w L, s0, X, W, ρ, μ, τ, [], B⟩ ((inOf (nthS lawB 4)).drop 8) P := by
  refine run_assign (Ev.m (ev_Call_fn G rfl (hsv_fn G hz (n := 0) r g b O.ne O.z1 O.z2) (R.less (by omega)) (ev_global G rfl) (evl_cons (ev_local q6) (evl_cons (ev_local q7) (evl_cons (ev_local q8) evl_nil))))) (able_local rfl rfl rfl) ?_
  refine run_if (b := false) (evt_Compare (ev_local rfl) (ev_Tuple (ps := [.flo (flr (13 * k) 64), .flo (flr s 4), .flo (flr v 4)]) (evl_cons ?e1 (evl_cons ?e2 (evl_cons ?e3 evl_nil))) (by simp)) (op_ne_flo3 G.kin (seer w) (R.less (by omega)) O.e1 O.e2 O.e3)) (fun h => by cases h) (fun _ => run_nil fun W => ?_)
  case e1 => exact ev_BinOp (ev_BinOp (ev_int (i := 13)) (ev_local q2) (op_mul (.of_left (by decide)))) (ev_int (i := 64)) (op_div_ii hz (by decide) O.i4)
  case e2 => exact ev_BinOp (ev_local q3) (ev_int (i := 4)) (op_div_ii hz (by decide) O.i5)
  case e3 => exact ev_BinOp (ev_local q4) (ev_int (i := 4)) (op_div_ii hz (by decide) O.i6)
  refine run_assign (Ev.m (ev_Call_fn G rfl (hls_fn G hz (n := 0) r g b O.ne O.z2 O.z3) (R.less (by omega)) (ev_global G rfl) (evl_cons (ev_local q6) (evl_cons (ev_local q7) (evl_cons (ev_local q8) evl_nil))))) (able_local rfl rfl rfl) ?_
  refine run_if (b := false) (evt_Compare (ev_local rfl) (ev_Tuple (ps := [.flo (flr (13 * k) 64), .flo (flr (levC s v) 32), .flo (flr (v * s) (minC s v))]) (evl_cons ?e1 (evl_cons ?e2 (evl_cons ?e3 evl_nil))) (by simp)) (op_ne_flo3 G.kin (seer w) (R.less (by omega)) O.e1 O.e4 O.e5)) (fun h => by cases h) (fun _ => run_nil fun W => ?_)
  case e1 => exact ev_BinOp (ev_BinOp (ev_int (i := 13)) (ev_local q2) (op_mul (.of_left (by decide)))) (ev_int (i := 64)) (op_div_ii hz (by decide) O.i4)
  case e2 => exact ev_BinOp (ev_local q5) (ev_int (i := 32)) (op_div_ii hz (by decide) O.i7)
  case e3 => exact ev_BinOp (ev_BinOp (ev_local q4) (ev_local q3) (op_mul (.of_left hvb))) (ev_Call_blt (ev_builtin G rfl rfl rfl) (evl_cons (ev_local q5) (evl_cons (ev_BinOp (ev_int (i := 32)) (ev_local q5) op_sub) evl_nil)) (opn_min2 R.handled)) (op_div_ii hz O.nz O.i8)
  exact kk _ _ h1 h2 h3 h4 h5 q1 q2 rfl rfl
end
end Mine

end

section
open PySem PySem.W PyProof.Rows PySem.Calls
namespace Mine
section
variable {w : World} {H : Heap}
theorem fits5 : ∀ k : Nat, k < 5 → fitsSsize (k : Int) = true := five (by decide) (by decide) (by decide) (by decide) (by decide)

set_option maxHeartbeats 4000000 in
theorem law_t4 (G : Gl w (K0 w) H) (hz : H.life.known = 0) {A : Around} (R : Room 30 A) {L E Kd Nm : Addr} {x k s v : Nat} (hk : k < 5) {r g b : UInt64} (O : OkF r g b k s v) {nm : Str} (hnm : nm = if (Float64.cmp (litP r g b) f05 == some Ordering.gt) = true then Txt.upper (abc k) else abc k)
    {s0 : Shared} {X W B : List Addr} {ρ : Env0} {τ : List (PV × Value)} {ns ks es : List PV} (hns : ns.length ≤ 100) (hks : ks.length ≤ 100) (hes : es.length ≤ 100) {P : PQ}
    {pS : PV} (h1 : ρ "script" = some pS) (h2 : ρ "pairs" = some (.lst (pairsL.map edgeP))) (h3 : ρ "ends" = some (.ref E)) (h4 : ρ "kinds" = some (.ref Kd)) (h5 : ρ "names" = some (.ref Nm)) (q1 : ρ "x" = some (natP x)) (q2 : ρ "kind" = some (natP k))
    (q3 : ρ "seen" = some (.tup [.flo (hueH r g b), .flo (satP r g b), .flo (mx r g b)])) (q4 : ρ "back" = some (.tup [.flo (hueH r g b), .flo (litP r g b), .flo (satL r g b)]))
    (kk : ∀ ρ', ρ' "script" = some pS → ρ' "pairs" = some (.lst (pairsL.map edgeP)) → ρ' "ends" = some (.ref E) → ρ' "kinds" = some (.ref Kd) → ρ' "names" = some (.ref Nm) →
      P.nxt ρ' [(Nm, ns ++ [.str nm]), (Kd, ks ++ [natP k]), (E, es ++ [edgeP (endX x)])]) :
    Run P0 w H A ⟨lawE w L, s0, X, W, ρ, [(Nm, ns), (Kd, ks), (E, es)], τ, [], B⟩ ((inOf (nthS lawB 4)).drop 12) P := by
  refine run_assign (p := .str (abc k)) (Ev.m (ev_Subscript (ev_str (x := "abcde")) (Ev.cast (q := natP k) (ev_BinOp (ev_Call_typ (ev_builtin G rfl rfl rfl) (evl_cons (ev_BinOp (ev_Subscript (ev_local q3) (ev_int (i := 0)) (op_item_tup (by omega) (by omega) rfl)) (ev_int (i := 64)) (op_mul_fi hz inf64)) evl_nil) (opn_int_flo R.handled O.f1 O.f2 O.f3)) (ev_int (i := 13)) (op_fdiv (by decide) (by decide))) (congrArg PV.int O.k1)) (op_item_str (fits5 k hk) (abc_at k hk)))) (able_local rfl rfl rfl) ?_
  refine run_expr (μ := [(Nm, ns ++ [.str nm]), (Kd, ks), (E, es)]) (evm_append (p := .str nm) (i := 0) (a := Nm) (ev_local h5) rfl (ev_IfExp (c := (Float64.cmp (litP r g b) f05 == some Ordering.gt)) (evt_Compare (ev_Subscript (ev_local q4) (ev_int (i := 1)) (op_item_tup (by omega) (by omega) rfl)) (ev_flo hz (x := f05)) op_fgt) (fun h => ?u1) (fun h => ?u2)) (by omega)) ?_
  case u1 =>
    rw [if_pos h] at hnm
    exact Ev.cast (ev_upper (ev_local rfl) rfl (abc_upfit k hk)) (congrArg PV.str hnm.symm)
  case u2 =>
    rw [if_neg (by rw [h]; decide)] at hnm
    exact Ev.cast (ev_local rfl) (congrArg PV.str hnm.symm)
  refine run_expr (μ := [(Nm, ns ++ [.str nm]), (Kd, ks ++ [natP k]), (E, es)]) (evm_append (p := natP k) (i := 1) (a := Kd) (ev_cell h4) rfl (ev_local q2) (by omega)) ?_
  refine run_expr (μ := [(Nm, ns ++ [.str nm]), (Kd, ks ++ [natP k]), (E, es ++ [edgeP (endX x)])]) (evm_append (p := edgeP (endX x)) (i := 2) (a := E) (ev_cell h3) rfl (ev_Subscript (ev_local h2) (Ev.cast (q := natP (x % 10)) (ev_BinOp (ev_local q1) (ev_int (i := 10)) (op_mod (by decide))) (congrArg PV.int (fmod_nat x 10))) (op_item_list (by omega) (by omega) (getD_map (d := (0, 0)) (by simp [pairsL]; omega)))) (by omega)) ?_
  exact run_nil (kk _ h1 h2 h3 h4 h5)
end
end Mine

end

section
open PySem PySem.W PyProof.Rows PySem.Calls
namespace Mine
/-- the threads' numbers -/
def xsL (script : List Int) : List Nat := (List.range 7).map (xOf script)
def nmP (x : Nat) : PV := .str (nameX x)
def kdP (x : Nat) : PV := natP (xk x)
def enP (x : Nat) : PV := edgeP (endX x)
theorem xsL_get (script : List Int) {i : Nat} (hi : i < 7) : (xsL script)[i]? = some (xOf script i) := by
  unfold xsL
  rw [List.getElem?_map, List.getElem?_range hi]; rfl
theorem xsL_take (script : List Int) (f : Nat → PV) {i : Nat} (hi : i < 7) : ((xsL script).take (i + 1)).map f = ((xsL script).take i).map f ++ [f (xOf script i)] := by
  rw [List.take_add_one, xsL_get script hi, List.map_append]; rfl
theorem xsL_len (script : List Int) (f : Nat → PV) (i : Nat) : (((xsL script).take i).map f).length ≤ 100 := by
  simp [xsL]; omega
section
variable {w : World} {H : Heap}

set_option maxHeartbeats 4000000 in
theorem law_turn (G : Gl w (K0 w) H) (hz : H.life.known = 0) {A : Around} (R : Room 30 A) {script : List Int} (hlen : script.length ≤ 63) {L E Kd Nm : Addr} {i : Nat} (hi : i < 7) {s0 : Shared} {X W B : List Addr} {ρ : Env0} {τ : List (PV × Value)} {P : PQ} {ns ks es : List PV} (hns : ns.length ≤ 100) (hks : ks.length ≤ 100) (hes : es.length ≤ 100)
    (hn : ρ "n" = some (.int i)) (h1 : ρ "script" = some (.lst (script.map PV.int))) (h2 : ρ "pairs" = some (.lst (pairsL.map edgeP))) (h3 : ρ "ends" = some (.ref E)) (h4 : ρ "kinds" = some (.ref Kd)) (h5 : ρ "names" = some (.ref Nm))
    (k : ∀ ρ', ρ' "script" = some (.lst (script.map PV.int)) → ρ' "pairs" = some (.lst (pairsL.map edgeP)) → ρ' "ends" = some (.ref E) → ρ' "kinds" = some (.ref Kd) → ρ' "names" = some (.ref Nm) →
      P.nxt ρ' [(Nm, ns ++ [nmP (xOf script i)]), (Kd, ks ++ [kdP (xOf script i)]), (E, es ++ [enP (xOf script i)])]) :
    Run P0 w H A ⟨lawE w L, s0, X, W, ρ, [(Nm, ns), (Kd, ks), (E, es)], τ, [], B⟩ (inOf (nthS lawB 4)) P := by
  have hx := xOf_lt script i
  have O := okC_all (ok_x hx)
  refine law_t1 G R hlen hi hn h1 h2 h3 h4 h5 fun ρ1 a1 a2 a3 a4 a5 a6 a7 a8 a9 b1 b2 => ?_
  refine law_t2 G hz R hx b2 ?_
  refine law_t3 G hz R O (bits_small (xv (xOf script i)) (by have := xv_lt hx; omega)) a1 a2 a3 a4 a5 a6 a7 a8 a9 b1 rfl rfl rfl fun W' ρ2 c1 c2 c3 c4 c5 c6 c7 c8 c9 => ?_
  exact law_t4 G hz R (xk_lt _) O (nm := nameX (xOf script i)) rfl hns hks hes c1 c2 c3 c4 c5 c6 c7 c8 c9 k

set_option maxHeartbeats 4000000 in
theorem law_first (G : Gl w (K0 w) H) (hz : H.life.known = 0) {A : Around} (R : Room 30 A) {script : List Int} (hlen : script.length ≤ 63) {L : Addr} {s0 : Shared} {X W B : List Addr} {ρ : Env0} {τ : List (PV × Value)} {P : PQ}
    (h1 : ρ "script" = some (.lst (script.map PV.int))) (h2 : ρ "pairs" = some (.lst (pairsL.map edgeP)))
    (k : ∀ W ρ' Hd, ρ' "ends" = some (.lst ((xsL script).map enP)) → ρ' "kinds" = some (.lst ((xsL script).map kdP)) → ρ' "names" = some (.lst ((xsL script).map nmP)) → ρ' "held" = some (.inst Hd) → Run P0 w H A ⟨lawE w L, s0, X, W, ρ', [(Hd, [])], τ, [], B⟩ (lawB.drop 6) P) :
    Run P0 w H A ⟨lawE w L, s0, X, W, ρ, [], τ, [], B⟩ (lawB.drop 1) P := by
  refine run_new (l := []) (evf_List evl_nil) (able_cell rfl rfl rfl rfl) fun E hE => ?_
  refine run_new (l := []) (evf_List evl_nil) (able_cell rfl rfl rfl rfl) fun Kd hK => ?_
  refine run_new (l := []) (evf_List evl_nil) (able_local rfl rfl rfl) fun Nm hN => ?_
  refine run_for (ps := rangeL 7) (itr_range R.handled (by omega) (ev_builtin G rfl rfl rfl) (ev_int (i := 7)))
    (fun i ρ μ => ρ "script" = some (.lst (script.map PV.int)) ∧ ρ "pairs" = some (.lst (pairsL.map edgeP)) ∧ ρ "ends" = some (.ref E) ∧ ρ "kinds" = some (.ref Kd) ∧ ρ "names" = some (.ref Nm) ∧
      μ = [(Nm, ((xsL script).take i).map nmP), (Kd, ((xsL script).take i).map kdP), (E, ((xsL script).take i).map enP)]) (fun _ _ => False) ⟨h1, h2, rfl, rfl, rfl, rfl⟩ (by simp) ?_ ?_
  · rintro i p s0 W' ρ μ τ B hp ⟨a1, a2, a3, a4, a5, rfl⟩
    obtain ⟨hi, rfl⟩ := rangeL_get hp
    refine ⟨_, good_name, asg_name (able_local rfl rfl rfl), ?_⟩
    refine law_turn G hz R hlen hi (xsL_len _ _ _) (xsL_len _ _ _) (xsL_len _ _ _) rfl a1 a2 a3 a4 a5 fun ρ' b1 b2 b3 b4 b5 => ⟨b1, b2, b3, b4, b5, ?_⟩
    rw [xsL_take script nmP hi, xsL_take script kdP hi, xsL_take script enP hi]
  · rintro W' ρ μ (⟨a1, a2, a3, a4, a5, rfl⟩ | h)
    · refine run_freeze' (y := "names") (D := Nm) hN.2.1 hN.2.2.1 hN.2.2.2 rfl a5 fun W1 => ?_
      refine run_freeze' (y := "kinds") (D := Kd) hK.2.1 hK.2.2.1 hK.2.2.2 rfl a4 fun W2 => ?_
      refine run_freeze' (y := "ends") (D := E) hE.2.1 hE.2.2.1 hE.2.2.2 rfl a3 fun W3 => ?_
      have e7 : (xsL script).take (rangeL 7).length = xsL script := List.take_of_length_le (by simp [xsL, rangeL])
      rw [e7]
      refine run_headers G (n := 0) (R.less (by omega)) (ev_global G rfl) (evf_List evl_nil) (able_local rfl rfl rfl) fun Hd hH => ?_
      exact k _ _ Hd rfl rfl rfl rfl
    · exact h.elim
end
end Mine

end

section
open PySem PySem.W PyProof.Rows PySem.Calls
namespace Mine
/-! headers -/
section
variable {nm : Nat → Str} {kind : Nat → Nat}
def hdN (nm : Nat → Str) (n : Nat) : Hdr := (nm n, numT n)
theorem low_eq (hl : ∀ n, Txt.lower (nm n) = abc (kind n)) (h5 : ∀ n, kind n < 5) (a b : Nat) : Txt.lower (nm a) = Txt.lower (nm b) ↔ kind a = kind b := by
  rw [hl, hl]
  exact ⟨abc_inj _ (h5 a) _ (h5 b), fun e => by rw [e]⟩
theorem setH_put (hl : ∀ n, Txt.lower (nm n) = abc (kind n)) (h5 : ∀ n, kind n < 5) (K : List Nat) (n : Nat) : setH (K.map (hdN nm)) (nm n) (numT n) = (put kind K n).map (hdN nm) := by
  unfold setH delH put
  rw [List.map_append, List.filter_map]
  refine congrArg (· ++ [hdN nm n]) (congrArg (List.map (hdN nm)) (List.filter_congr fun a _ => ?_))
  show (Txt.lower (nm a) != Txt.lower (nm n)) = decide (kind a ≠ kind n)
  by_cases h : kind a = kind n
  · rw [(low_eq hl h5 a n).mpr h]; simp [h]
  · have : Txt.lower (nm a) ≠ Txt.lower (nm n) := fun e => h ((low_eq hl h5 a n).mp e)
    simp [h, this]
theorem getH_none (hl : ∀ n, Txt.lower (nm n) = abc (kind n)) (h5 : ∀ n, kind n < 5) {K : List Nat} {y : Nat} (h : kind y ∉ K.map kind) : getH (K.map (hdN nm)) (nm y) = .none := by
  unfold getH
  have : (K.map (hdN nm)).find? (fun h => Txt.lower h.1 == Txt.lower (nm y)) = none := by
    rw [List.find?_eq_none]
    intro x hx
    obtain ⟨a, ha, rfl⟩ := List.mem_map.mp hx
    have : Txt.lower (nm a) ≠ Txt.lower (nm y) := fun e => h ((low_eq hl h5 a y).mp e ▸ List.mem_map_of_mem ha)
    simpa [hdN] using this
  rw [this]
theorem getH_some (hl : ∀ n, Txt.lower (nm n) = abc (kind n)) (h5 : ∀ n, kind n < 5) {K : List Nat} (hK : (K.map kind).Nodup) {y z : Nat} (hz : z ∈ K) (e : kind z = kind y) : getH (K.map (hdN nm)) (nm y) = .str (numT z) := by
  unfold getH
  have : ∃ x, (K.map (hdN nm)).find? (fun h => Txt.lower h.1 == Txt.lower (nm y)) = some x := by
    cases q : (K.map (hdN nm)).find? (fun h => Txt.lower h.1 == Txt.lower (nm y)) with
    | some x => exact ⟨x, rfl⟩
    | none =>
      rw [List.find?_eq_none] at q
      have := q (hdN nm z) (List.mem_map_of_mem hz)
      have e2 := (low_eq hl h5 z y).mpr e
      simp [hdN, e2] at this
  obtain ⟨x, hx⟩ := this
  rw [hx]
  obtain ⟨a, ha, rfl⟩ := List.mem_map.mp (List.mem_of_find?_eq_some hx)
  have h1 := List.find?_some hx
  have h2 : Txt.lower (nm a) = Txt.lower (nm y) := by simpa [hdN] using h1
  have : a = z := kind_inj hK ha hz (((low_eq hl h5 a y).mp h2).trans e.symm)
  subst this
  rfl
end

/-! the heap of rows -/
def itm (p : List Nat) : Item := ((p.length : Int), castL p)
theorem castL_inj : ∀ {a b : List Nat}, castL a = castL b → a = b
  | [], [], _ => rfl
  | [], _ :: _, h => by simp [castL] at h
  | _ :: _, [], h => by simp [castL] at h
  | x :: a, y :: b, h => by
    have h' : (x : Int) = (y : Int) ∧ castL a = castL b := by simpa [castL] using h
    rw [Int.ofNat.inj h'.1, castL_inj h'.2]
theorem itm_inj {a b : List Nat} (h : itm a = itm b) : a = b := castL_inj (congrArg Prod.snd h)

structure SI (cl : List Nat → Nat → Prop) (kind : Nat → Nat) (K met : List Nat) (heap : List Item) : Prop where
  inv : Inv cl kind K met fun p => itm p ∈ heap
  hl : HeapL heap
  shp : ∀ it ∈ heap, ∃ p, it = itm p
  len : heap.length ≤ met.length

section
variable {cl : List Nat → Nat → Prop} {r : List Nat → Nat} {kind : Nat → Nat} {K : List Nat}
theorem SI.start (M : Mat cl r) {met : List Nat} {heap : List Item} (hnd : met.Nodup) (hmet : ∀ n, n ∈ met ↔ n < 7 ∧ ¬ cl K n) (hl : HeapL heap) (hh : ∀ it, it ∈ heap ↔ ∃ n ∈ met, it = itm [n]) (hlen : heap.length ≤ met.length) : SI cl kind K met heap :=
  ⟨Inv.start M hnd hmet fun p => (hh _).trans ⟨fun ⟨n, hn, e⟩ => ⟨n, hn, itm_inj e⟩, fun ⟨n, hn, e⟩ => ⟨n, hn, by rw [e]⟩⟩, hl, fun it hi => let ⟨n, _, e⟩ := (hh it).mp hi; ⟨[n], e⟩, hlen⟩
theorem SI.go (M : Mat cl r) {met news : List Nat} {heap heap' heap'' : List Item} {q : List Nat} {y z : Nat} (S : SI cl kind K met heap) (hK : (K.map kind).Nodup) (h1 : ∀ it, it ∈ heap ↔ it = itm (q ++ [y]) ∨ it ∈ heap') (hlen1 : heap'.length + 1 = heap.length) (hz : z ∈ K) (e : kind z = kind y)
    (hn : ∀ n, n ∈ news ↔ n < 7 ∧ n ∉ K ∧ n ∉ met ∧ ¬ cl (rem K z) n) (hnd : news.Nodup) (hl : HeapL heap'') (h2 : ∀ it, it ∈ heap'' ↔ it ∈ heap' ∨ ∃ n ∈ news, it = itm (q ++ [y] ++ [n])) (hlen2 : heap''.length = heap'.length + news.length) : SI cl kind K (met ++ news) heap'' :=
  ⟨S.inv.go M hK (Hp' := fun p => itm p ∈ heap') (fun p => (h1 _).trans ⟨fun h => h.imp itm_inj id, fun h => h.imp (congrArg itm) id⟩) hz e hn hnd fun p => (h2 _).trans
      ⟨fun h => h.imp id fun ⟨n, hn, e⟩ => ⟨n, hn, itm_inj e⟩, fun h => h.imp id fun ⟨n, hn, e⟩ => ⟨n, hn, congrArg itm e⟩⟩,
    hl, fun it hi => by
      rcases (h2 it).mp hi with h | ⟨n, _, e⟩
      · exact S.shp it ((h1 it).mpr (.inr h))
      · exact ⟨_, e⟩,
    by have := S.len; rw [List.length_append]; omega⟩
end

/-- the first of the heap is the least, and min's answer is the same one -/
theorem fold_least : ∀ (l : List Item) (x : Item), (l.foldl minStep x = x ∨ l.foldl minStep x ∈ l) ∧ ile (l.foldl minStep x) x ∧ ∀ y ∈ l, ile (l.foldl minStep x) y
  | [], x => ⟨.inl rfl, ile_refl x, fun _ h => nomatch h⟩
  | a :: l, x => by
    rw [List.foldl_cons]
    obtain ⟨h1, h2, h3⟩ := fold_least l (minStep x a)
    have hs : ile (minStep x a) x ∧ ile (minStep x a) a := minStep_le x a
    have hm : minStep x a = x ∨ minStep x a = a := by unfold minStep; split <;> simp
    refine ⟨?_, ile_trans h2 hs.1, fun y hy => ?_⟩
    · rcases h1 with h1 | h1
      · rcases hm with hm | hm
        · exact .inl (h1.trans hm)
        · exact .inr (by rw [h1, hm]; exact .head _)
      · exact .inr (.tail _ h1)
    · rcases List.mem_cons.mp hy with rfl | hy
      · exact ile_trans h2 hs.2
      · exact h3 y hy
theorem min_first {l : List Item} {x y : Item} {t : List Item} (e : l ++ [x] = y :: t) (h : HeapL (l ++ [x])) : t.foldl minStep y = hfirst l x := by
  obtain ⟨_, h2, h3⟩ := hpop_ok h
  obtain ⟨a1, a2, a3⟩ := fold_least t y
  have hm : t.foldl minStep y ∈ l ++ [x] := by
    rw [e]
    rcases a1 with a1 | a1
    · rw [a1]; exact .head _
    · exact .tail _ a1
  have hf : hfirst l x ∈ y :: t := by rw [← e]; exact (h2 _).mpr (.inl rfl)
  refine ile_antisymm ?_ (h3 _ hm)
  rcases List.mem_cons.mp hf with hf | hf
  · rw [hf]; exact a2
  · exact a3 _ hf
end Mine

end

section
open PySem PySem.W PyProof.Rows PySem.Calls
namespace Mine
/-! the threads of a script -/
def En (sc : List Int) (n : Nat) : Nat × Nat := endX (xOf sc n)
def kd (sc : List Int) (n : Nat) : Nat := xk (xOf sc n)
def nN (sc : List Int) (n : Nat) : Str := nameX (xOf sc n)
theorem En_lt (sc : List Int) (n : Nat) : (En sc n).1 < 5 ∧ (En sc n).2 < 5 := end_lt _
theorem kd_lt (sc : List Int) (n : Nat) : kd sc n < 5 := xk_lt _
theorem nN_low (sc : List Int) (n : Nat) : Txt.lower (nN sc n) = abc (kd sc n) := name_low _
/-- the table of headers, for the held ones -/
def hdP (sc : List Int) (n : Nat) : PV := hdrP (hdN (nN sc) n)
def endsP (sc : List Int) : PV := .lst ((xsL sc).map enP)
def kindsP (sc : List Int) : PV := .lst ((xsL sc).map kdP)
def namesP (sc : List Int) : PV := .lst ((xsL sc).map nmP)
theorem ends_get (sc : List Int) {n : Nat} (h : n < 7) : ((xsL sc).map enP)[n]? = some (edgeP (En sc n)) := by rw [List.getElem?_map, xsL_get sc h]; rfl
theorem kinds_get (sc : List Int) {n : Nat} (h : n < 7) : ((xsL sc).map kdP)[n]? = some (natP (kd sc n)) := by rw [List.getElem?_map, xsL_get sc h]; rfl
theorem names_get (sc : List Int) {n : Nat} (h : n < 7) : ((xsL sc).map nmP)[n]? = some (.str (nN sc n)) := by rw [List.getElem?_map, xsL_get sc h]; rfl
theorem lab_get (ts : List (Nat × Nat)) {u : Nat} (h : u < 5) : ((tied ts).map natP)[u]? = some (natP (lab ts u)) := getD_map (by rw [tied_length]; exact h)

/-- a number out of a text -/
def numOf : PV → PV
  | .str x => .int ((PySem.intText? x).getD 0)
  | p => p
def numPV (n : Nat) : PV := .str (numT n)
theorem numOf_num {n : Nat} (h : n < 7) : numOf (numPV n) = natP n := by
  show PV.int ((PySem.intText? (numT n)).getD 0) = natP n
  rw [(num_int n h).1]; rfl
def natOf : PV → Nat
  | .int i => i.toNat
  | _ => 0

abbrev clS (sc : List Int) := clE (En sc)
abbrev rS (sc : List Int) := rE (En sc)
abbrev GoodS (sc : List Int) (K : List Nat) : Prop := Good (rS sc) (kd sc) K
theorem matS (sc : List Int) : Mat (clS sc) (rS sc) := matE (En sc) (En_lt sc)
theorem Good.len {sc : List Int} {K : List Nat} (g : GoodS sc K) : K.length ≤ 5 := by
  have := nodup_le g.kinds (l' := List.range 5) fun k hk => by
    obtain ⟨a, _, rfl⟩ := List.mem_map.mp hk
    exact List.mem_range.mpr (kd_lt sc a)
  simpa using this
theorem kind_nodup {kind : Nat → Nat} : ∀ {K : List Nat}, (K.map kind).Nodup → K.Nodup
  | [], _ => List.nodup_nil
  | a :: K, h => by
    rw [List.map_cons, List.nodup_cons] at h
    exact List.nodup_cons.mpr ⟨fun q => h.1 (List.mem_map_of_mem q), kind_nodup h.2⟩
def met0 (sc : List Int) (K : List Nat) : List Nat := (List.range 7).filter fun n => decide (¬ lab (K.map (En sc)) (En sc n).1 = lab (K.map (En sc)) (En sc n).2)
theorem met0_mem (sc : List Int) (K : List Nat) (n : Nat) : n ∈ met0 sc K ↔ n < 7 ∧ ¬ clS sc K n := by
  unfold met0 clS clE
  rw [List.mem_filter, List.mem_range, decide_eq_true_eq]

section
variable {w : World} {H : Heap}

theorem Run.sto {prog : Program} {A : Around} {env : Env} {s0 : Shared} {X W B : List Addr} {ρ : Env0} {μ μ' κ : Sto} {τ : List (PV × Value)} {sts : List Stmt} {P : PQ} (e : μ = μ') (h : Run prog w H A ⟨env, s0, X, W, ρ, μ', τ, κ, B⟩ sts P) : Run prog w H A ⟨env, s0, X, W, ρ, μ, τ, κ, B⟩ sts P := by
  subst e; exact h
theorem nums_list {K : List Nat} (h : ∀ n ∈ K, n < 7) : ((K.map numPV).filter fun _ => true).map numOf = K.map natP := by
  rw [List.filter_eq_self.mpr (fun _ _ => rfl), List.map_map]
  exact List.map_congr_left fun n hn => numOf_num (h n hn)
theorem ends_list (sc : List Int) (K : List Nat) (b : Nat → Bool) : ((K.map natP).filter fun p => b (natOf p)).map (fun p => edgeP (En sc (natOf p))) = ((K.filter b).map (En sc)).map edgeP := by
  rw [List.filter_map, List.map_map, List.map_map]
  rfl
theorem lt63 {a : Nat} (h : a < 5) : ((a : Nat) : Int) < 2 ^ 63 := by omega
theorem ne_nat (a b : Nat) : (((a : Nat) : Int) != ((b : Nat) : Int)) = decide (¬ a = b) := by
  by_cases h : a = b
  · subst h; simp
  · have : ¬ ((a : Int) = (b : Int)) := by omega
    simp [h, this]

set_option maxHeartbeats 4000000 in
/-- a turn of the outer loop, up to the heap -/
theorem law_w1 (G : Gl w (K0 w) H) {A : Around} (R : Room 30 A) {sc : List Int} {L Hd : Addr} {K : List Nat} (g : GoodS sc K) {s0 : Shared} {X W B : List Addr} {ρ : Env0} {τ : List (PV × Value)} {P : PQ}
    (h3 : ρ "ends" = some (endsP sc)) (h4 : ρ "kinds" = some (kindsP sc)) (h5 : ρ "names" = some (namesP sc)) (h6 : ρ "held" = some (.inst Hd))
    (k : ∀ W ρ' Mt, Fresh ⟨lawE w L, s0, X, W, ρ, [], τ, [], B⟩ Mt → ρ' "ends" = some (endsP sc) → ρ' "kinds" = some (kindsP sc) → ρ' "names" = some (namesP sc) → ρ' "held" = some (.inst Hd) → ρ' "grown" = some (.bool false) → ρ' "kept" = some (.lst (K.map natP)) → ρ' "met" = some (.ref Mt) →
      Run P0 w H A ⟨lawE w L, s0, X, Mt :: W, ρ', [(Mt, (met0 sc K).map natP), (Hd, K.map (hdP sc))], τ, [], B⟩ ((inOf (nthS lawB 7)).drop 4) P) :
    Run P0 w H A ⟨lawE w L, s0, X, W, ρ, [(Hd, K.map (hdP sc))], τ, [], B⟩ (inOf (nthS lawB 7)) P := by
  have hl5 := Good.len g
  refine run_assign (p := .bool false) (Ev.m ev_bool) (able_local rfl rfl rfl) ?_
  refine run_comp_new (ps := K.map numPV) (ρv := fun p ρ => upd ρ "text" p) (b := fun _ => true) (f := numOf) (itr_list R.handled (Ev.cast (ev_meth0 G (n := 2) (ev_local h6) (by decide) rfl rfl rfl (values_fn G (n := 0) (hs := K.map (hdN (nN sc))) (by simp; omega)) (R.less (by omega)) (fun p q => by rw [List.mem_singleton.mp q, List.map_map]; exact .head _)) (by rw [List.map_map]; rfl))) (by simp) ?_ (by simp; omega) fun D hD => ?_
  · intro p hp D Cx s0 X W acc τ B
    obtain ⟨n, hn, rfl⟩ := List.mem_map.mp hp
    have h7 := g.lt n hn
    refine ⟨good_name, ρI_sub rfl, asg_name (able_local rfl rfl rfl), tst_nil, fun _ => ?_⟩
    exact ev_Call_typ (ev_builtin G rfl rfl rfl) (evl_cons (ev_local rfl) evl_nil) (opn_int_text (by rw [(num_int n h7).1]; rfl) (num_int n h7).2)
  have e1 := nums_list g.lt
  refine run_freeze (y := "kept") hD rfl fun W1 => ?_
  have hts : ∀ t ∈ K.map (En sc), t.1 < 5 ∧ t.2 < 5 := fun t ht => by
    obtain ⟨n, _, rfl⟩ := List.mem_map.mp ht
    exact En_lt sc n
  refine run_assign (p := .lst ((tied (K.map (En sc))).map natP)) (Ev.m (ev_Call_fn G rfl (tied_fn G (K.map (En sc)) hts (n := 0)) (R.less (by omega)) (ev_global G rfl) (evl_cons (EvF.ev (EvF.cast (evf_comp (ps := K.map natP) (ρv := fun p ρ => upd ρ "n" p) (b := fun _ => true) (f := fun p => edgeP (En sc (natOf p))) (itr_list R.handled (ev_local (congrArg (fun l => some (PV.lst l)) e1))) (by simp) ?_ (by simp; omega)) ?_)) evl_nil))) (able_cell rfl rfl rfl rfl) ?_
  · intro p hp D Cx s0 X W acc τ B
    obtain ⟨n, hn, rfl⟩ := List.mem_map.mp hp
    have h7 := g.lt n hn
    refine ⟨good_name, ρI_sub rfl, asg_name (able_local rfl rfl rfl), tst_nil, fun _ => ?_⟩
    exact ev_Subscript (ev_cell h3) (ev_local rfl) (op_item_list (by omega) (by omega) (ends_get sc h7))
  · rw [ends_list sc K (fun _ => true), List.filter_eq_self.mpr (fun _ _ => rfl)]
  refine run_comp_new (ps := rangeL 7) (ρv := fun p ρ => upd ρ "n" p) (b := fun p => decide (¬ lab (K.map (En sc)) (En sc (natOf p)).1 = lab (K.map (En sc)) (En sc (natOf p)).2)) (f := fun p => p) (itr_range R.handled (by omega) (ev_builtin G rfl rfl rfl) (ev_int (i := 7))) (by simp) ?_ (by decide) fun Mt hMt => ?_
  · intro p hp D Cx s0 X W acc τ B
    obtain ⟨n, h7, rfl⟩ := rangeL_mem hp
    refine ⟨good_name, ρI_sub rfl, asg_name (able_local rfl rfl rfl), tst_one ?_, fun _ => ev_local rfl⟩
    refine EvT.cast (evt_Compare (p := natP (lab (K.map (En sc)) (En sc n).1)) (q := natP (lab (K.map (En sc)) (En sc n).2)) ?_ ?_ op_ne) (ne_nat _ _)
    · exact ev_Subscript (ev_cell rfl) (ev_Subscript (ev_Subscript (ev_cell h3) (ev_local rfl) (op_item_list (by omega) (by omega) (ends_get sc h7))) (ev_int (i := 0)) (op_item_tup (by omega) (by omega) rfl)) (op_item_list (Int.natCast_nonneg _) (lt63 (En_lt sc n).1) (lab_get _ (En_lt sc n).1))
    · exact ev_Subscript (ev_cell rfl) (ev_Subscript (ev_Subscript (ev_cell h3) (ev_local rfl) (op_item_list (by omega) (by omega) (ends_get sc h7))) (ev_int (i := 1)) (op_item_tup (by omega) (by omega) rfl)) (op_item_list (Int.natCast_nonneg _) (lt63 (En_lt sc n).2) (lab_get _ (En_lt sc n).2))
  have e2 : ((rangeL 7).filter fun p => decide (¬ lab (K.map (En sc)) (En sc (natOf p)).1 = lab (K.map (En sc)) (En sc (natOf p)).2)).map (fun p => p) = (met0 sc K).map natP := by
    unfold rangeL met0
    rw [List.map_id', List.filter_map]
    rfl
  refine Run.sto (congrArg (fun l => [(Mt, l), (Hd, K.map (hdP sc))]) e2) ?_
  exact k _ _ Mt ⟨hMt.1, hMt.2⟩ h3 h4 h5 h6 rfl (congrArg (fun l => some (PV.lst l)) e1) rfl
end
end Mine

end

section
open PySem PySem.W PyProof.Rows PySem.Calls
namespace Mine
section
variable {w : World} {H : Heap}

theorem ev_USub {prog : Program} {A : Around} {C : Cf} {e : Expr} {pos : Pos} {i : Int} (h : Ev prog w H A C e (.int i)) : Ev prog w H A C (.UnaryOp .USub e pos) (.int (-i)) := fun s Q E F k =>
  UnaryOp_ (h s _ E F fun v s₁ k₁ F₁ r₁ => by
    simp only [Rep] at r₁
    obtain ⟨t, rfl⟩ := r₁
    exact P.neg_int (k _ _ (k₁.trans .tok) (tok_keep F₁) (by simp [Rep])))

theorem itm_one (n : Nat) : itemP (itm [n]) = .tup [.int 1, .lst [natP n]] := rfl
theorem rev_get {l : List Nat} {i : Nat} {p : PV} (h : ((l.map natP).reverse)[i]? = some p) : ∃ n, l.reverse[i]? = some n ∧ p = natP n := by
  rw [← List.map_reverse, List.getElem?_map] at h
  cases q : l.reverse[i]? with
  | none => rw [q] at h; cases h
  | some n => rw [q] at h; cases h; exact ⟨n, rfl, rfl⟩

set_option maxHeartbeats 4000000 in
/-- the heap is filled -/
theorem law_w2 (G : Gl w (K0 w) H) {A : Around} (R : Room 30 A) {sc : List Int} {L Hd Mt : Addr} {K : List Nat} {s0 : Shared} {X W B : List Addr} {ρ : Env0} {τ : List (PV × Value)} {P : PQ}
    (h3 : ρ "ends" = some (endsP sc)) (h4 : ρ "kinds" = some (kindsP sc)) (h5 : ρ "names" = some (namesP sc)) (h6 : ρ "held" = some (.inst Hd)) (h7 : ρ "grown" = some (.bool false)) (h8 : ρ "kept" = some (.lst (K.map natP))) (h9 : ρ "met" = some (.ref Mt))
    (k : ∀ W' ρ' Hp heap, Fresh ⟨lawE w L, s0, X, W, ρ, [], τ, [], B⟩ Hp → ρ' "ends" = some (endsP sc) → ρ' "kinds" = some (kindsP sc) → ρ' "names" = some (namesP sc) → ρ' "held" = some (.inst Hd) → ρ' "grown" = some (.bool false) → ρ' "kept" = some (.lst (K.map natP)) → ρ' "met" = some (.ref Mt) → ρ' "heap" = some (.ref Hp) →
      SI (clS sc) (kd sc) K (met0 sc K) heap → Run P0 w H A ⟨lawE w L, s0, X, W', ρ', [(Hp, heap.map itemP), (Mt, (met0 sc K).map natP), (Hd, K.map (hdP sc))], τ, [], B⟩ ((inOf (nthS lawB 7)).drop 6) P) :
    Run P0 w H A ⟨lawE w L, s0, X, W, ρ, [(Mt, (met0 sc K).map natP), (Hd, K.map (hdP sc))], τ, [], B⟩ ((inOf (nthS lawB 7)).drop 4) P := by
  have hm7 : (met0 sc K).length ≤ 7 := by
    have := List.length_filter_le (fun n => decide (¬ lab (K.map (En sc)) (En sc n).1 = lab (K.map (En sc)) (En sc n).2)) (List.range 7)
    simpa [met0] using this
  refine run_new (l := []) (evf_List evl_nil) (able_local rfl rfl rfl) fun Hp hHp => ?_
  refine run_for (ps := ((met0 sc K).map natP).reverse) (itr_rev R.handled (ev_builtin G rfl rfl rfl) (ev_local h9) (.tail _ (.head _)))
    (fun i ρ μ => (ρ "ends" = some (endsP sc) ∧ ρ "kinds" = some (kindsP sc) ∧ ρ "names" = some (namesP sc) ∧ ρ "held" = some (.inst Hd) ∧ ρ "grown" = some (.bool false) ∧ ρ "kept" = some (.lst (K.map natP)) ∧ ρ "met" = some (.ref Mt) ∧ ρ "heap" = some (.ref Hp)) ∧
      ∃ heap, μ = [(Hp, heap.map itemP), (Mt, (met0 sc K).map natP), (Hd, K.map (hdP sc))] ∧ HeapL heap ∧ (∀ it, it ∈ heap ↔ ∃ n ∈ (met0 sc K).reverse.take i, it = itm [n]) ∧ heap.length = i) (fun _ _ => False)
    ⟨⟨h3, h4, h5, h6, h7, h8, h9, rfl⟩, [], rfl, heap_nil, fun it => ⟨(fun h => nomatch h), fun ⟨n, h, _⟩ => by simp at h⟩, rfl⟩ (fun i ρ μ hJ q hq => ?_) ?_ ?_
  · obtain ⟨_, heap, rfl, _⟩ := hJ
    rw [List.mem_singleton.mp hq]
    exact .tail _ (.head _)
  · rintro i p s0 W' ρ μ τ B hp ⟨⟨a1, a2, a3, a4, a5, a6, a7, a8⟩, heap, rfl, b1, b2, b3⟩
    obtain ⟨n, hn, rfl⟩ := rev_get hp
    have hi7 : heap.length ≤ 800 := by
      have := (List.getElem?_eq_some_iff.mp hn).1
      rw [List.length_reverse] at this
      omega
    refine ⟨_, good_name, asg_name (able_local rfl rfl rfl), ?_⟩
    refine run_expr (evm_Call_fnl (i := 0) (l := heap.map itemP) G rfl (heappush_fn G (n := 0) (x := itm [n]) hi7) (R.less (by omega)) rfl (ev_global G rfl) (evl_cons (ev_local a8) (evl_cons (ev_Tuple (ps := [.int 1, .lst [natP n]]) (evl_cons (ev_int (i := 1)) (evl_cons (ev_List (evl_cons (ev_local rfl) evl_nil) (by simp)) evl_nil)) (by simp)) evl_nil))) ?_
    obtain ⟨c1, c2⟩ := hpush_ok (x := itm [n]) b1
    refine run_nil ⟨⟨a1, a2, a3, a4, a5, a6, a7, a8⟩, _, rfl, c1, fun it => ?_, by rw [hpush_length, b3]⟩
    rw [c2, b2, List.take_add_one, hn]
    simp only [Option.toList_some, List.mem_append, List.mem_singleton]
    constructor
    · rintro (h | ⟨m, hm, e⟩)
      · exact ⟨n, .inr rfl, h⟩
      · exact ⟨m, .inl hm, e⟩
    · rintro ⟨m, hm | hm, e⟩
      · exact .inr ⟨m, hm, e⟩
      · subst hm; exact .inl e
  · rintro W' ρ μ (⟨⟨a1, a2, a3, a4, a5, a6, a7, a8⟩, heap, rfl, b1, b2, b3⟩ | h)
    · refine k _ _ Hp heap ⟨hHp.1, hHp.2⟩ a1 a2 a3 a4 a5 a6 a7 a8 ?_
      have e : (met0 sc K).reverse.take ((met0 sc K).map natP).reverse.length = (met0 sc K).reverse := List.take_of_length_le (by simp)
      rw [e] at b2
      refine SI.start (matS sc) (List.nodup_range.filter _) (met0_mem sc K) b1 (fun it => (b2 it).trans ⟨fun ⟨n, h, e⟩ => ⟨n, List.mem_reverse.mp h, e⟩, fun ⟨n, h, e⟩ => ⟨n, List.mem_reverse.mpr h, e⟩⟩) ?_
      rw [b3]; simp
    · exact h.elim
end
end Mine

end

section
open PySem PySem.W PyProof.Rows PySem.Calls
namespace Mine
def thenOf : Stmt → List Stmt
  | .If _ b _ _ => b
  | _ => []
def elseOf : Stmt → List Stmt
  | .If _ _ b _ => b
  | _ => []
/-- the inner while's body -/
def lawI : List Stmt := inOf (nthS (inOf (nthS lawB 7)) 6)

theorem put_len (kind : Nat → Nat) (K : List Nat) (n : Nat) : (put kind K n).length ≤ K.length + 1 := by
  unfold put
  have := List.length_filter_le (fun a => decide (kind a ≠ kind n)) K
  simp only [List.length_append, List.length_cons, List.length_nil]
  omega
theorem fold_take {α β : Type} (f : β → α → β) (b : β) (l : List α) (i : Nat) (a : α) (h : l[i]? = some a) : (l.take (i + 1)).foldl f b = f ((l.take i).foldl f b) a := by
  rw [List.take_add_one, h, List.foldl_append]; rfl
theorem hdP_map (sc : List Int) (K : List Nat) : K.map (hdP sc) = (K.map (hdN (nN sc))).map hdrP := by rw [List.map_map]; rfl
theorem castP_get {p : List Nat} {i : Nat} {v : PV} (h : ((castL p).map PV.int)[i]? = some v) : ∃ n, p[i]? = some n ∧ v = natP n := by
  unfold castL at h
  rw [List.map_map, List.getElem?_map] at h
  cases q : p[i]? with
  | none => rw [q] at h; cases h
  | some n => rw [q] at h; cases h; exact ⟨n, rfl, rfl⟩
section
variable {w : World} {H : Heap}

set_option maxHeartbeats 4000000 in
/-- a row is stored -/
theorem law_grow (G : Gl w (K0 w) H) {A : Around} (R : Room 30 A) {sc : List Int} {L Hd Mt Hp : Addr} {K p : List Nat} (hK : K.length ≤ 7) (hp : p.length ≤ 7) (hp7 : ∀ n ∈ p, n < 7) {hh mm : List PV} {s0 : Shared} {X W B : List Addr} {ρ : Env0} {τ : List (PV × Value)} {P : PQ}
    {pE pK pM pH pT : PV} (h3 : ρ "ends" = some pE) (h4 : ρ "kinds" = some pK) (h5 : ρ "names" = some (namesP sc)) (h6 : ρ "held" = some (.inst Hd)) (h7 : ρ "kept" = some pT) (h8 : ρ "met" = some pM) (h9 : ρ "heap" = some pH) (hq : ρ "path" = some (.lst ((castL p).map PV.int)))
    (k : ∀ ρ', ρ' "ends" = some pE → ρ' "kinds" = some pK → ρ' "names" = some (namesP sc) → ρ' "held" = some (.inst Hd) → ρ' "kept" = some pT → ρ' "met" = some pM → ρ' "heap" = some pH → ρ' "grown" = some (.bool true) → P.nxt ρ' [(Hp, hh), (Mt, mm), (Hd, (p.foldl (put (kd sc)) K).map (hdP sc))]) :
    Run P0 w H A ⟨lawE w L, s0, X, W, ρ, [(Hp, hh), (Mt, mm), (Hd, K.map (hdP sc))], τ, [], B⟩ (thenOf (nthS lawI 4)) P := by
  refine run_for (ps := (castL p).map PV.int) (itr_list R.handled (ev_local hq))
    (fun i ρ μ => (ρ "ends" = some pE ∧ ρ "kinds" = some pK ∧ ρ "names" = some (namesP sc) ∧ ρ "held" = some (.inst Hd) ∧ ρ "kept" = some pT ∧ ρ "met" = some pM ∧ ρ "heap" = some pH) ∧ ((p.take i).foldl (put (kd sc)) K).length ≤ 7 + i ∧
      μ = [(Hp, hh), (Mt, mm), (Hd, ((p.take i).foldl (put (kd sc)) K).map (hdP sc))]) (fun _ _ => False) ⟨⟨h3, h4, h5, h6, h7, h8, h9⟩, hK, rfl⟩ (by simp) ?_ ?_
  · rintro i v s0 W' ρ μ τ B hv ⟨⟨a1, a2, a3, a4, a5, a6, a7⟩, b1, rfl⟩
    obtain ⟨n, hn, rfl⟩ := castP_get hv
    have hi := (List.getElem?_eq_some_iff.mp hn).1
    have hn7 := hp7 n (List.mem_of_getElem? hn)
    have e := fold_take (put (kd sc)) K p i n hn
    generalize (p.take i).foldl (put (kd sc)) K = Ki at b1 e
    refine ⟨_, good_name, asg_name (able_local rfl rfl rfl), ?_⟩
    refine run_setinst (n := 0) (j := 2) (a := Hd) (hs := Ki.map (hdN (nN sc))) (x := nN sc n) (v := numT n) G (R.less (by omega)) (ev_Call_typ (ev_builtin G rfl rfl rfl) (evl_cons (ev_local rfl) evl_nil) (opn_str_int ?_)) (ev_local a4) (ev_Subscript (ev_local a3) (ev_local rfl) (op_item_list (Int.natCast_nonneg _) (by omega) (names_get sc hn7)))
      (congrArg (fun l => some (Hd, l)) (hdP_map sc Ki)) (by simp; omega) (name_ok w _) (num_clean w n hn7) (fun h hh => ?_) ?_
    · show (n : Int).natAbs.log2 < 1920
      have : ∀ n < 7, ((n : Nat) : Int).natAbs.log2 < 1920 := by decide
      exact this n hn7
    · obtain ⟨a, _, rfl⟩ := List.mem_map.mp hh
      exact name_ok w _
    · refine run_nil ⟨⟨a1, a2, a3, a4, a5, a6, a7⟩, ?_, ?_⟩
      · rw [e]
        have := put_len (kd sc) Ki n
        omega
      · rw [e, hdP_map sc (put (kd sc) Ki n), ← setH_put (nN_low sc) (kd_lt sc)]
        rfl
  · rintro W' ρ μ (⟨⟨a1, a2, a3, a4, a5, a6, a7⟩, b1, rfl⟩ | h)
    · refine run_assign (p := .bool true) (Ev.m ev_bool) (able_local rfl rfl rfl) ?_
      have e : p.take ((castL p).map PV.int).length = p := List.take_of_length_le (by simp [castL])
      rw [e]
      exact run_nil (k _ a1 a2 a3 a4 a5 a6 a7 rfl)
    · exact h.elim
end
end Mine

end

section
open PySem PySem.W PyProof.Rows PySem.Calls
namespace Mine
theorem mem_castL {K : List Nat} {n : Nat} : (n : Int) ∈ castL K ↔ n ∈ K := by
  unfold castL
  rw [List.mem_map]
  exact ⟨fun ⟨a, h, e⟩ => Int.ofNat.inj e ▸ h, fun h => ⟨n, h, rfl⟩⟩
theorem natP_cast (K : List Nat) : K.map natP = (castL K).map PV.int := map_natP K
/-- the new ones among the first i -/
def newsTo (sc : List Int) (K met : List Nat) (z i : Nat) : List Nat :=
  (List.range i).filter fun n => !decide (n ∈ K) && (!decide (n ∈ met) && decide (¬ lab ((rem K z).map (En sc)) (En sc n).1 = lab ((rem K z).map (En sc)) (En sc n).2))
theorem news_mem (sc : List Int) (K met : List Nat) (z i n : Nat) : n ∈ newsTo sc K met z i ↔ n < i ∧ n ∉ K ∧ n ∉ met ∧ ¬ clS sc (rem K z) n := by
  unfold newsTo clS clE
  simp only [List.mem_filter, List.mem_range, Bool.and_eq_true, Bool.not_eq_true', decide_eq_false_iff_not, decide_eq_true_eq]
theorem news_succ (sc : List Int) (K met : List Nat) (z i : Nat) : newsTo sc K met z (i + 1) = newsTo sc K met z i ++ (if (!decide (i ∈ K) && (!decide (i ∈ met) && decide (¬ lab ((rem K z).map (En sc)) (En sc i).1 = lab ((rem K z).map (En sc)) (En sc i).2))) = true then [i] else []) := by
  unfold newsTo
  rw [List.range_succ, List.filter_append, List.filter_cons, List.filter_nil]
section
variable {w : World} {H : Heap}

set_option maxHeartbeats 4000000 in
/-- a row goes on -/
theorem law_on (G : Gl w (K0 w) H) {A : Around} (R : Room 30 A) {sc : List Int} {L Hd Mt Hp : Addr} {K met p : List Nat} {z : Nat} (hK7 : ∀ n ∈ K, n < 7) (hK : K.length ≤ 7) (hp : p.length ≤ 7) (hz7 : z < 7) (hm : met.length ≤ 7) {heap : List Item} (hh : heap.length ≤ 7) (hl : HeapL heap) {dd : List PV} {s0 : Shared} {X W B : List Addr} {ρ : Env0} {τ : List (PV × Value)} {P : PQ}
    {pK pD pN pG : PV} (h3 : ρ "ends" = some (endsP sc)) (h4 : ρ "kinds" = some pK) (h5 : ρ "names" = some pN) (h6 : ρ "held" = some pD) (h7 : ρ "kept" = some (.lst (K.map natP))) (h8 : ρ "met" = some (.ref Mt)) (h9 : ρ "heap" = some (.ref Hp)) (hg : ρ "grown" = some pG) (hq : ρ "path" = some (.lst ((castL p).map PV.int))) (hs : ρ "size" = some (.int p.length)) (ho : ρ "other" = some (.str (numT z)))
    (k : ∀ ρ' news heap', ρ' "ends" = some (endsP sc) → ρ' "kinds" = some pK → ρ' "names" = some pN → ρ' "held" = some pD → ρ' "kept" = some (.lst (K.map natP)) → ρ' "met" = some (.ref Mt) → ρ' "heap" = some (.ref Hp) → ρ' "grown" = some pG →
      (∀ n, n ∈ news ↔ n < 7 ∧ n ∉ K ∧ n ∉ met ∧ ¬ clS sc (rem K z) n) → news.Nodup → HeapL heap' → (∀ it, it ∈ heap' ↔ it ∈ heap ∨ ∃ n ∈ news, it = itm (p ++ [n])) → heap'.length = heap.length + news.length →
      P.nxt ρ' [(Hp, heap'.map itemP), (Mt, (met ++ news).map natP), (Hd, dd)]) :
    Run P0 w H A ⟨lawE w L, s0, X, W, ρ, [(Hp, heap.map itemP), (Mt, met.map natP), (Hd, dd)], τ, [], B⟩ (elseOf (nthS lawI 4)) P := by
  have hts : ∀ t ∈ (rem K z).map (En sc), t.1 < 5 ∧ t.2 < 5 := fun t ht => by
    obtain ⟨n, _, rfl⟩ := List.mem_map.mp ht
    exact En_lt sc n
  refine run_assign (p := .lst ((tied ((rem K z).map (En sc))).map natP)) (Ev.m (ev_Call_fn G rfl (tied_fn G ((rem K z).map (En sc)) hts (n := 0)) (R.less (by omega)) (ev_global G rfl) (evl_cons (EvF.ev (EvF.cast (evf_comp (ps := K.map natP) (ρv := fun p ρ => upd ρ "n" p) (b := fun p => decide (natOf p ≠ z)) (f := fun p => edgeP (En sc (natOf p))) (itr_list R.handled (ev_local h7)) (by simp) ?_ (by simp; omega)) (ends_list sc K (fun n => decide (n ≠ z))))) evl_nil))) (able_cell rfl rfl rfl rfl) ?_
  · intro v hv D Cx s0 X W acc τ B
    obtain ⟨n, hn, rfl⟩ := List.mem_map.mp hv
    have h7' := hK7 n hn
    refine ⟨good_name, ρI_sub rfl, asg_name (able_local rfl rfl rfl), tst_one ?_, fun _ => ?_⟩
    · exact EvT.cast (evt_Compare (p := natP n) (q := natP z) (ev_local rfl) (ev_Call_typ (ev_builtin G rfl rfl rfl) (evl_cons (ev_cell ho) evl_nil) (opn_int_text (num_int z hz7).1 (num_int z hz7).2)) op_ne) (ne_nat n z)
    · exact ev_Subscript (ev_cell h3) (ev_local rfl) (op_item_list (by omega) (by omega) (ends_get sc h7'))
  refine run_for (ps := rangeL 7) (itr_range R.handled (by omega) (ev_builtin G rfl rfl rfl) (ev_int (i := 7)))
    (fun i ρ μ => (ρ "ends" = some (endsP sc) ∧ ρ "kinds" = some pK ∧ ρ "names" = some pN ∧ ρ "held" = some pD ∧ ρ "kept" = some (.lst (K.map natP)) ∧ ρ "met" = some (.ref Mt) ∧ ρ "heap" = some (.ref Hp) ∧ ρ "grown" = some pG ∧ ρ "path" = some (.lst ((castL p).map PV.int)) ∧ ρ "size" = some (.int p.length) ∧ ρ "marks" = some (.lst ((tied ((rem K z).map (En sc))).map natP))) ∧
      ∃ heap', μ = [(Hp, heap'.map itemP), (Mt, (met ++ newsTo sc K met z i).map natP), (Hd, dd)] ∧ HeapL heap' ∧ (∀ it, it ∈ heap' ↔ it ∈ heap ∨ ∃ n ∈ newsTo sc K met z i, it = itm (p ++ [n])) ∧ heap'.length = heap.length + (newsTo sc K met z i).length) (fun _ _ => False)
    ⟨⟨h3, h4, h5, h6, h7, h8, h9, hg, hq, hs, rfl⟩, heap, by simp [newsTo], hl, fun it => by simp [newsTo], by simp [newsTo]⟩ (by simp) ?_ ?_
  · rintro i v s0 W' ρ μ τ B hv ⟨⟨a1, a2, a3, a4, a5, a6, a7, a8, a9, b1, b2⟩, heap', rfl, c1, c2, c3⟩
    obtain ⟨hi, rfl⟩ := rangeL_get hv
    have hnl : (newsTo sc K met z i).length ≤ i := by
      have := List.length_filter_le (fun n => !decide (n ∈ K) && (!decide (n ∈ met) && decide (¬ lab ((rem K z).map (En sc)) (En sc n).1 = lab ((rem K z).map (En sc)) (En sc n).2))) (List.range i)
      simpa [newsTo] using this
    have hin : i ∉ newsTo sc K met z i := fun q => by have := ((news_mem sc K met z i i).mp q).1; omega
    have hsucc := news_succ sc K met z i
    generalize hN : newsTo sc K met z i = N at hnl hin hsucc c2 c3
    refine ⟨_, good_name, asg_name (able_local rfl rfl rfl), ?_⟩
    have hmem : (Mt, (castL (met ++ N)).map PV.int) ∈ [(Hp, heap'.map itemP), (Mt, (met ++ N).map natP), (Hd, dd)] ++ ([] : Sto) := by rw [← natP_cast]; simp
    refine run_if (b := !decide (i ∈ K) && (!decide (i ∈ met) && decide (¬ lab ((rem K z).map (En sc)) (En sc i).1 = lab ((rem K z).map (En sc)) (En sc i).2))) (evt_and3 ?t1 (fun _ => ?t2) (fun _ _ => ?t3)) (fun hb => ?_) (fun hb => ?_)
    case t1 => exact EvT.cast (evt_Compare (ev_local rfl) (ev_local (a5.trans (congrArg (fun l => some (PV.lst l)) (natP_cast K)))) (op_notin_lst (n := (i : Int)) (ns := castL K) (R.less (by omega)))) (by simp [mem_castL])
    case t2 => exact EvT.cast (evt_Compare (ev_local rfl) (ev_local a6) (op_notin_mut (n := (i : Int)) (ns := castL (met ++ N)) (R.less (by omega)) hmem)) (by simp [mem_castL, hin])
    case t3 =>
      refine EvT.cast (evt_Compare (p := natP (lab ((rem K z).map (En sc)) (En sc i).1)) (q := natP (lab ((rem K z).map (En sc)) (En sc i).2)) ?_ ?_ op_ne) (ne_nat _ _)
      · exact ev_Subscript (ev_cell b2) (ev_Subscript (ev_Subscript (ev_cell a1) (ev_local rfl) (op_item_list (by omega) (by omega) (ends_get sc hi))) (ev_int (i := 0)) (op_item_tup (by omega) (by omega) rfl)) (op_item_list (Int.natCast_nonneg _) (lt63 (En_lt sc i).1) (lab_get _ (En_lt sc i).1))
      · exact ev_Subscript (ev_cell b2) (ev_Subscript (ev_Subscript (ev_cell a1) (ev_local rfl) (op_item_list (by omega) (by omega) (ends_get sc hi))) (ev_int (i := 1)) (op_item_tup (by omega) (by omega) rfl)) (op_item_list (Int.natCast_nonneg _) (lt63 (En_lt sc i).2) (lab_get _ (En_lt sc i).2))
    · rw [if_pos hb] at hsucc
      refine run_expr (μ := [(Hp, heap'.map itemP), (Mt, (met ++ N).map natP ++ [natP i]), (Hd, dd)]) (evm_append (p := natP i) (i := 1) (a := Mt) (ev_local a6) rfl (ev_local rfl) (by simp; omega)) ?_
      have e3 : PV.tup [.int ((p.length : Int) + 1), .lst ((castL p).map PV.int ++ [natP i])] = itemP (itm (p ++ [i])) := by
        simp [itemP, itm, castL, natP]
      refine run_expr (evm_Call_fnl (i := 0) (l := heap'.map itemP) G rfl (heappush_fn G (n := 0) (x := itm (p ++ [i])) (by omega)) (R.less (by omega)) rfl (ev_global G rfl) (evl_cons (ev_local a7) (evl_cons (Ev.cast (ev_Tuple (ps := [.int ((p.length : Int) + 1), .lst ((castL p).map PV.int ++ [natP i])]) (evl_cons (ev_BinOp (ev_local b1) (ev_int (i := 1)) op_add) (evl_cons (ev_BinOp (ev_local a9) (ev_List (evl_cons (ev_local rfl) evl_nil) (by simp)) (op_cat (by simp [castL]; omega))) evl_nil)) (by simp)) e3) evl_nil))) ?_
      obtain ⟨d1, d2⟩ := hpush_ok (x := itm (p ++ [i])) c1
      refine run_nil fun W2 => run_nil ⟨⟨a1, a2, a3, a4, a5, a6, a7, a8, a9, b1, b2⟩, hpush heap' (itm (p ++ [i])), ?_, d1, fun it => ?_, ?_⟩
      · rw [hsucc, ← List.append_assoc, List.map_append (l₁ := met ++ N)]
        rfl
      · rw [d2, c2, hsucc]
        simp only [List.mem_append, List.mem_singleton]
        constructor
        · rintro (h | h | ⟨n, hn, e⟩)
          · exact .inr ⟨i, .inr rfl, h⟩
          · exact .inl h
          · exact .inr ⟨n, .inl hn, e⟩
        · rintro (h | ⟨n, hn | hn, e⟩)
          · exact .inr (.inl h)
          · exact .inr (.inr ⟨n, hn, e⟩)
          · subst hn; exact .inl e
      · rw [hpush_length, c3, hsucc]; simp; omega
    · rw [if_neg (by rw [hb]; decide), List.append_nil] at hsucc
      exact run_nil fun W2 => run_nil ⟨⟨a1, a2, a3, a4, a5, a6, a7, a8, a9, b1, b2⟩, heap', by rw [hsucc], c1, by rw [hsucc]; exact c2, by rw [hsucc]; exact c3⟩
  · rintro W' ρ μ (⟨⟨a1, a2, a3, a4, a5, a6, a7, a8, a9, b1, b2⟩, heap', rfl, c1, c2, c3⟩ | h)
    · rw [rangeL_length] at c2 c3 ⊢
      exact run_nil (k _ (newsTo sc K met z 7) heap' a1 a2 a3 a4 a5 a6 a7 a8 (news_mem sc K met z 7) (List.nodup_range.filter _) c1 c2 c3)
    · exact h.elim
end
end Mine

end

section
open PySem PySem.W PyProof.Rows PySem.Calls
namespace Mine
structure Fx (sc : List Int) (K : List Nat) (Hd Mt Hp : Addr) (ρ : Env0) : Prop where
  ends : ρ "ends" = some (endsP sc)
  kinds : ρ "kinds" = some (kindsP sc)
  names : ρ "names" = some (namesP sc)
  held : ρ "held" = some (.inst Hd)
  kept : ρ "kept" = some (.lst (K.map natP))
  met : ρ "met" = some (.ref Mt)
  heap : ρ "heap" = some (.ref Hp)
theorem snoc_of {α : Type} : ∀ {l : List α}, l ≠ [] → ∃ a x, l = a ++ [x] := fun {l} h => ⟨l.dropLast, l.getLast h, (List.dropLast_concat_getLast h).symm⟩
theorem last_get {q : List Nat} {y : Nat} : ((castL (q ++ [y])).map PV.int)[((-1 : Int) + (((castL (q ++ [y])).map PV.int).length : Int)).toNat]? = some (natP y) := by
  have e : ((-1 : Int) + (((castL (q ++ [y])).map PV.int).length : Int)).toNat = q.length := by simp [castL]; omega
  rw [e]
  simp [castL, natP]
section
variable {w : World} {H : Heap}

set_option maxHeartbeats 4000000 in
/-- a turn of the search -/
theorem law_step (G : Gl w (K0 w) H) {A : Around} (R : Room 30 A) {sc : List Int} {L Hd Mt Hp : Addr} {K met : List Nat} {heap : List Item} (g : GoodS sc K) (S : SI (clS sc) (kd sc) K met heap) (hne : heap ≠ []) {s0 : Shared} {X W B : List Addr} {ρ : Env0} {τ : List (PV × Value)} {P : PQ}
    (F : Fx sc K Hd Mt Hp ρ) (hg : ρ "grown" = some (.bool false))
    (kA : ∀ ρ' met' heap', Fx sc K Hd Mt Hp ρ' → ρ' "grown" = some (.bool false) → SI (clS sc) (kd sc) K met' heap' → heap'.length + (7 - met'.length) < heap.length + (7 - met.length) → P.nxt ρ' [(Hp, heap'.map itemP), (Mt, met'.map natP), (Hd, K.map (hdP sc))])
    (kB : ∀ ρ' hh mm K', Fx sc K Hd Mt Hp ρ' → ρ' "grown" = some (.bool true) → GoodS sc K' → K'.length = K.length + 1 → hh.length ≤ 1000 → P.nxt ρ' [(Hp, hh), (Mt, mm), (Hd, K'.map (hdP sc))]) :
    Run P0 w H A ⟨lawE w L, s0, X, W, ρ, [(Hp, heap.map itemP), (Mt, met.map natP), (Hd, K.map (hdP sc))], τ, [], B⟩ lawI P := by
  obtain ⟨h3, h4, h5, h6, h7, h8, h9⟩ := F
  have hm7 := S.inv.size
  have hh7 := S.len
  have hK5 := Good.len g
  obtain ⟨l, x, e1⟩ := snoc_of hne
  obtain ⟨y, t, e2⟩ := List.exists_cons_of_ne_nil hne
  obtain ⟨o1, o2, o3⟩ := hpop_ok (l := l) (x := x) (e1 ▸ S.hl)
  have hmf : t.foldl minStep y = hfirst l x := min_first (e1.symm.trans e2) (e1 ▸ S.hl)
  obtain ⟨p, hp⟩ := S.shp (hfirst l x) (e1 ▸ (o2 _).mpr (.inl rfl))
  have hpin : itm p ∈ heap := hp ▸ e1 ▸ (o2 _).mpr (.inl rfl)
  obtain ⟨q, yy, epq, hv, hall, hexp, hplen⟩ := S.inv.path p hpin
  have hyy : yy < 7 := S.inv.lt yy (hall yy (by simp))
  have hlen : l.length + 1 = heap.length := by rw [e1]; simp
  refine run_assign (p := itemP (itm p)) (Ev.m (Ev.cast (ev_Call_blt (ev_builtin G rfl rfl rfl) (evl_cons (ev_local h9) evl_nil) (opn_min_items (R.less (by omega)) e2 (.head _))) (congrArg itemP (hmf.trans hp)))) (able_local rfl rfl rfl) ?_
  refine run_assignT (p := itemP (itm p)) (μ := [(Hp, (hpop l x).map itemP), (Mt, met.map natP), (Hd, K.map (hdP sc))]) (hp ▸ evm_Call_fnl (i := 0) (l := (l ++ [x]).map itemP) G rfl (heappop_fn G (n := 0) (l := l) (x := x) (by omega)) (R.less (by omega)) (congrArg (fun z => some (Hp, List.map itemP z)) e1) (ev_global G rfl) (evl_cons (ev_local h9) evl_nil)) (asg_tuple2 R.handled (able_local rfl rfl rfl) (able_local rfl rfl rfl)) ?_
  refine run_if (b := false) (EvT.cast (evt_Compare (ev_Tuple (evl_cons (ev_local rfl) (evl_cons (ev_local rfl) evl_nil)) (by simp)) (ev_local rfl) (op_ne_item (n := (itm p).1) (m := (itm p).1) (xs := (itm p).2) (ys := (itm p).2) (R.less (by omega)))) (by simp)) (fun h => by cases h) (fun _ => run_nil fun W1 => ?_)
  have hpl : p.length ≤ 7 := by omega
  have hp7 : ∀ n ∈ p, n < 7 := fun n hn => S.inv.lt n (hall n (epq ▸ hn))
  have hlast : ((castL p).map PV.int)[((-1 : Int) + (((castL p).map PV.int).length : Int)).toNat]? = some (natP yy) := epq ▸ last_get
  have hok : ∀ h ∈ K.map (hdN (nN sc)), NameOk w h.1 := fun h hh => by
    obtain ⟨a, _, rfl⟩ := List.mem_map.mp hh
    exact name_ok w _
  have hneg : -((((castL p).map PV.int).length : Nat) : Int) ≤ (-1 : Int) := by rw [epq]; simp [castL]; omega
  have hyf : ((yy : Nat) : Int) < 2 ^ 63 := by omega
  by_cases hk : kd sc yy ∈ K.map (kd sc)
  · obtain ⟨z, hz, ez⟩ := List.mem_map.mp hk
    have hgz := getH_some (nN_low sc) (kd_lt sc) g.kinds hz ez
    refine run_assign (p := .str (numT z)) (Ev.m (Ev.cast (ev_meth1 G (n := 6) (κ := [(Hd, (K.map (hdN (nN sc))).map hdrP)]) (p := .str (nN sc yy)) (ev_local h6) (ev_Subscript (ev_local h5) (ev_Subscript (ev_local rfl) (ev_USub (ev_int (i := 1))) (op_item_list_neg (by decide) hneg (by decide) hlast)) (op_item_list (Int.natCast_nonneg _) hyf (names_get sc hyy))) (by decide) rfl rfl rfl (get_fn G (n := 0) (name_ok w _) hok) (R.less (by omega)) (fun c hc => by rw [List.mem_singleton.mp hc, ← hdP_map]; simp)) hgz)) (able_cell rfl rfl rfl rfl) ?_
    refine run_if (b := false) (evt_Compare (ev_cell rfl) ev_none op_is_none_str) (fun h => by cases h) (fun _ => ?_)
    refine law_on G R (K := K) (met := met) (p := p) (z := z) (heap := hpop l x) g.lt (by omega) hpl (g.lt z hz) hm7 (by rw [hpop_length]; omega) o1 h3 h4 h5 h6 h7 h8 h9 hg rfl rfl rfl fun ρ' news heap' a1 a2 a3 a4 a5 a6 a7 a8 b1 b2 b3 b4 b5 => ?_
    intro W2
    have hlp := hpop_length l x
    have S' := S.go (matS sc) (q := q) (y := yy) (z := z) (heap' := hpop l x) (heap'' := heap') g.kinds (fun it => by rw [e1, o2 it, hp, epq]) (by omega) hz ez b1 b2 b3 (by rw [← epq]; exact b4) b5
    have hsz := S'.inv.size
    rw [List.length_append] at hsz
    refine run_nil (kA ρ' (met ++ news) heap' ⟨a1, a2, a3, a4, a5, a6, a7⟩ a8 S' ?_)
    rw [List.length_append]
    omega
  · have hgn := getH_none (nN_low sc) (kd_lt sc) hk
    refine run_assign (p := .none) (Ev.m (Ev.cast (ev_meth1 G (n := 6) (κ := [(Hd, (K.map (hdN (nN sc))).map hdrP)]) (p := .str (nN sc yy)) (ev_local h6) (ev_Subscript (ev_local h5) (ev_Subscript (ev_local rfl) (ev_USub (ev_int (i := 1))) (op_item_list_neg (by decide) hneg (by decide) hlast)) (op_item_list (Int.natCast_nonneg _) hyf (names_get sc hyy))) (by decide) rfl rfl rfl (get_fn G (n := 0) (name_ok w _) hok) (R.less (by omega)) (fun c hc => by rw [List.mem_singleton.mp hc, ← hdP_map]; simp)) hgn)) (able_cell rfl rfl rfl rfl) ?_
    refine run_if (b := true) (evt_Compare (ev_cell rfl) ev_none op_is_none_none) (fun _ => ?_) (fun h => by cases h)
    refine law_grow G R (K := K) (p := p) (by omega) hpl hp7 h3 h4 h5 h6 h7 h8 h9 rfl fun ρ' a1 a2 a3 a4 a5 a6 a7 a8 => ?_
    intro W2
    obtain ⟨g', hg'⟩ := g.grow (matS sc) hv (fun n hn => S.inv.lt n (hall n hn)) hk
    rw [← epq] at g' hg'
    exact run_nil (kB ρ' _ _ _ ⟨a1, a2, a3, a4, a5, a6, a7⟩ a8 g' hg' (by simp [hpop_length]; omega))
end
end Mine

end

section
open PySem PySem.W PyProof.Rows PySem.Calls
namespace Mine
section
variable {w : World} {H : Heap}
/-- the address is none of the frame's -/
structure Off (env : Env) (B : List Addr) (D : Addr) : Prop where
  b : D ∉ B
  l : D ≠ env.locals
  c : D ∉ env.cells.map (·.2)

set_option maxHeartbeats 4000000 in
theorem law_search (G : Gl w (K0 w) H) {A : Around} (R : Room 30 A) {sc : List Int} {L Hd Mt Hp : Addr} {K met : List Nat} {heap : List Item} (g : GoodS sc K) (S : SI (clS sc) (kd sc) K met heap) {s0 : Shared} {X W B : List Addr} {ρ : Env0} {τ : List (PV × Value)} {P : PQ}
    (F : Fx sc K Hd Mt Hp ρ) (hg : ρ "grown" = some (.bool false)) (o1 : Off (lawE w L) B Mt) (o2 : Off (lawE w L) B Hp)
    (kF : ∀ W ρ' met', ρ' "ends" = some (endsP sc) → ρ' "kinds" = some (kindsP sc) → ρ' "names" = some (namesP sc) → ρ' "held" = some (.inst Hd) → ρ' "grown" = some (.bool false) → SI (clS sc) (kd sc) K met' [] → Run P0 w H A ⟨lawE w L, s0, X, W, ρ', [(Hd, K.map (hdP sc))], τ, [], B⟩ ((inOf (nthS lawB 7)).drop 7) P)
    (kG : ∀ W ρ' K', ρ' "ends" = some (endsP sc) → ρ' "kinds" = some (kindsP sc) → ρ' "names" = some (namesP sc) → ρ' "held" = some (.inst Hd) → ρ' "kept" = some (.lst (K.map natP)) → ρ' "grown" = some (.bool true) → GoodS sc K' → K'.length = K.length + 1 → Run P0 w H A ⟨lawE w L, s0, X, W, ρ', [(Hd, K'.map (hdP sc))], τ, [], B⟩ ((inOf (nthS lawB 7)).drop 7) P) :
    Run P0 w H A ⟨lawE w L, s0, X, W, ρ, [(Hp, heap.map itemP), (Mt, met.map natP), (Hd, K.map (hdP sc))], τ, [], B⟩ ((inOf (nthS lawB 7)).drop 6) P := by
  refine run_while (J := fun n ρ μ => Fx sc K Hd Mt Hp ρ ∧ ((ρ "grown" = some (.bool false) ∧ ∃ met heap, μ = [(Hp, heap.map itemP), (Mt, met.map natP), (Hd, K.map (hdP sc))] ∧ SI (clS sc) (kd sc) K met heap ∧ n = heap.length + (7 - met.length) + 1) ∨
      (ρ "grown" = some (.bool true) ∧ ∃ hh mm K', μ = [(Hp, hh), (Mt, mm), (Hd, K'.map (hdP sc))] ∧ GoodS sc K' ∧ K'.length = K.length + 1 ∧ n = 0 ∧ hh.length ≤ 1000)))
    (Jx := fun ρ μ => Fx sc K Hd Mt Hp ρ ∧ ((ρ "grown" = some (.bool false) ∧ ∃ met, μ = [(Hp, []), (Mt, met.map natP), (Hd, K.map (hdP sc))] ∧ SI (clS sc) (kd sc) K met []) ∨
      (ρ "grown" = some (.bool true) ∧ ∃ hh mm K', μ = [(Hp, hh), (Mt, mm), (Hd, K'.map (hdP sc))] ∧ GoodS sc K' ∧ K'.length = K.length + 1))) (Jb := fun _ _ => False)
    ⟨_, F, .inl ⟨hg, met, heap, rfl, S, rfl⟩⟩ ?_ ?_
  · rintro n W' ρ μ ⟨F, ⟨hg, met, heap, rfl, S, rfl⟩ | ⟨hg, hh, mm, K', rfl, g', hl', rfl, hb⟩⟩
    · have h1 := S.len
      have h2 := S.inv.size
      refine ⟨_, evt_and (evt_value (ev_local F.heap) (tr_mut (.head _) (by rw [List.length_map]; omega))) (fun _ => evt_not (evt_value (ev_local hg) tr_bool)), fun hb => ?_, fun hb => ?_⟩
      · have hne : heap ≠ [] := by
          rintro rfl
          simp at hb
        refine law_step G R g S hne F hg (fun ρ' met' heap' F' hg' S' hlt => ?_) (fun ρ' hh mm K' F' hg' g' hl' hb' => ?_)
        · exact ⟨_, by omega, F', .inl ⟨hg', met', heap', rfl, S', rfl⟩⟩
        · exact ⟨0, by omega, F', .inr ⟨hg', hh, mm, K', rfl, g', hl', rfl, hb'⟩⟩
      · have he : heap = [] := by
          cases heap with
          | nil => rfl
          | cons a b => simp at hb
        subst he
        exact ⟨F, .inl ⟨hg, met, rfl, S⟩⟩
    · refine ⟨_, evt_and (evt_value (ev_local F.heap) (tr_mut (.head _) hb)) (fun _ => evt_not (evt_value (ev_local hg) tr_bool)), fun hb => ?_, fun _ => ⟨F, .inr ⟨hg, hh, mm, K', rfl, g', hl'⟩⟩⟩
      simp at hb
  · rintro W' ρ μ (⟨F, ⟨hg, met, rfl, S⟩ | ⟨hg, hh, mm, K', rfl, g', hl'⟩⟩ | h)
    · refine run_freeze' (y := "heap") (D := Hp) o2.b o2.l o2.c rfl F.heap fun W1 => ?_
      refine run_freeze' (y := "met") (D := Mt) o1.b o1.l o1.c rfl F.met fun W2 => ?_
      exact kF _ _ met F.ends F.kinds F.names F.held hg S
    · refine run_freeze' (y := "heap") (D := Hp) o2.b o2.l o2.c rfl F.heap fun W1 => ?_
      refine run_freeze' (y := "met") (D := Mt) o1.b o1.l o1.c rfl F.met fun W2 => ?_
      exact kG _ _ K' F.ends F.kinds F.names F.held F.kept hg g' hl'
    · exact h.elim
end
end Mine

end

section
open PySem PySem.W PyProof.Rows PySem.Calls
namespace Mine
theorem castL_nodup : ∀ {l : List Nat}, l.Nodup → (castL l).Nodup
  | [], _ => List.nodup_nil
  | a :: l, h => by
    rw [List.nodup_cons] at h
    refine List.nodup_cons.mpr ⟨fun q => h.1 (mem_castL.mp q), castL_nodup h.2⟩
theorem dcount_self {l : List Nat} (h : l.Nodup) : dcount (castL l) = l.length := by
  rw [dcount_nodup (castL l) (castL_nodup h) (castL l) (fun _ => Iff.rfl)]
  simp [castL]
section
variable {w : World} {H : Heap}

set_option maxHeartbeats 4000000 in
/-- what is asked where one more is held -/
theorem law_check (G : Gl w (K0 w) H) {A : Around} (R : Room 30 A) {sc : List Int} {L Hd : Addr} {K K' : List Nat} (g : GoodS sc K') (hl : K'.length = K.length + 1) {s0 : Shared} {X W B : List Addr} {ρ : Env0} {τ : List (PV × Value)} {P : PQ}
    (h3 : ρ "ends" = some (endsP sc)) (h4 : ρ "kinds" = some (kindsP sc)) (h5 : ρ "names" = some (namesP sc)) (h6 : ρ "held" = some (.inst Hd)) (h7 : ρ "kept" = some (.lst (K.map natP))) (hg : ρ "grown" = some (.bool true))
    (k : ∀ ρ', ρ' "ends" = some (endsP sc) → ρ' "kinds" = some (kindsP sc) → ρ' "names" = some (namesP sc) → ρ' "held" = some (.inst Hd) → ρ' "grown" = some (.bool true) → P.nxt ρ' [(Hd, K'.map (hdP sc))]) :
    Run P0 w H A ⟨lawE w L, s0, X, W, ρ, [(Hd, K'.map (hdP sc))], τ, [], B⟩ ((inOf (nthS lawB 7)).drop 7) P := by
  have hl5 := Good.len g
  refine run_if (b := true) (evt_value (ev_local hg) tr_bool) (fun _ => ?_) (fun h => by cases h)
  refine run_comp_new (ps := K'.map numPV) (ρv := fun p ρ => upd ρ "text" p) (b := fun _ => true) (f := numOf) (itr_list R.handled (Ev.cast (ev_meth0 G (n := 2) (ev_local h6) (by decide) rfl rfl rfl (values_fn G (n := 0) (hs := K'.map (hdN (nN sc))) (by simp; omega)) (R.less (by omega)) (fun p q => by rw [List.mem_singleton.mp q, List.map_map]; exact .head _)) (by rw [List.map_map]; rfl))) (by simp) ?_ (by simp; omega) fun D hD => ?_
  · intro p hp D Cx s0 X W acc τ B
    obtain ⟨n, hn, rfl⟩ := List.mem_map.mp hp
    have h7 := g.lt n hn
    refine ⟨good_name, ρI_sub rfl, asg_name (able_local rfl rfl rfl), tst_nil, fun _ => ?_⟩
    exact ev_Call_typ (ev_builtin G rfl rfl rfl) (evl_cons (ev_local rfl) evl_nil) (opn_int_text (by rw [(num_int n h7).1]; rfl) (num_int n h7).2)
  have e1 := nums_list g.lt
  refine run_freeze (y := "new") hD rfl fun W1 => ?_
  have hts : ∀ t ∈ K'.map (En sc), t.1 < 5 ∧ t.2 < 5 := fun t ht => by
    obtain ⟨n, _, rfl⟩ := List.mem_map.mp ht
    exact En_lt sc n
  have hties : tiesI (K'.map (En sc)) = (K'.length : Int) := (ties_rnk _).trans (congrArg (fun (z : Nat) => (z : Int)) g.indep)
  refine run_if (b := false) (evt_or (a := false) (b := false) (EvT.cast (evt_Compare (ev_Call_blt (ev_builtin G rfl rfl rfl) (evl_cons (ev_local (congrArg (fun l => some (PV.lst l)) e1)) evl_nil) (opn_len_lst (by simp; omega))) (ev_BinOp (ev_Call_blt (ev_builtin G rfl rfl rfl) (evl_cons (ev_local h7) evl_nil) (opn_len_lst (by simp; omega))) (ev_int (i := 1)) op_add) op_ne) (by simp [hl])) (fun _ => ?t2)) (fun h => by cases h) (fun _ => run_nil fun W2 => ?_)
  case t2 =>
    refine EvT.cast (evt_Compare (ev_Call_fn G rfl (ties_fn G (K'.map (En sc)) hts (n := 0)) (R.less (by omega)) (ev_global G rfl) (evl_cons (EvF.ev (EvF.cast (evf_comp (ps := K'.map natP) (ρv := fun p ρ => upd ρ "n" p) (b := fun _ => true) (f := fun p => edgeP (En sc (natOf p))) (itr_list R.handled (ev_local (congrArg (fun l => some (PV.lst l)) e1))) (by simp) ?_ (by simp; omega)) ?_)) evl_nil)) (ev_Call_blt (ev_builtin G rfl rfl rfl) (evl_cons (ev_local (congrArg (fun l => some (PV.lst l)) e1)) evl_nil) (opn_len_lst (by simp; omega))) op_ne) (by rw [hties]; simp)
    · intro p hp D Cx s0 X W acc τ B
      obtain ⟨n, hn, rfl⟩ := List.mem_map.mp hp
      have h7 := g.lt n hn
      refine ⟨good_name, ρI_sub rfl, asg_name (able_local rfl rfl rfl), tst_nil, fun _ => ?_⟩
      exact ev_Subscript (ev_cell h3) (ev_local rfl) (op_item_list (by omega) (by omega) (ends_get sc h7))
    · rw [ends_list sc K' (fun _ => true), List.filter_eq_self.mpr (fun _ _ => rfl)]
  refine run_if (b := false) (EvT.cast (evt_Compare (ev_lenset (ns := castL (K'.map (kd sc))) (R.less (by omega)) (ev_builtin G rfl rfl rfl) (ev_builtin G rfl rfl rfl) (EvF.ev (EvF.cast (evf_comp (ps := K'.map natP) (ρv := fun p ρ => upd ρ "n" p) (b := fun _ => true) (f := fun p => natP (kd sc (natOf p))) (itr_list R.handled (ev_local (congrArg (fun l => some (PV.lst l)) e1))) (by simp) ?_ (by simp; omega)) ?_)) (by simp [castL]; omega)) (ev_Call_blt (ev_builtin G rfl rfl rfl) (evl_cons (ev_local (congrArg (fun l => some (PV.lst l)) e1)) evl_nil) (opn_len_lst (by simp; omega))) op_ne) (by rw [dcount_self g.kinds]; simp)) (fun h => by cases h) (fun _ => run_nil fun W3 => ?_)
  · intro p hp D Cx s0 X W acc τ B
    obtain ⟨n, hn, rfl⟩ := List.mem_map.mp hp
    have h7 := g.lt n hn
    refine ⟨good_name, ρI_sub rfl, asg_name (able_local rfl rfl rfl), tst_nil, fun _ => ?_⟩
    exact ev_Subscript (ev_cell h4) (ev_local rfl) (op_item_list (by omega) (by omega) (kinds_get sc h7))
  · rw [List.filter_eq_self.mpr (fun _ _ => rfl), ← natP_cast, List.map_map, List.map_map]
    rfl
  exact run_nil fun W4 => run_nil (k _ h3 h4 h5 h6 hg)
end
end Mine

end

section
open PySem PySem.W PyProof.Rows PySem.Calls
namespace Mine
def endsL (sc : List Int) : List (Nat × Nat) := (xsL sc).map endX
def kindsL (sc : List Int) : List Nat := (xsL sc).map xk
theorem endsL_get (sc : List Int) : ∀ n < 7, (endsL sc).getD n (0, 0) = En sc n := fun n hn => by
  unfold endsL
  rw [List.getD, List.getElem?_map, xsL_get sc hn]; rfl
theorem kindsL_get (sc : List Int) : ∀ n < 7, (kindsL sc).getD n 0 = kd sc n := fun n hn => by
  unfold kindsL
  rw [List.getD, List.getElem?_map, xsL_get sc hn]; rfl
theorem endsP_eq (sc : List Int) : endsP sc = .lst ((endsL sc).map edgeP) := by
  unfold endsP endsL
  rw [List.map_map]; rfl
theorem kindsP_eq (sc : List Int) : kindsP sc = .lst ((kindsL sc).map natP) := by
  unfold kindsP kindsL
  rw [List.map_map]; rfl
section
variable {w : World} {H : Heap}

set_option maxHeartbeats 4000000 in
theorem law_ret (G : Gl w (K0 w) H) {A : Around} (R : Room 30 A) {sc : List Int} {L Hd : Addr} {K met : List Nat} (g : GoodS sc K) (S : SI (clS sc) (kd sc) K met []) {s0 : Shared} {X W B : List Addr} {ρ : Env0} {τ : List (PV × Value)}
    (h3 : ρ "ends" = some (endsP sc)) (h4 : ρ "kinds" = some (kindsP sc)) (h6 : ρ "held" = some (.inst Hd)) :
    Run P0 w H A ⟨lawE w L, s0, X, W, ρ, [(Hd, K.map (hdP sc))], τ, [], B⟩ (lawB.drop 8) (retP (.bool true)) := by
  have hl5 := Good.len g
  have hm := final_mem (En_lt sc) (kd_lt sc) (endsL_get sc) (kindsL_get sc) g S.inv (fun p h => nomatch h)
  have hle := final_le (En_lt sc) (kd_lt sc) (endsL_get sc) (kindsL_get sc) g
  have he5 : ∀ t ∈ endsL sc, t.1 < 5 ∧ t.2 < 5 := fun t ht => by
    obtain ⟨x, _, rfl⟩ := List.mem_map.mp ht
    exact end_lt x
  have hk5 : ∀ k ∈ kindsL sc, k < 5 := fun k hk => by
    obtain ⟨x, _, rfl⟩ := List.mem_map.mp hk
    exact xk_lt x
  refine run_return (p := .bool true) (Ev.m (Ev.cast (ev_Compare (ev_Call_blt (ev_builtin G rfl rfl rfl) (evl_cons (ev_local h6) evl_nil) (opn_len_inst G (n := 3) (R.less (by omega)) (.head _) (by simp; omega))) (ev_Call_fn G rfl (most_fn G (n := 0) (endsL sc) (kindsL sc) (by simp [endsL, xsL]) (by simp [kindsL, xsL]) he5 hk5 hm hle) (R.less (by omega)) (ev_global G rfl) (evl_cons (ev_cell (h3.trans (congrArg some (endsP_eq sc)))) (evl_cons (ev_cell (h4.trans (congrArg some (kindsP_eq sc)))) evl_nil))) op_eq) (by simp))) rfl

set_option maxHeartbeats 4000000 in
theorem law_last (G : Gl w (K0 w) H) {A : Around} (R : Room 30 A) {sc : List Int} {L Hd : Addr} {s0 : Shared} {X W B : List Addr} {ρ : Env0} {τ : List (PV × Value)}
    (h3 : ρ "ends" = some (endsP sc)) (h4 : ρ "kinds" = some (kindsP sc)) (h5 : ρ "names" = some (namesP sc)) (h6 : ρ "held" = some (.inst Hd)) :
    Run P0 w H A ⟨lawE w L, s0, X, W, ρ, [(Hd, [])], τ, [], B⟩ (lawB.drop 6) (retP (.bool true)) := by
  refine run_assign (p := .bool true) (Ev.m ev_bool) (able_local rfl rfl rfl) ?_
  refine run_while (J := fun n ρ μ => (ρ "ends" = some (endsP sc) ∧ ρ "kinds" = some (kindsP sc) ∧ ρ "names" = some (namesP sc) ∧ ρ "held" = some (.inst Hd)) ∧ ((ρ "grown" = some (.bool true) ∧ ∃ K, μ = [(Hd, K.map (hdP sc))] ∧ GoodS sc K ∧ n = 8 - K.length) ∨
      (ρ "grown" = some (.bool false) ∧ n = 0 ∧ ∃ K met, μ = [(Hd, K.map (hdP sc))] ∧ GoodS sc K ∧ SI (clS sc) (kd sc) K met [])))
    (Jx := fun ρ μ => (ρ "ends" = some (endsP sc) ∧ ρ "kinds" = some (kindsP sc) ∧ ρ "names" = some (namesP sc) ∧ ρ "held" = some (.inst Hd)) ∧ ∃ K met, μ = [(Hd, K.map (hdP sc))] ∧ GoodS sc K ∧ SI (clS sc) (kd sc) K met []) (Jb := fun _ _ => False)
    ⟨8, ⟨h3, h4, h5, h6⟩, .inl ⟨rfl, [], rfl, ⟨(fun _ h => nomatch h), List.nodup_nil, (matS sc).nil⟩, rfl⟩⟩ ?_ ?_
  · rintro n W' ρ μ ⟨⟨a1, a2, a3, a4⟩, ⟨hg, K, rfl, g, rfl⟩ | ⟨hg, rfl, K, met, rfl, g, S⟩⟩
    · have hl5 := Good.len g
      refine ⟨true, evt_value (ev_local hg) tr_bool, fun _ => ?_, fun h => by cases h⟩
      refine law_w1 G R g a1 a2 a3 a4 fun W1 ρ1 Mt hMt b1 b2 b3 b4 b5 b6 b7 => ?_
      refine law_w2 G R b1 b2 b3 b4 b5 b6 b7 fun W2 ρ2 Hp heap hHp c1 c2 c3 c4 c5 c6 c7 c8 S => ?_
      refine law_search G R g S ⟨c1, c2, c3, c4, c6, c7, c8⟩ c5 ⟨hMt.2.1, hMt.2.2.1, hMt.2.2.2⟩ ⟨hHp.2.1, hHp.2.2.1, hHp.2.2.2⟩ (fun W3 ρ3 met' d1 d2 d3 d4 d5 S' => ?_) (fun W3 ρ3 K' d1 d2 d3 d4 d5 d6 g' hl' => ?_)
      · refine run_if (b := false) (evt_value (ev_local d5) tr_bool) (fun h => by cases h) (fun _ => run_nil fun W4 => run_nil ⟨0, by omega, ⟨d1, d2, d3, d4⟩, .inr ⟨d5, rfl, K, met', rfl, g, S'⟩⟩)
      · exact law_check G R g' hl' d1 d2 d3 d4 d5 d6 fun ρ4 e1 e2 e3 e4 e5 => ⟨8 - K'.length, by omega, ⟨e1, e2, e3, e4⟩, .inl ⟨e5, K', rfl, g', rfl⟩⟩
    · exact ⟨false, evt_value (ev_local hg) tr_bool, fun h => (by cases h), fun _ => ⟨⟨a1, a2, a3, a4⟩, K, met, rfl, g, S⟩⟩
  · rintro W' ρ μ (⟨⟨a1, a2, a3, a4⟩, K, met, rfl, g, S⟩ | h)
    · exact law_ret G R g S a1 a2 a4
    · exact h.elim
end
end Mine

end

section
open PySem PySem.W PyProof.Rows PySem.Calls
namespace Mine
def pairF (p q : PV) : PV := .tup [p, q]
def pairQ (p : PV) : List PV := rangeL (natOf p)
theorem flat_pairs : flat pairQ pairF (rangeL 5) = pairsL.map edgeP := by rfl
def lawSc : Scope := match PySem.Challenge.pw_pg0271_01.main.body.getLast? with
  | some (.FunctionDef _ _ _ _ _ _ sc _ _ _) => sc
  | _ => default
theorem law_sc (w : World) : (lawFd w).scope = lawSc := by rfl
theorem lawSc_nd : (lawSc.names.map (·.1)).Nodup := by decide +kernel
theorem lawSc_script : lawSc.names.lookup ("script" : Str) = some .local := by rfl
theorem law_bind (w : World) (a : Addr) : bindArgs (lawFd w) ⟨[.ref a], []⟩ = pure ([("script" : Str)].zip [Value.ref a]) := by kernel_rfl
theorem law_look (w : World) : ∃ oc od osl, (K0 w).lookup 246 = some ⟨oc, od, .func (lawFd w), osl⟩ := ⟨_, _, _, by rfl⟩
theorem law_code (w : World) : codeIn (K0 w) (lawFd w).code (lawFd w).qualname = true := by rfl
theorem law_clo (w : World) : (lawFd w).closure = [] := by rfl
theorem law_co (w : World) : (lawFd w).scope.isCoroutine = false := by rfl
theorem law_gen (w : World) : (lawFd w).scope.isGenerator = false := by rfl
theorem law_kind (w : World) : (lawFd w).scope.kind = .function := by rfl
section
variable {w : World} {H H' : Heap}

set_option maxHeartbeats 4000000 in
theorem law_all (G : Gl w (K0 w) H) (G' : Gl w (K0 w) H') (hH : ∀ a, H'.get? a = H.get? a) (hf : H.life.known ≠ 0) (hz : H'.life.known = 0) {A : Around} (R : Room 30 A) {sc : List Int} (hlen : sc.length ≤ 63) {L : Addr} {s0 : Shared} {X W B : List Addr} {ρ : Env0} {τ : List (PV × Value)}
    (h1 : ρ "script" = some (.lst (sc.map PV.int))) : Run P0 w H A ⟨lawE w L, s0, X, W, ρ, [], τ, [], B⟩ lawB (retP (.bool true)) := by
  refine run_comp2_new (x := "p") (y := "q") hH hf (ps := rangeL 5) (qs := pairQ) (f := pairF) (itr_range R.handled (by omega) (ev_builtin G rfl rfl rfl) (ev_int (i := 5))) (by simp) ?_ (fun env v => rfl) ?_ ?_ (by decide) (fun Cx => able_local rfl rfl rfl) (fun Cx => able_local rfl rfl rfl) ?_ ?_ fun D hD => ?_
  · intro i p hp
    obtain ⟨hi, rfl⟩ := rangeL_get hp
    have : ∀ i < 5, (flat pairQ pairF ((rangeL 5).take i)).length + (rangeL i).length ≤ 1000 := by decide
    exact this i hi
  · rfl
  · rfl
  · intro p hp D Cx s0 X W acc τ B
    obtain ⟨i, hi, rfl⟩ := rangeL_mem hp
    exact itr_range (n := i) R.handled (by omega) (ev_builtin G rfl rfl rfl) (ev_local rfl)
  · intro p hp q hq D Cx s0 X W acc τ B
    exact ev_Tuple (evl_cons (ev_local rfl) (evl_cons (ev_local rfl) evl_nil)) (by simp)
  · refine run_freeze (y := "pairs") hD rfl fun W1 => ?_
    refine law_first G' hz R hlen h1 (congrArg (fun l => some (PV.lst l)) flat_pairs) fun W2 ρ' Hd a1 a2 a3 a4 => ?_
    exact law_last G' R a1 a2 a3 a4

theorem Gl.of_get (G : Gl w (K0 w) H) (hH : ∀ a o, H.get? a = some o → H'.get? a = some o) : Gl w (K0 w) H' :=
  ⟨fun a o e => hH a o (G.kin a o e), let ⟨mb, h, k⟩ := G.b; ⟨mb, h.keeps hH, k⟩, G.nolimit.keeps hH, let ⟨mc, h, k⟩ := G.nodigits; ⟨mc, h.keeps hH, k⟩⟩

theorem room_caller (env : Env) : Room 30 (callerA.deeper env) := by
  refine ⟨rfl, ?_, ?_, ⟨[env], rfl⟩, rfl⟩
  · show callerA.depth + 1 + 30 ≤ 900
    decide
  · show callerA.units + 3 + 20 * 30 ≤ 9000
    decide

/-- the call of a def of one parameter -/
theorem call_one {H : Heap} {s₁ : Shared} {fd : FuncData} {oc : Value} {od : Option Addr} {osl : Array (Option Value)} {f : Addr} {x : Str} {v : Value} {p : PV} {body : List Stmt} {A : Around} {R : Result → Shared → Prop} (G : Gl w (K0 w) H) (S : St0 H [] s₁) (hroom : A.depth < recursionLimit)
    (hlk : (K0 w).lookup f = some ⟨oc, od, .func fd, osl⟩) (hb : fd.body = .stmts body) (hc : codeIn (K0 w) fd.code fd.qualname = true) (hbind : bindArgs fd ⟨[v], []⟩ = pure ([x].zip [v])) (hclo : fd.closure = []) (hnd : (fd.scope.names.map (·.1)).Nodup) (hx : fd.scope.names.lookup x = some .local)
    (hr : RepL s₁.heap [] [p] [v]) (hrun : ∀ L, Run P0 w H (A.deeper (callEnvC fd L f)) (cfF fd L f s₁ [] [] (fun y => ([x].zip [p]).lookup y) [] []) body (retP (.bool true)))
    (fin : ∀ s', (∃ h t, s' = { s₁ with heap := h, toks := t }) → (∀ b o, H.get? b = some o → s'.heap.get? b = some o) → R (.ok (.ret (.bool true))) s')
    (hco : fd.scope.isCoroutine = false) (hgen : fd.scope.isGenerator = false) (hk : fd.scope.kind = .function) : codeAny (model P0 w) A (.call (.ref f) ⟨[v], []⟩) R s₁ := by
  have hmem : ∀ y ∈ [x].zip [v], y.1 ∈ [x] := fun y q => (List.of_mem_zip (a := y.1) (b := y.2) q).1
  have hkd : ∀ y ∈ [x], fd.scope.names.lookup y = some .local ∨ fd.scope.names.lookup y = some .cell := fun y q => by
    rw [List.mem_singleton.mp q]
    exact .inl hx
  refine enter_fn (P := retP (.bool true)) (X := []) (μ := []) (κ := []) (W := []) (binds := [x].zip [v]) (ρ := fun y => ([x].zip [p]).lookup y) G S hroom hlk hb hc (.of_eq hbind) hclo (zip_nodup (by simp)) hnd (fun y q => (kinds_ok hnd (hkd _ (hmem y q))).1) (fun y q => (kinds_ok hnd (hkd _ (hmem y q))).2)
    (fun y p e => zip_rep hr e) (fun _ q => nomatch q) (fun _ q => nomatch q) (fun _ q => nomatch q) List.nodup_nil (fun _ q => nomatch q) hrun ?_ hco hgen hk
  rintro L fl s' ⟨W', ρ', μ', F', hp⟩
  cases fl with
  | ret v =>
    obtain ⟨p, r1, hp⟩ := hp
    have hp : p = .bool true := hp
    subst hp
    simp only [Rep] at r1
    subst r1
    exact fin s' F'.same fun b o e => F'.old b o e
  | next => cases hp
  | cont => exact hp.elim
  | brk => exact hp.elim

set_option maxHeartbeats 4000000 in
/-- the law's call -/
theorem law_call {s₁ : Shared} (G : Gl w (K0 w) s₁.heap) {sc : List Int} (hlen : sc.length ≤ 63) {a : Addr} {vs : List Value} (hl : s₁.heap.PlainList a vs.toArray) (hi : IntsAre vs sc) {R : Result → Shared → Prop}
    (fin : ∀ s', (∃ h t, s' = { s₁ with heap := h, toks := t }) → (∀ b o, s₁.heap.get? b = some o → s'.heap.get? b = some o) → R (.ok (.ret (.bool true))) s') : codeAny (model P0 w) callerA (.call (.ref 246) ⟨[.ref a], []⟩) R s₁ := by
  have G1 : Gl w (K0 w) ⟨s₁.heap.objs, { known := 1 }⟩ := G.of_get fun a o e => e
  have G2 : Gl w (K0 w) ⟨s₁.heap.objs, {}⟩ := G.of_get fun a o e => e
  have hv : RepL s₁.heap [] (sc.map PV.int) vs := by
    clear fin hlen hl
    induction hi with
    | nil => exact .nil
    | cons n t _ ih => exact .cons (by simp [Rep]) ih
  have hr : RepL s₁.heap [] [.lst (sc.map PV.int)] [.ref a] := .one (by simp only [Rep]; exact ⟨a, vs, rfl, (fun q => nomatch q), hl, hv⟩)
  have S : St0 ⟨s₁.heap.objs, { known := 1 }⟩ [] s₁ := ⟨fun b o e => e, (fun _ q => nomatch q), (fun _ q => nomatch q), fun q => by cases q⟩
  obtain ⟨oc, od, osl, hlk⟩ := law_look w
  have hnd : ((lawFd w).scope.names.map (·.1)).Nodup := (law_sc w) ▸ lawSc_nd
  have hx : (lawFd w).scope.names.lookup ("script" : Str) = some .local := (law_sc w) ▸ lawSc_script
  have hrun : ∀ L, Run P0 w ⟨s₁.heap.objs, { known := 1 }⟩ (callerA.deeper (callEnvC (lawFd w) L 246)) (cfF (lawFd w) L 246 s₁ [] [] (fun x => ([("script" : Str)].zip [PV.lst (sc.map PV.int)]).lookup x) [] []) lawB (retP (.bool true)) := fun L =>
    law_all G1 G2 (fun a => rfl) (show (1 : Nat) ≠ 0 by decide) rfl (room_caller _) hlen rfl
  have hbody := law_body w
  have hcode := law_code w
  have hbind := law_bind w a
  have hclo := law_clo w
  have hco := law_co w
  have hgen := law_gen w
  have hkind := law_kind w
  generalize lawFd w = fd at hlk hnd hx hrun hbody hcode hbind hclo hco hgen hkind
  exact call_one (x := ("script" : Str)) G1 S (by decide) hlk hbody hcode hbind hclo hnd hx hr hrun (fun s' h1 h2 => fin s' h1 fun b o e => h2 b o e) hco hgen hkind
end
end Mine

end

section
open PySem PySem.W PyProof.Rows PySem.Calls
set_option maxHeartbeats 8000000
namespace Mine
theorem law_addr (w : World) : nsIn (K0 w) mainGlobals "law" = some (some (.ref 246)) := by rfl
theorem well_plain {P : Params} {h : Heap} {a : Addr} {ns : List Int} (x : Well P h (.ref a) (ofPy (PyData.list (ns.map PyData.int)))) : ∃ vs : List Value, h.PlainList a vs.toArray := by
  generalize hd : ofPy (PyData.list (ns.map PyData.int)) = d at x
  cases x with
  | list ho _ => exact ⟨_, 0, ho⟩
  | _ => simp [ofPy] at hd
theorem post_ok (args : List WData) : PySem.Challenge.rw_pg0271_01.row.claim.post args (.bool true) args = true := by
  show (WShape.has [] (.bool true) .bool && WTm.holds [] (.eq .res (.lit (.bool true))) { args := args, res := some (.bool true), after := args }) = true
  simp [WTm.holds, WTm.value, WShape.has, WShape.arms, same]
theorem t1 : PySem.Challenge.rw_pg0271_01.Holds := Mine.hd (by
  intro w s₀ s₁ mg mb G Y fa o pm cd doc dV kV ho hd hcd hD hmg hg args vals as hpre hlay hrd hwl hlo
  have KX := kIn_of Y
  refine Ground.open G ?_
  intro T B D TE TW
  wrow_args hpre hlay hrd hwl hlo
  refine enter_call ?_
  refine codeAny_mono ?_ (fun _ _ g => GoodW.toG g)
  clear hd hcd hD ho Y
  have e : fa = 246 := by
    have h1 := mg_of KX T.g (law_addr w)
    have h2 := hmg.symm.trans h1
    injection h2 with h3
    injection h3
  subst e
  rename_i ns _ _ _ _ _ _ _ a vs _ hL _ w1 _ hI _ hc _
  obtain ⟨vs', hpl⟩ := well_plain w1
  have ev : vs' = vs := by
    obtain ⟨n, h1⟩ := hpl
    obtain ⟨o, h2, _, m, h3⟩ := hL
    rw [h1] at h2
    cases h2
    injection h3 with h4 h5
    injection h4
  subst ev
  have GL : Gl w (K0 w) s₁.heap := ⟨KX, ⟨mb, T.b, T.builtins⟩, T.nolimit, T.nodigits⟩
  have hlen : ns.length ≤ 63 := by omega
  refine law_call GL hlen hpl hI fun s' hs hk => ?_
  obtain ⟨h, t, rfl⟩ := hs
  refine ⟨.inl ⟨.bool true, .bool true, [], rfl, fun cls => rfl, ?_, ?_, fun _ => ⟨List.nodup_nil, fun _ q => nomatch q⟩⟩, hk, rfl, hg⟩
  · exact .bool true
  · exact post_ok _)

end Mine

end

set_option maxHeartbeats 8000000 in
theorem PySem.Challenge.cw_pg0271_01_holds : PySem.Challenge.rw_pg0271_01.Holds := by
  exact Mine.t1
