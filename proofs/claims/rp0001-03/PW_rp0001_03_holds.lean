import PyProof.Rows.All
import Wide.All
import OpenK.AllK
import Wide.FinOn
import KE.KEqDict
import PyProof.SliceMore
import PySem.Challenge.RW_rp0001_03
set_option maxRecDepth 100000
set_option Elab.async false
set_option linter.unusedVariables false
set_option linter.unusedSimpArgs false
noncomputable section
set_option maxHeartbeats 0
namespace Mine
open PySem PySem.W PyProof.Rows PySem.Calls
section
local macro_rules | `(tactic| o_head $_) => `(tactic| assumption)
theorem kx (hh : PySem.Challenge.rw_rp0001_03.row.Holds) : PySem.Challenge.rw_rp0001_03.row.Holds := by k_head
end
def keep3 (l : List Stmt) : List Stmt := l.take 6 ++ ((l.drop 7).take 2 ++ l.drop 10)
noncomputable def view3 : Program := { PySem.Challenge.pw_rp0001_03 with main := { PySem.Challenge.pw_rp0001_03.main with body := keep3 PySem.Challenge.pw_rp0001_03.main.body } }
def loose3 : List Str := [Str.ofString "Production", Str.ofString "Grammar", Str.ofString "_law_NAMES", Str.ofString "_law_LETTERS"]
end Mine

set_option maxHeartbeats 0
namespace Mine
open PySem PySem.W PyProof.Rows PySem.Calls
noncomputable def as3 : List Addr := [2, 3, 15, 17, 18, 20, 21, 22, 29, 30, 31, 32, 35, 38, 39, 40, 42, 43, 45, 46, 47, 54, 55, 56, 58, 59, 61, 62, 63, 65, 66, 68, 69, 70, 72, 73, 75, 76, 77, 79, 80, 82, 83, 84, 86, 87, 89, 90, 91, 93, 94, 96, 97, 98, 99, 100, 101, 102, 105, 107, 108, 110, 111, 112, 119, 120, 121, 124, 131, 133, 134, 136, 137, 138, 140, 141, 143, 144, 145, 147, 148, 150, 151, 152, 154, 155, 157, 158, 159, 160, 162, 163, 165, 166, 167, 168, 170, 171, 173, 174, 175, 177, 178, 180, 181, 182, 184, 185, 187, 188, 189, 191, 192, 194, 195, 196, 198, 199, 201, 202, 203, 205, 206, 208, 209, 210, 212, 213, 215, 216, 217, 219, 220, 222, 223, 224, 226, 227, 229, 230, 231, 232, 234, 235, 237, 238, 239, 241, 242, 244, 245, 246, 247, 248, 249, 250, 253, 254, 255, 257, 258, 260, 261, 262, 265, 266, 267, 269, 270, 272, 273, 274, 277, 278, 279, 282, 283, 284, 286, 287, 289, 290, 291, 294, 295, 296, 299, 300, 301, 304, 305]
noncomputable def prog3 : Program := PySem.Challenge.rw_rp0001_03.row.prog
noncomputable def Xt3 (s : Shared) : Bool := xlAt view3 [] s && recOk (RowW.records PySem.Challenge.rw_rp0001_03.row.toRowW) s
noncomputable def hook3 : Hook := kHook kx.heap_1 as3 (fun _ => by kernel_rfl)
noncomputable def looks3 (w : World) (s : Shared) := ((staticsOk (importedModules prog3.main.body) (boot_heap w.params) s.heap && namesBound prog3 s.heap && gensDone s && laidKept (boot_heap w.params) s.heap), openSeen view3 loose3 (importedModules prog3.main.body) Xt3 true s, hook3.obs s)
theorem size3 (w : World) : ((boot_heap w.params).isNs mainGlobals && (#[] : Array GenState).size == 0, (boot_heap w.params).objs.size, (boot_heap w.params).nsMap mainGlobals "__annotations__") = (true, 11, some (.ref 6)) := by
  kernel_rfl
theorem run3f (w : World) : (fun os => (topRun treeTable prog3 (w.withFollow "special-get-raises" false) 11 (some (.ref 6)) 2065 ⟨boot_heap w.params, ⟨[]⟩, boot_drawn, boot_toks, os⟩ (topStub prog3)).map (looks3 w)) = fun _ => some (true, openGood view3 loose3, hook3.val w) := by
  unfold looks3
  rw [PySem.W.Fast.te14082659384304107361, PySem.W.Fast.te14364793385576792824, PySem.W.Fast.te4187177175401517315, PySem.W.Fast.te5923862056798008813]
  kernel_rfl
theorem run3t (w : World) : (fun os => (topRun treeTable prog3 (w.withFollow "special-get-raises" true) 11 (some (.ref 6)) 2065 ⟨boot_heap w.params, ⟨[]⟩, boot_drawn, boot_toks, os⟩ (topStub prog3)).map (looks3 w)) = fun _ => some (true, openGood view3 loose3, hook3.val w) := by
  unfold looks3
  rw [PySem.W.Fast.te14082659384304107361, PySem.W.Fast.te14364793385576792824, PySem.W.Fast.te4187177175401517315, PySem.W.Fast.te5923862056798008813]
  kernel_rfl
theorem run3 (w : World) : (fun os => (topRun treeTable prog3 w 11 (some (.ref 6)) 2065 ⟨boot_heap w.params, ⟨[]⟩, boot_drawn, boot_toks, os⟩ (topStub prog3)).map (looks3 w)) = fun _ => some (true, openGood view3 loose3, hook3.val w) := by
  have h : ∀ b : Bool, (fun os => (topRun treeTable prog3 (w.withFollow "special-get-raises" b) 11 (some (.ref 6)) 2065 ⟨boot_heap w.params, ⟨[]⟩, boot_drawn, boot_toks, os⟩ (topStub prog3)).map (looks3 w)) = fun _ => some (true, openGood view3 loose3, hook3.val w) := fun b => by
    cases b
    · exact run3f w
    · exact run3t w
  have := h (w.params.followText "special-get-raises")
  rwa [World.withFollow_self] at this
theorem left3 : LeftO prog3 view3 loose3 Xt3 hook3.obs hook3.val 2065 := fun w => by
  obtain ⟨⟨h, gs, d, k, os⟩, e, e'⟩ := Option.map_eq_some_iff.mp (boot_open (p := prog3) (N := 2065) (by kernel_rfl) rfl (fun s => by kernel_rfl) w)
  obtain ⟨rfl, rfl, rfl, rfl⟩ : h = boot_heap w.params ∧ gs = Array.mk [] ∧ d = boot_drawn ∧ k = boot_toks := by simpa using e'
  obtain ⟨z1, z2, z3⟩ : _ ∧ _ ∧ _ := by simpa only [Prod.mk.injEq] using size3 w
  obtain ⟨s₁, r, hs⟩ := Option.map_eq_some_iff.mp (congrFun (run3 w) os)
  obtain ⟨l1, l2, l3⟩ : _ ∧ _ ∧ _ := by simpa only [looks3, Prod.mk.injEq] using hs
  have t : topFrom treeTable prog3 w 2065 ⟨boot_heap w.params, Array.mk [], boot_drawn, boot_toks, os⟩ = some s₁ := by
    unfold topFrom
    dsimp only
    rw [z1, z2, z3, r]
    show (match staticsOk (importedModules prog3.main.body) (boot_heap w.params) s₁.heap && namesBound prog3 s₁.heap && gensDone s₁ && laidKept (boot_heap w.params) s₁.heap with | true => _ | false => _) = _
    rw [l1]
  unfold openEnds
  rw [e]
  show (topFrom treeTable prog3 w 2065 _).map _ = _
  rw [t]
  exact congrArg some (Prod.ext l2 l3)
theorem said3 : PySem.Challenge.rw_rp0001_03.wellSaid = true := by
  rw [PySem.W.Fast.te9446332074065402090]
  kernel_rfl
end Mine

namespace Mine
open PySem PySem.W PySem.Calls PyProof.Rows

/-- data as trees; raw: a value by identity (an object that may change, a function ..) -/
inductive D where
  | none
  | bool (b : Bool)
  | int (i : Int)
  | str (s : Str)
  | list (xs : List D)
  | tup (xs : List D)
  | dct (kds : List (Str × D))
  | raw (v : Value)
  | rng (n : Nat)
  | obj (c d : Addr)
  | inst (c : Addr) (kds : List (Str × D))

structure Cx where
  prog : Program
  w : World
  K : Frag
  p : Program
  loose : List Str
  mg : Str → Option Value
  mb : Str → Option Value
  fr : List Env

/-- not the frame of a call under way -/
def NotFr (X : Cx) (a : Addr) : Prop := ∀ e ∈ X.fr, e.frame ≠ some a
abbrev Cx.at (X : Cx) (l : List Env) : Cx := { X with fr := l }
abbrev Cx.M (X : Cx) : Model := model X.prog X.w
abbrev Cx.kd (X : Cx) : PySem.KeyKind X.prog X.w Str := strKind X.prog X.w

def Le (b h : Heap) : Prop := ∀ a o, b.get? a = some o → h.get? a = some o
theorem Le.refl (b : Heap) : Le b b := fun _ _ e => e
theorem Le.trans {a b c : Heap} (x : Le a b) (y : Le b c) : Le a c := fun _ _ e => y _ _ (x _ _ e)

mutual
inductive Rp (X : Cx) (b : Heap) : Value → D → Prop
  | none : Rp X b .none .none
  | bool (x) : Rp X b (.bool x) (.bool x)
  | int (i t) : Rp X b (.int i t) (.int i)
  | str (x t) : Rp X b (.str x t) (.str x)
  | list {a vs n ds} : b.get? a = some (seqObj "list" vs n) → RpAll X b vs.toList ds → Rp X b (.ref a) (.list ds)
  | tup {a vs n ds} : b.get? a = some (seqObj "tuple" vs n) → RpAll X b vs.toList ds → Rp X b (.ref a) (.tup ds)
  | dct {a kvs ep kds} : (a == sysModules) = false → b.DictAt X.kd a kvs ep → RpKv X b kvs kds → Rp X b (.ref a) (.dct kds)
  | raw (v) : Rp X b v (.raw v)
  | rng {a n t u v} : IsRange b a 0 (n : Nat) 1 t u v → Rp X b (.ref a) (.rng n)
  | obj {a c d} : b.get? a = some (instObj c d) → Rp X b (.ref a) (.obj c d)
  | inst {a c d kvs ep kds} : b.get? a = some (instObj c d) → (d == sysModules) = false → b.DictAt X.kd d kvs ep → RpKv X b kvs kds → Rp X b (.ref a) (.inst c kds)
inductive RpAll (X : Cx) (b : Heap) : List Value → List D → Prop
  | nil : RpAll X b [] []
  | cons {v vs d ds} : Rp X b v d → RpAll X b vs ds → RpAll X b (v :: vs) (d :: ds)
inductive RpKv (X : Cx) (b : Heap) : List (Str × Value) → List (Str × D) → Prop
  | nil : RpKv X b [] []
  | cons {k v d kvs kds} : Rp X b v d → RpKv X b kvs kds → RpKv X b ((k, v) :: kvs) ((k, d) :: kds)
end

variable {X : Cx}

mutual
theorem Rp.mono {b b' : Heap} (h : Le b b') : ∀ {v : Value} {d : D}, Rp X b v d → Rp X b' v d
  | _, _, .none => .none
  | _, _, .bool x => .bool x
  | _, _, .int i t => .int i t
  | _, _, .str x t => .str x t
  | _, _, .list g r => .list (h _ _ g) (RpAll.mono h r)
  | _, _, .tup g r => .tup (h _ _ g) (RpAll.mono h r)
  | _, _, .dct n g r => .dct n (g.keep h) (RpKv.mono h r)
  | _, _, .raw v => .raw v
  | _, _, .rng g => .rng (h _ _ g)
  | _, _, .obj g => .obj (h _ _ g)
  | _, _, .inst g n q r => .inst (h _ _ g) n (q.keep h) (RpKv.mono h r)
theorem RpAll.mono {b b' : Heap} (h : Le b b') : ∀ {vs : List Value} {ds : List D}, RpAll X b vs ds → RpAll X b' vs ds
  | _, _, .nil => .nil
  | _, _, .cons r q => .cons (Rp.mono h r) (RpAll.mono h q)
theorem RpKv.mono {b b' : Heap} (h : Le b b') : ∀ {vs : List (Str × Value)} {ds : List (Str × D)}, RpKv X b vs ds → RpKv X b' vs ds
  | _, _, .nil => .nil
  | _, _, .cons r q => .cons (Rp.mono h r) (RpKv.mono h q)
end

mutual
theorem Rp.at {l : List Env} {b : Heap} : ∀ {v : Value} {d : D}, Rp X b v d → Rp (X.at l) b v d
  | _, _, .none => .none
  | _, _, .bool x => .bool x
  | _, _, .int i t => .int i t
  | _, _, .str x t => .str x t
  | _, _, .list g r => .list g (RpAll.at r)
  | _, _, .tup g r => .tup g (RpAll.at r)
  | _, _, .dct n g r => .dct n g (RpKv.at r)
  | _, _, .raw v => .raw v
  | _, _, .rng g => .rng g
  | _, _, .obj g => .obj g
  | _, _, .inst g n q r => .inst g n q (RpKv.at r)
theorem RpAll.at {l : List Env} {b : Heap} : ∀ {vs : List Value} {ds : List D}, RpAll X b vs ds → RpAll (X.at l) b vs ds
  | _, _, .nil => .nil
  | _, _, .cons r q => .cons (Rp.at r) (RpAll.at q)
theorem RpKv.at {l : List Env} {b : Heap} : ∀ {vs : List (Str × Value)} {ds : List (Str × D)}, RpKv X b vs ds → RpKv (X.at l) b vs ds
  | _, _, .nil => .nil
  | _, _, .cons r q => .cons (Rp.at r) (RpKv.at q)
end

theorem RpAll.length {b : Heap} : ∀ {vs : List Value} {ds : List D}, RpAll X b vs ds → vs.length = ds.length
  | _, _, .nil => rfl
  | _, _, .cons _ q => by simp [q.length]
theorem RpKv.length {b : Heap} : ∀ {vs : List (Str × Value)} {ds : List (Str × D)}, RpKv X b vs ds → vs.length = ds.length
  | _, _, .nil => rfl
  | _, _, .cons _ q => by simp [q.length]
theorem RpAll.append {b : Heap} : ∀ {vs ws : List Value} {ds es : List D}, RpAll X b vs ds → RpAll X b ws es → RpAll X b (vs ++ ws) (ds ++ es)
  | _, _, _, _, .nil, q => q
  | _, _, _, _, .cons r p, q => .cons r (p.append q)
theorem RpAll.getD {b : Heap} : ∀ {vs : List Value} {ds : List D}, RpAll X b vs ds → ∀ {i : Nat} {d : D}, ds[i]? = some d → ∃ v, vs[i]? = some v ∧ Rp X b v d
  | _, _, .nil, i, v, e => by simp at e
  | _, _, .cons r q, 0, v, e => by simp at e; subst e; exact ⟨_, rfl, r⟩
  | _, _, .cons r q, i + 1, v, e => by
    have := q.getD (i := i) (d := v) (by simpa using e)
    simpa using this
theorem RpKv.keys {b : Heap} : ∀ {kvs : List (Str × Value)} {kds : List (Str × D)}, RpKv X b kvs kds → kvs.map (·.1) = kds.map (·.1)
  | _, _, .nil => rfl
  | _, _, .cons _ q => by simp [q.keys]
theorem RpKv.lookup {b : Heap} {x : Str} : ∀ {kvs : List (Str × Value)} {kds : List (Str × D)}, RpKv X b kvs kds → ∀ {d : D}, kds.lookup x = some d → ∃ v, kvs.lookup x = some v ∧ Rp X b v d
  | _, _, .nil, d, e => by simp at e
  | _, _, .cons (k := k) r q, d, e => by
    simp only [List.lookup_cons] at e ⊢
    cases h : (x == k) with
    | true => rw [h] at e; cases e; exact ⟨_, rfl, r⟩
    | false => rw [h] at e; exact q.lookup e
theorem RpKv.lookup_none {b : Heap} {x : Str} : ∀ {kvs : List (Str × Value)} {kds : List (Str × D)}, RpKv X b kvs kds → kds.lookup x = none → kvs.lookup x = none
  | _, _, .nil, e => rfl
  | _, _, .cons (k := k) r q, e => by
    simp only [List.lookup_cons] at e ⊢
    cases h : (x == k) with
    | true => rw [h] at e; cases e
    | false => rw [h] at e; exact q.lookup_none e

/-- cells: objects that the code changes -/
inductive C where
  | lst (ds : List D)
  | dct (kds : List (Str × D))

def CellAt (X : Cx) (b h : Heap) (a : Addr) : C → Prop
  | .lst ds => ∃ vs n, h.get? a = some (seqObj "list" vs n) ∧ RpAll X b vs.toList ds
  | .dct kds => (a == sysModules) = false ∧ ∃ kvs ep, h.DictAt X.kd a kvs ep ∧ RpKv X b kvs kds

theorem CellAt.mono {b b' h h' : Heap} {a : Addr} {c : C} (x : CellAt X b h a c) (hb : Le b b') (hh : ∀ o, h.get? a = some o → h'.get? a = some o) : CellAt X b' h' a c := by
  cases c with
  | lst ds => obtain ⟨vs, n, h1, h2⟩ := x; exact ⟨vs, n, hh _ h1, h2.mono hb⟩
  | dct kds =>
    obtain ⟨hn, kvs, ep, ⟨o, es, h1, r⟩, h2⟩ := x
    exact ⟨hn, kvs, ep, ⟨o, es, hh _ h1, r⟩, h2.mono hb⟩

theorem CellAt.at {l : List Env} {b h : Heap} {a : Addr} {c : C} (x : CellAt X b h a c) : CellAt (X.at l) b h a c := by
  cases c with
  | lst ds => obtain ⟨vs, n, h1, h2⟩ := x; exact ⟨vs, n, h1, h2.at⟩
  | dct kds => obtain ⟨hn, kvs, ep, h1, h2⟩ := x; exact ⟨hn, kvs, ep, h1, h2.at⟩
theorem CellAt.live {b h : Heap} {a : Addr} {c : C} (x : CellAt X b h a c) : ∃ o, h.get? a = some o := by
  cases c with
  | lst ds => obtain ⟨vs, n, h1, h2⟩ := x; exact ⟨_, h1⟩
  | dct kds => obtain ⟨hn, kvs, ep, ⟨o, es, h1, r⟩, h2⟩ := x; exact ⟨_, h1⟩

/-! the frames of the calls under way -/
abbrev Om := List (Addr × C)
def FrOk (X : Cx) (ω : Om) (b h : Heap) : Prop := ∀ e ∈ X.fr, e.scope.kind = .function ∧ ∃ L o es ep, e.frame = some L ∧ b.get? L = none ∧ L ∉ ω.map (·.1) ∧ h.get? L = some o ∧ o.data = .dict es ep
theorem FrOk.mono {ω ω' : Om} {b b' h h' : Heap} (x : FrOk X ω b h) (hb : ∀ a o, a ∉ ω.map (·.1) → h.get? a = some o → b.get? a = none → b'.get? a = none) (hw : ∀ a o, h.get? a = some o → a ∉ ω.map (·.1) → a ∉ ω'.map (·.1))
    (hh : ∀ a o es ep, a ∉ ω.map (·.1) → b.get? a = none → h.get? a = some o → o.data = .dict es ep → ∃ o' es' ep', h'.get? a = some o' ∧ o'.data = .dict es' ep') : FrOk X ω' b' h' := fun e he => by
  obtain ⟨k, L, o, es, ep, h1, h2, h3, h4, h5⟩ := x e he
  obtain ⟨o', es', ep', h6, h7⟩ := hh L o es ep h3 h2 h4 h5
  exact ⟨k, L, o', es', ep', h1, hb L o h3 h4 h2, hw L o h4 h3, h6, h7⟩

structure Cx.Top (X : Cx) (b : Heap) : Prop where
  inK : X.K.In b
  tr : TopRead X.p X.loose X.mg X.mb b
theorem Cx.Top.mono {b b' : Heap} (T : X.Top b) (h : Le b b') : X.Top b' := ⟨T.inK.keeps h, T.tr.keeps h⟩

theorem Cx.Top.at {l : List Env} {b : Heap} (T : X.Top b) : (X.at l).Top b := ⟨T.inK, T.tr⟩
structure Hp (X : Cx) (ω : Om) (b : Heap) (s : Shared) : Prop where
  le : Le b s.heap
  cell : ∀ p ∈ ω, CellAt X b s.heap p.1 p.2
  out : ∀ p ∈ ω, b.get? p.1 = none
  nod : (ω.map (·.1)).Nodup
  top : X.Top b

/-- what a piece of a run did: all but F kept (the frames of the calls under way up to their slots); what b' has beyond b is new -/
structure Ext (X : Cx) (F : Addr → Prop) (s : Shared) (b : Heap) (s' : Shared) (b' : Heap) : Prop where
  keep : ∀ a o, ¬ F a → s.heap.get? a = some o → ∃ sl, s'.heap.get? a = some { o with slots := sl } ∧ (NotFr X a → sl = o.slots)
  le : Le b b'
  new : ∀ a o, b'.get? a = some o → (∃ o', b.get? a = some o') ∨ s.heap.get? a = none ∨ F a
  live : ∀ a o, s.heap.get? a = some o → ∃ o', s'.heap.get? a = some o'
  os : s'.os = s.os
  gens : s'.gens = s.gens

theorem Hp.at {l : List Env} {ω : Om} {b : Heap} {s : Shared} (H : Hp X ω b s) : Hp (X.at l) ω b s := ⟨H.le, fun p hp => (H.cell p hp).at, H.out, H.nod, H.top.at⟩
theorem kept {X : Cx} {h : Heap} {a : Addr} {o : Obj} (e : h.get? a = some o) : ∃ sl, h.get? a = some { o with slots := sl } ∧ (NotFr X a → sl = o.slots) := ⟨o.slots, e, fun _ => rfl⟩
theorem Ext.keepN {F : Addr → Prop} {s s' : Shared} {b b' : Heap} (x : Ext X F s b s' b') {a : Addr} {o : Obj} (n : NotFr X a) (f : ¬ F a) (e : s.heap.get? a = some o) : s'.heap.get? a = some o := by
  obtain ⟨sl, h1, h2⟩ := x.keep a o f e
  rw [h1, h2 n]
theorem Ext.none {F : Addr → Prop} {s s' : Shared} {b b' : Heap} (x : Ext X F s b s' b') {a : Addr} (h : s'.heap.get? a = none) : s.heap.get? a = none := by
  cases q : s.heap.get? a with
  | none => rfl
  | some o => obtain ⟨o', e⟩ := x.live a o q; rw [h] at e; cases e
theorem Ext.refl (F : Addr → Prop) (s : Shared) (b : Heap) : Ext X F s b s b := ⟨fun _ _ _ e => kept e, Le.refl _, fun _ o e => .inl ⟨o, e⟩, fun _ o e => ⟨o, e⟩, rfl, rfl⟩
theorem keep_trans {s₁ s₂ s₃ : Shared} {a : Addr} {o : Obj} (x : ∃ sl, s₂.heap.get? a = some { o with slots := sl } ∧ (NotFr X a → sl = o.slots)) (y : ∀ o', s₂.heap.get? a = some o' → ∃ sl, s₃.heap.get? a = some { o' with slots := sl } ∧ (NotFr X a → sl = o'.slots)) :
    ∃ sl, s₃.heap.get? a = some { o with slots := sl } ∧ (NotFr X a → sl = o.slots) := by
  obtain ⟨sl, h1, h2⟩ := x
  obtain ⟨sl', h3, h4⟩ := y _ h1
  exact ⟨sl', h3, fun n => (h4 n).trans (h2 n)⟩
theorem fresh_none (h : Heap) : h.get? h.objs.size = none := by
  cases q : h.get? h.objs.size with
  | none => rfl
  | some o => exact absurd (Heap.lt_size q) (Nat.lt_irrefl _)

end Mine

namespace Mine
open PySem PySem.W PySem.Calls PyProof.Rows
variable {X : Cx}

/-! ghost heaps -/
def gone : Obj := { cls := .none, data := .freed }
def restrict (h : Heap) (P : Addr → Bool) : Heap := ⟨h.objs.mapIdx (fun i o => if P i then o else gone), h.life⟩
theorem get?_restrict (h : Heap) (P : Addr → Bool) (a : Addr) : (restrict h P).get? a = if P a then h.get? a else none := by
  cases hp : P a with
  | true =>
    simp only [if_true]
    unfold Heap.get? restrict
    simp only [Array.getElem?_mapIdx]
    cases h.objs[a]? with
    | none => rfl
    | some o => simp [hp]
  | false =>
    simp only [Bool.false_eq_true, if_false]
    unfold Heap.get? restrict
    simp only [Array.getElem?_mapIdx]
    cases h.objs[a]? with
    | none => rfl
    | some o => simp [hp, gone]

/-- b with the addresses of P taken in from h -/
def grow (b h : Heap) (P : Addr → Bool) : Heap := restrict h fun a => (b.get? a).isSome || P a
theorem grow_le {b h : Heap} {P : Addr → Bool} (x : Le b h) : Le b (grow b h P) := fun a o e => by
  unfold grow; rw [get?_restrict, e]; simpa using x _ _ e
theorem grow_in {b h : Heap} {P : Addr → Bool} : Le (grow b h P) h := fun a o e => by
  unfold grow at e; rw [get?_restrict] at e
  split at e
  · exact e
  · cases e
theorem grow_get {b h : Heap} {P : Addr → Bool} {a : Addr} {o : Obj} (hp : P a = true) (e : h.get? a = some o) : (grow b h P).get? a = some o := by
  unfold grow; rw [get?_restrict]; simp [hp, e]
theorem grow_none {b h : Heap} {P : Addr → Bool} {a : Addr} (hp : P a = false) (e : b.get? a = none) : (grow b h P).get? a = none := by
  unfold grow; rw [get?_restrict]; simp [hp, e]
theorem grow_new {b h : Heap} {P : Addr → Bool} {a : Addr} {o : Obj} (e : (grow b h P).get? a = some o) : (∃ o', b.get? a = some o') ∨ P a = true := by
  unfold grow at e; rw [get?_restrict] at e
  split at e
  · rename_i q
    rcases Bool.or_eq_true_iff.mp q with q | q
    · exact .inl (Option.isSome_iff_exists.mp q)
    · exact .inr q
  · cases e

structure Sg where
  ρ : List (Str × D)
  ω : Om

structure EnvOk (env : Env) : Prop where
  kind : env.scope.kind = .function
  glob : env.globals = mainGlobals
  blt : env.builtins = builtinsNs
  cells : ∀ x, env.kindOf x = some .cell ∨ env.kindOf x = some .free → ∃ c, env.cells.lookup x = some c

def isVar : Option NameKind → Bool
  | some .local => true
  | some .cell => true
  | some .free => true
  | _ => false

structure Fm (X : Cx) (env : Env) (ρ : List (Str × D)) (b h : Heap) : Prop where
  ns : ∃ m, h.Ns env.locals m ∧ ∀ x d, env.kindOf x = some .local → ρ.lookup x = some d → ∃ v, m x = some v ∧ Rp X b v d
  cl : ∀ x d, env.kindOf x = some .cell ∨ env.kindOf x = some .free → ρ.lookup x = some d → ∃ c v, env.cells.lookup x = some c ∧ h.IsCell c (some v) ∧ Rp X b v d
  cx : ∀ x c, env.cells.lookup x = some c → ∃ ov, h.IsCell c ov

def Fx (env : Env) (ω : Om) (a : Addr) : Prop := a = env.locals ∨ (env.func.isSome = true ∧ ∃ x, env.cells.lookup x = some a) ∨ a ∈ ω.map (·.1)

structure FA (env : Env) (ω : Om) (b : Heap) : Prop where
  lb : b.get? env.locals = none
  lw : env.locals ∉ ω.map (·.1)
  cb : ∀ x c, env.cells.lookup x = some c → b.get? c = none
  cw : ∀ x c, env.cells.lookup x = some c → c ∉ ω.map (·.1)
  cl : ∀ x c, env.cells.lookup x = some c → c ≠ env.locals
  inj : ∀ x y c, env.cells.lookup x = some c → env.cells.lookup y = some c → x = y

structure St (X : Cx) (env : Env) (σ : Sg) (b : Heap) (s : Shared) : Prop where
  ok : EnvOk env
  hp : Hp X σ.ω b s
  fm : Fm X env σ.ρ b s.heap
  fa : FA env σ.ω b
  fr : FrOk X σ.ω b s.heap

structure Evo (X : Cx) (env : Env) (σ σ' : Sg) (s : Shared) (b : Heap) (s' : Shared) (b' : Heap) : Prop where
  ext : Ext X (Fx env σ.ω) s b s' b'
  dom : ∀ a, a ∈ σ'.ω.map (·.1) → a ∈ σ.ω.map (·.1) ∨ s.heap.get? a = none

theorem Evo.refl (X : Cx) (env : Env) (σ : Sg) (s : Shared) (b : Heap) : Evo X env σ σ s b s b := ⟨Ext.refl .., fun _ h => .inl h⟩
theorem Evo.trans {env : Env} {σ₁ σ₂ σ₃ : Sg} {s₁ s₂ s₃ : Shared} {b₁ b₂ b₃ : Heap} (x : Evo X env σ₁ σ₂ s₁ b₁ s₂ b₂) (y : Evo X env σ₂ σ₃ s₂ b₂ s₃ b₃) : Evo X env σ₁ σ₃ s₁ b₁ s₃ b₃ := by
  refine ⟨⟨fun a o f e => ?_, x.ext.le.trans y.ext.le, fun a o e => ?_, fun a o e => ?_, y.ext.os.trans x.ext.os, y.ext.gens.trans x.ext.gens⟩, fun a h => ?_⟩
  · refine keep_trans (s₁ := s₁) (x.ext.keep a o f e) (fun o' e' => y.ext.keep a o' (fun f' => f ?_) e')
    rcases f' with f' | f' | f'
    · exact .inl f'
    · exact .inr (.inl f')
    · rcases x.dom a f' with f' | f'
      · exact .inr (.inr f')
      · rw [e] at f'; cases f'
  · rcases y.ext.new a o e with ⟨o', h⟩ | h | h
    · exact x.ext.new a o' h
    · exact .inr (.inl (x.ext.none h))
    · rcases h with h | h | h
      · exact .inr (.inr (.inl h))
      · exact .inr (.inr (.inr (.inl h)))
      · rcases x.dom a h with h | h
        · exact .inr (.inr (.inr (.inr h)))
        · exact .inr (.inl h)
  · obtain ⟨o', h⟩ := x.ext.live a o e; exact y.ext.live a o' h
  · rcases y.dom a h with h | h
    · exact x.dom a h
    · exact .inr (x.ext.none h)

/-- the end of an expression: data d, the state σ' -/
inductive Po (X : Cx) (env : Env) (σ : Sg) (s : Shared) (b : Heap) (P : D → Sg → Prop) (v : Value) (s' : Shared) : Prop
  | mk (d : D) (σ' : Sg) (b' : Heap) (E : Evo X env σ σ' s b s' b') (S : St X env σ' b' s') (r : Rp X b' v d) (p : P d σ')
def Never : Value → Shared → Prop := fun _ _ => False
def Tr (X : Cx) (A : Around) (env : Env) (σ : Sg) (t : Sem Value) (P : D → Sg → Prop) : Prop :=
  ∀ s b, St X env σ b s → wpAny X.M A t (Po X env σ s b P) Never s
abbrev Ev (X : Cx) (A : Around) (env : Env) (σ : Sg) (e : Expr) (P : D → Sg → Prop) : Prop := Tr X A env σ (eval e env) P

theorem Po.after {env : Env} {σ₁ σ₂ : Sg} {s₁ s₂ : Shared} {b₁ b₂ : Heap} {P : D → Sg → Prop} (x : Evo X env σ₁ σ₂ s₁ b₁ s₂ b₂) {v : Value} {s : Shared} (h : Po X env σ₂ s₂ b₂ P v s) : Po X env σ₁ s₁ b₁ P v s := by
  obtain ⟨d, σ', b', e, S, r, p⟩ := h
  exact ⟨d, σ', b', x.trans e, S, r, p⟩

inductive Fl where
  | next | brk | cont
  | ret (d : D)
def FlR (X : Cx) (b : Heap) : Flow → Fl → Prop
  | .next, .next => True
  | .brk, .brk => True
  | .cont, .cont => True
  | .ret v, .ret d => Rp X b v d
  | _, _ => False
inductive PoF (X : Cx) (env : Env) (σ : Sg) (s : Shared) (b : Heap) (P : Fl → Sg → Prop) (f : Flow) (s' : Shared) : Prop
  | mk (fl : Fl) (σ' : Sg) (b' : Heap) (E : Evo X env σ σ' s b s' b') (S : St X env σ' b' s') (r : FlR X b' f fl) (p : P fl σ')
def TrF (X : Cx) (A : Around) (env : Env) (σ : Sg) (t : Sem Flow) (P : Fl → Sg → Prop) : Prop :=
  ∀ s b, St X env σ b s → wpAny X.M A t (PoF X env σ s b P) Never s
abbrev Ex (X : Cx) (A : Around) (env : Env) (σ : Sg) (st : Stmt) (P : Fl → Sg → Prop) : Prop := TrF X A env σ (exec st env) P
abbrev Exs (X : Cx) (A : Around) (env : Env) (σ : Sg) (sts : List Stmt) (P : Fl → Sg → Prop) : Prop := TrF X A env σ (execs sts env) P
theorem PoF.after {env : Env} {σ₁ σ₂ : Sg} {s₁ s₂ : Shared} {b₁ b₂ : Heap} {P : Fl → Sg → Prop} (x : Evo X env σ₁ σ₂ s₁ b₁ s₂ b₂) {v : Flow} {s : Shared} (h : PoF X env σ₂ s₂ b₂ P v s) : PoF X env σ₁ s₁ b₁ P v s := by
  obtain ⟨d, σ', b', e, S, r, p⟩ := h
  exact ⟨d, σ', b', x.trans e, S, r, p⟩

inductive PoB (X : Cx) (env : Env) (σ : Sg) (s : Shared) (b : Heap) (P : Bool → Sg → Prop) (v : Bool) (s' : Shared) : Prop
  | mk (σ' : Sg) (b' : Heap) (E : Evo X env σ σ' s b s' b') (S : St X env σ' b' s') (p : P v σ')
def TrB (X : Cx) (A : Around) (env : Env) (σ : Sg) (t : Sem Bool) (P : Bool → Sg → Prop) : Prop :=
  ∀ s b, St X env σ b s → wpAny X.M A t (PoB X env σ s b P) Never s
abbrev Te (X : Cx) (A : Around) (env : Env) (σ : Sg) (e : Expr) (P : Bool → Sg → Prop) : Prop := TrB X A env σ (isTrue e env (eval e env)) P

/-! changes of the state -/
section
variable {env : Env} {σ : Sg} {b : Heap} {s : Shared}

theorem Fm.monoS {ρ : List (Str × D)} {b b' h h' : Heap} (x : Fm X env ρ b h) (hb : Le b b') (hl : ∀ o, h.get? env.locals = some o → ∃ sl, h'.get? env.locals = some { o with slots := sl })
    (hc : ∀ y c o, env.cells.lookup y = some c → h.get? c = some o → ∃ sl, h'.get? c = some { o with slots := sl }) : Fm X env ρ b' h' := by
  obtain ⟨⟨m, ⟨o, es, ep, h1, r⟩, hm⟩, cl, cx⟩ := x
  obtain ⟨sl, hl'⟩ := hl _ h1
  refine ⟨⟨m, ⟨_, es, ep, hl', r⟩, fun x d k e => ?_⟩, fun x d k e => ?_, fun x c k => ?_⟩
  · obtain ⟨v, h1, h2⟩ := hm x d k e; exact ⟨v, h1, h2.mono hb⟩
  · obtain ⟨c, v, h1, ⟨o, h2, h3⟩, h4⟩ := cl x d k e
    obtain ⟨sl, hc'⟩ := hc _ _ _ h1 h2
    exact ⟨c, v, h1, ⟨_, hc', h3⟩, h4.mono hb⟩
  · obtain ⟨v, ⟨o, h2, h3⟩⟩ := cx x c k
    obtain ⟨sl, hc'⟩ := hc _ _ _ k h2
    exact ⟨v, ⟨_, hc', h3⟩⟩
theorem Fm.mono {ρ : List (Str × D)} {b b' h h' : Heap} (x : Fm X env ρ b h) (hb : Le b b') (hl : ∀ o, h.get? env.locals = some o → h'.get? env.locals = some o)
    (hc : ∀ y c o, env.cells.lookup y = some c → h.get? c = some o → h'.get? c = some o) : Fm X env ρ b' h' :=
  x.monoS hb (fun o e => ⟨o.slots, hl o e⟩) (fun y c o k e => ⟨o.slots, hc y c o k e⟩)

/-- the heap has grown (nothing of the state turned), the stable part too by new objects alone -/
theorem St.extend (S : St X env σ b s) {h' b' : Heap} {tk : Nat} (hh : Le s.heap h') (hbb : Le b b') (hin : Le b' h') (hnew : ∀ a o, b'.get? a = some o → (∃ o', b.get? a = some o') ∨ s.heap.get? a = none) :
    St X env σ b' { s with heap := h', toks := tk } ∧ Evo X env σ σ s b { s with heap := h', toks := tk } b' := by
  have hnone : ∀ a o, b.get? a = none → s.heap.get? a = some o → b'.get? a = none := fun a o e l => by
    cases q : b'.get? a with
    | none => rfl
    | some o =>
      rcases hnew a o q with ⟨o', z⟩ | z
      · rw [e] at z; cases z
      · rw [l] at z; cases z
  obtain ⟨oL, hoL⟩ : ∃ o, s.heap.get? env.locals = some o := by obtain ⟨m, ⟨o, _, _, h, _⟩, _⟩ := S.fm.ns; exact ⟨o, h⟩
  refine ⟨⟨S.ok, ⟨hin, fun p hp => (S.hp.cell p hp).mono hbb (fun o e => hh _ _ e), fun p hp => ?_, S.hp.nod, S.hp.top.mono hbb⟩, S.fm.mono hbb (fun o e => hh _ _ e) (fun y c o _ e => hh _ _ e), ⟨hnone _ _ S.fa.lb hoL, S.fa.lw, fun x c e => ?_, S.fa.cw, S.fa.cl, S.fa.inj⟩, S.fr.mono (fun a o _ l e => hnone a o e l) (fun _ _ _ z => z) (fun a o es ep _ _ e q => ⟨o, es, ep, hh _ _ e, q⟩)⟩, ⟨⟨fun a o _ e => kept (hh _ _ e), hbb, fun a o e => (hnew a o e).imp id .inl, fun a o e => ⟨o, hh _ _ e⟩, rfl, rfl⟩, fun a h => .inl h⟩⟩
  · obtain ⟨o, ho⟩ := (S.hp.cell p hp).live
    exact hnone _ _ (S.hp.out p hp) ho
  · obtain ⟨ov, o, ho, _⟩ := S.fm.cx x c e
    exact hnone _ _ (S.fa.cb x c e) ho

theorem St.toks (S : St X env σ b s) (tk : Nat) : St X env σ b { s with toks := tk } ∧ Evo X env σ σ s b { s with toks := tk } b :=
  S.extend (h' := s.heap) (tk := tk) (Le.refl _) (Le.refl _) S.hp.le (fun a o e => .inl ⟨o, e⟩)

theorem le_push (h : Heap) (o : Obj) : Le h (h.push o) := fun _ _ e => Heap.get?_push_of_some o e

/-- a new object that stays -/
theorem St.allocD (S : St X env σ b s) (o : Obj) (hf : o.isFreed = false := by rfl) (tk : Nat := s.toks) :
    ∃ b', Le b b' ∧ b'.get? s.heap.objs.size = some o ∧ St X env σ b' { s with heap := s.heap.push o, toks := tk } ∧ Evo X env σ σ s b { s with heap := s.heap.push o, toks := tk } b' := by
  have hle : Le b (s.heap.push o) := S.hp.le.trans (le_push _ _)
  refine ⟨grow b (s.heap.push o) (fun a => a == s.heap.objs.size), grow_le hle, grow_get (by simp) (Heap.get?_push_size _ hf), ?_⟩
  refine S.extend (le_push _ _) (grow_le hle) grow_in (fun a o' e => ?_)
  rcases grow_new e with h | h
  · exact .inl h
  · exact .inr (by rw [beq_iff_eq.mp h]; exact fresh_none _)

theorem Hp.lt (H : Hp X σ.ω b s) {a : Addr} (h : a ∈ σ.ω.map (·.1)) : a < s.heap.objs.size := by
  obtain ⟨p, hp, rfl⟩ := List.mem_map.mp h
  obtain ⟨o, ho⟩ := (H.cell p hp).live
  exact Heap.lt_size ho
theorem St.ltL (S : St X env σ b s) : env.locals < s.heap.objs.size := by obtain ⟨m, hn, _⟩ := S.fm.ns; exact hn.lt
theorem St.ltC (S : St X env σ b s) {x : Str} {c : Addr} (e : env.cells.lookup x = some c) : c < s.heap.objs.size := by
  obtain ⟨ov, o, ho, _⟩ := S.fm.cx x c e; exact Heap.lt_size ho
theorem St.ltB (S : St X env σ b s) {a : Addr} {o : Obj} (e : b.get? a = some o) : a < s.heap.objs.size := Heap.lt_size (S.hp.le _ _ e)

/-- a new object that may change -/
theorem St.allocC (S : St X env σ b s) (o : Obj) (c : C) (hc : CellAt X b (s.heap.push o) s.heap.objs.size c) (tk : Nat := s.toks) :
    St X env ⟨σ.ρ, (s.heap.objs.size, c) :: σ.ω⟩ b { s with heap := s.heap.push o, toks := tk } ∧ Evo X env σ ⟨σ.ρ, (s.heap.objs.size, c) :: σ.ω⟩ s b { s with heap := s.heap.push o, toks := tk } b := by
  have q := S.extend (h' := s.heap.push o) (b' := b) (tk := tk) (le_push _ _) (Le.refl _) (S.hp.le.trans (le_push _ _)) (fun a o e => .inl ⟨o, e⟩)
  obtain ⟨S', E'⟩ := q
  have hn : b.get? s.heap.objs.size = none := by
    cases q : b.get? s.heap.objs.size with
    | none => rfl
    | some o => exact absurd (S.ltB q) (Nat.lt_irrefl _)
  refine ⟨⟨S.ok, ⟨S'.hp.le, fun p hp => ?_, fun p hp => ?_, ?_, S.hp.top⟩, S'.fm, ⟨S.fa.lb, ?_, S.fa.cb, fun x c' e => ?_, S.fa.cl, S.fa.inj⟩, ?_⟩, ⟨E'.ext, fun a h => ?_⟩⟩
  · rcases List.mem_cons.mp hp with rfl | hp
    · exact hc
    · exact S'.hp.cell p hp
  · rcases List.mem_cons.mp hp with rfl | hp
    · exact hn
    · exact S.hp.out p hp
  · simp only [List.map_cons, List.nodup_cons]
    exact ⟨fun h => absurd (S.hp.lt h) (Nat.lt_irrefl _), S.hp.nod⟩
  · simp only [List.map_cons, List.mem_cons, not_or]
    exact ⟨Nat.ne_of_lt S.ltL, S.fa.lw⟩
  · simp only [List.map_cons, List.mem_cons, not_or]
    exact ⟨Nat.ne_of_lt (S.ltC e), S.fa.cw x c' e⟩
  · refine S.fr.mono (fun a o _ _ z => z) (fun a o l z => ?_) (fun a o es ep _ _ e q => ⟨o, es, ep, le_push _ _ _ _ e, q⟩)
    simp only [List.map_cons, List.mem_cons, not_or]
    exact ⟨Nat.ne_of_lt (Heap.lt_size l), z⟩
  · simp only [List.map_cons, List.mem_cons] at h
    rcases h with rfl | h
    · exact .inr (fresh_none _)
    · exact .inl h

/-- one cell turned -/
inductive Upd (a : Addr) (c c' : C) : Om → Om → Prop
  | head {r} : Upd a c c' ((a, c) :: r) ((a, c') :: r)
  | tail {p r r'} : Upd a c c' r r' → Upd a c c' (p :: r) (p :: r')
theorem Upd.mem {a : Addr} {c c' : C} {ω ω' : Om} (u : Upd a c c' ω ω') : (a, c) ∈ ω := by
  induction u with
  | head => exact .head _
  | tail _ ih => exact .tail _ ih
theorem Upd.keys {a : Addr} {c c' : C} {ω ω' : Om} (u : Upd a c c' ω ω') : ω'.map (·.1) = ω.map (·.1) := by
  induction u with
  | head => rfl
  | tail _ ih => simp [ih]
theorem Upd.of_mem {a : Addr} {c c' : C} {ω ω' : Om} (u : Upd a c c' ω ω') : ∀ p ∈ ω', p = (a, c') ∨ p ∈ ω := by
  induction u with
  | head =>
    intro p hp
    rcases List.mem_cons.mp hp with h | h
    · exact .inl h
    · exact .inr (.tail _ h)
  | tail _ ih =>
    intro p hp
    rcases List.mem_cons.mp hp with h | h
    · exact .inr (h ▸ .head _)
    · rcases ih p h with h | h
      · exact .inl h
      · exact .inr (.tail _ h)
theorem Upd.mem' {a : Addr} {c c' : C} {ω ω' : Om} (u : Upd a c c' ω ω') : (a, c') ∈ ω' := by
  induction u with
  | head => exact .head _
  | tail _ ih => exact .tail _ ih

theorem nodup_mem {ω : Om} (h : (ω.map (·.1)).Nodup) {a : Addr} {c c' : C} (h1 : (a, c) ∈ ω) (h2 : (a, c') ∈ ω) : c = c' := by
  induction ω with
  | nil => cases h1
  | cons p r ih =>
    simp only [List.map_cons, List.nodup_cons] at h
    rcases List.mem_cons.mp h1 with e1 | e1
    · rcases List.mem_cons.mp h2 with e2 | e2
      · rw [← e1] at e2; exact (Prod.mk.inj e2).2.symm
      · exact absurd (List.mem_map_of_mem (f := (·.1)) e2) (by rw [← e1] at h; exact h.1)
    · rcases List.mem_cons.mp h2 with e2 | e2
      · exact absurd (List.mem_map_of_mem (f := (·.1)) e1) (by rw [← e2] at h; exact h.1)
      · exact ih h.2 e1 e2

theorem St.setCell (S : St X env σ b s) {a : Addr} {c c' : C} {ω' : Om} (u : Upd a c c' σ.ω ω') {h' : Heap} (hs : Heap.SameBut a s.heap h') (hc : CellAt X b h' a c') (tk : Nat := s.toks) :
    St X env ⟨σ.ρ, ω'⟩ b { s with heap := h', toks := tk } ∧ Evo X env σ ⟨σ.ρ, ω'⟩ s b { s with heap := h', toks := tk } b := by
  have ha : a ∈ σ.ω.map (·.1) := List.mem_map_of_mem (f := (·.1)) u.mem
  have hb : ∀ x o, b.get? x = some o → x ≠ a := fun x o e z => by
    subst z; have := S.hp.out _ u.mem; rw [e] at this; cases this
  have hk := u.keys
  refine ⟨⟨S.ok, ⟨fun x o e => (hs.2 x (hb x o e)).trans (S.hp.le x o e), fun p hp => ?_, fun p hp => ?_, by rw [hk]; exact S.hp.nod, S.hp.top⟩, ?_, ⟨S.fa.lb, by rw [hk]; exact S.fa.lw, S.fa.cb, fun x c e => by rw [hk]; exact S.fa.cw x c e, S.fa.cl, S.fa.inj⟩, S.fr.mono (fun _ _ _ _ z => z) (fun x o l z => by rw [hk]; exact z) (fun x o es ep z _ e q => ⟨o, es, ep, (hs.2 x (fun w => z (w ▸ ha))).trans e, q⟩)⟩, ⟨⟨fun x o f e => ?_, Le.refl _, fun x o e => .inl ⟨o, e⟩, fun x o e => ?_, rfl, rfl⟩, fun x h => .inl (by rw [← hk]; exact h)⟩⟩
  · rcases u.of_mem p hp with rfl | hp'
    · exact hc
    · by_cases hpa : p.1 = a
      · obtain ⟨x, y⟩ := p
        dsimp at hpa; subst hpa
        have hn : (ω'.map (·.1)).Nodup := by rw [hk]; exact S.hp.nod
        have := nodup_mem hn hp u.mem'
        subst this; exact hc
      · exact (S.hp.cell p hp').mono (Le.refl _) (fun o e => (hs.2 _ hpa).trans e)
  · have : p.1 ∈ σ.ω.map (·.1) := by rw [← hk]; exact List.mem_map_of_mem (f := (·.1)) hp
    obtain ⟨q, hq, e⟩ := List.mem_map.mp this
    rw [← e]; exact S.hp.out q hq
  · refine S.fm.mono (Le.refl _) (fun o e => (hs.2 _ ?_).trans e) (fun y c o e1 e2 => (hs.2 _ ?_).trans e2)
    · intro z; exact S.fa.lw (z ▸ ha)
    · intro z; exact S.fa.cw y c e1 (z ▸ ha)
  · exact kept ((hs.2 x (fun z => f (.inr (.inr (z ▸ ha))))).trans e)
  · by_cases hx : x = a
    · subst hx; exact hc.live
    · exact ⟨o, (hs.2 x hx).trans e⟩

theorem St.storeL (S : St X env σ b s) {x : Str} {v : Value} {d : D} (hk : env.kindOf x = some .local) (r : Rp X b v d) {h' : Heap}
    (hn : ∀ m, s.heap.Ns env.locals m → h'.Ns env.locals (fun y => if y = x then some v else m y)) (hs : Heap.SameBut env.locals s.heap h') (tk : Nat := s.toks) :
    St X env ⟨(x, d) :: σ.ρ, σ.ω⟩ b { s with heap := h', toks := tk } ∧ Evo X env σ ⟨(x, d) :: σ.ρ, σ.ω⟩ s b { s with heap := h', toks := tk } b := by
  have hb : ∀ x o, b.get? x = some o → x ≠ env.locals := fun x o e z => by
    subst z; have := S.fa.lb; rw [e] at this; cases this
  refine ⟨⟨S.ok, ⟨fun x o e => (hs.2 x (hb x o e)).trans (S.hp.le x o e), fun p hp => ?_, S.hp.out, S.hp.nod, S.hp.top⟩, ?_, S.fa, S.fr.mono (fun _ _ _ _ z => z) (fun _ _ _ z => z) (fun x o es ep z _ e q => ?_)⟩, ⟨⟨fun x o f e => ?_, Le.refl _, fun x o e => .inl ⟨o, e⟩, fun x o e => ?_, rfl, rfl⟩, fun x h => .inl h⟩⟩
  · refine (S.hp.cell p hp).mono (Le.refl _) (fun o e => (hs.2 _ fun z => S.fa.lw (z ▸ List.mem_map_of_mem (f := (·.1)) hp)).trans e)
  · obtain ⟨⟨m, hm, hv⟩, cl, cx⟩ := S.fm
    refine ⟨⟨_, hn m hm, fun y d' k e => ?_⟩, fun y d' k e => ?_, fun y c k => ?_⟩
    · simp only [List.lookup_cons] at e
      by_cases hy : y = x
      · subst hy; simp at e; subst e; exact ⟨v, by simp, r⟩
      · have : (y == x) = false := by simpa using hy
        rw [this] at e
        obtain ⟨v', h1, h2⟩ := hv y d' k e
        exact ⟨v', by simp [hy, h1], h2⟩
    · have hy : y ≠ x := by rintro rfl; rw [hk] at k; rcases k with k | k <;> cases k
      simp only [List.lookup_cons] at e
      have : (y == x) = false := by simpa using hy
      rw [this] at e
      obtain ⟨c, v', h1, ⟨o, h2, h3⟩, h4⟩ := cl y d' k e
      exact ⟨c, v', h1, ⟨o, (hs.2 _ (S.fa.cl y c h1)).trans h2, h3⟩, h4⟩
    · obtain ⟨v', ⟨o, h2, h3⟩⟩ := cx y c k
      exact ⟨v', ⟨o, (hs.2 _ (S.fa.cl y c k)).trans h2, h3⟩⟩
  · by_cases hx : x = env.locals
    · subst hx; obtain ⟨m, hm, _⟩ := S.fm.ns; obtain ⟨o, es, ep, h, h', _⟩ := hn m hm; exact ⟨o, es, ep, h, h'⟩
    · exact ⟨o, es, ep, (hs.2 x hx).trans e, q⟩
  · exact kept ((hs.2 x (fun z => f (.inl z))).trans e)
  · by_cases hx : x = env.locals
    · subst hx; obtain ⟨m, hm, _⟩ := S.fm.ns; obtain ⟨o, _, _, h, _⟩ := hn m hm; exact ⟨o, h⟩
    · exact ⟨o, (hs.2 x hx).trans e⟩

theorem St.storeC (S : St X env σ b s) {x : Str} {v : Value} {d : D} {c : Addr} (hf : env.func.isSome = true) (hk : env.kindOf x = some .cell) (hc : env.cells.lookup x = some c) (r : Rp X b v d) {h' : Heap}
    (hn : h'.IsCell c (some v)) (hs : Heap.SameBut c s.heap h') (tk : Nat := s.toks) :
    St X env ⟨(x, d) :: σ.ρ, σ.ω⟩ b { s with heap := h', toks := tk } ∧ Evo X env σ ⟨(x, d) :: σ.ρ, σ.ω⟩ s b { s with heap := h', toks := tk } b := by
  have hb : ∀ x o, b.get? x = some o → x ≠ c := fun y o e z => by
    subst z; have := S.fa.cb x _ hc; rw [e] at this; cases this
  refine ⟨⟨S.ok, ⟨fun x o e => (hs.2 x (hb x o e)).trans (S.hp.le x o e), fun p hp => ?_, S.hp.out, S.hp.nod, S.hp.top⟩, ?_, S.fa, S.fr.mono (fun _ _ _ _ z => z) (fun _ _ _ z => z) (fun x o es ep z _ e q => ?_)⟩, ⟨⟨fun y o f e => ?_, Le.refl _, fun x o e => .inl ⟨o, e⟩, fun x o e => ?_, rfl, rfl⟩, fun x h => .inl h⟩⟩
  · refine (S.hp.cell p hp).mono (Le.refl _) (fun o e => (hs.2 _ fun z => S.fa.cw x c hc (z ▸ List.mem_map_of_mem (f := (·.1)) hp)).trans e)
  · obtain ⟨⟨m, hm, hv⟩, cl, cx⟩ := S.fm
    refine ⟨⟨_, hm.sameBut hs (fun z => S.fa.cl x c hc z.symm), fun y d' k e => ?_⟩, fun y d' k e => ?_, fun y c' k => ?_⟩
    · have hy : y ≠ x := by rintro rfl; rw [hk] at k; cases k
      simp only [List.lookup_cons] at e
      have : (y == x) = false := by simpa using hy
      rw [this] at e
      exact hv y d' k e
    · simp only [List.lookup_cons] at e
      by_cases hy : y = x
      · subst hy; simp at e; subst e; exact ⟨c, v, hc, hn, r⟩
      · have : (y == x) = false := by simpa using hy
        rw [this] at e
        obtain ⟨c', v', h1, ⟨o, h2, h3⟩, h4⟩ := cl y d' k e
        have hcc : c' ≠ c := fun z => hy (S.fa.inj y x c (z ▸ h1) hc)
        exact ⟨c', v', h1, ⟨o, (hs.2 _ hcc).trans h2, h3⟩, h4⟩
    · by_cases hcc : c' = c
      · subst hcc; exact ⟨_, hn⟩
      · obtain ⟨v', ⟨o, h2, h3⟩⟩ := cx y c' k
        exact ⟨v', ⟨o, (hs.2 _ hcc).trans h2, h3⟩⟩
  · refine ⟨o, es, ep, (hs.2 x fun w => ?_).trans e, q⟩
    subst w
    obtain ⟨ov, oc, h1, h2⟩ := S.fm.cx _ _ hc
    rw [e] at h1; cases h1
    rw [q] at h2; cases h2
  · exact kept ((hs.2 y (fun z => f (.inr (.inl ⟨hf, x, z ▸ hc⟩)))).trans e)
  · rename_i y
    by_cases hx : x = c
    · subst hx; obtain ⟨o, h, _⟩ := hn; exact ⟨o, h⟩
    · exact ⟨o, (hs.2 x hx).trans e⟩
end
end Mine

namespace Mine
open PySem PySem.W PySem.Calls PyProof.Rows
variable {X : Cx} {A : Around} {env : Env} {σ : Sg} {P : D → Sg → Prop}

theorem Tr.mono {t : Sem Value} {P' : D → Sg → Prop} (h : Tr X A env σ t P) (hp : ∀ d σ', P d σ' → P' d σ') : Tr X A env σ t P' := fun s b S =>
  wpAny_mono (h s b S) (fun v s' ⟨d, σ', b', e, S', r, p⟩ => ⟨d, σ', b', e, S', r, hp _ _ p⟩) fun _ _ x => x
theorem TrF.mono {t : Sem Flow} {P P' : Fl → Sg → Prop} (h : TrF X A env σ t P) (hp : ∀ d σ', P d σ' → P' d σ') : TrF X A env σ t P' := fun s b S =>
  wpAny_mono (h s b S) (fun v s' ⟨d, σ', b', e, S', r, p⟩ => ⟨d, σ', b', e, S', r, hp _ _ p⟩) fun _ _ x => x
theorem TrB.mono {t : Sem Bool} {P P' : Bool → Sg → Prop} (h : TrB X A env σ t P) (hp : ∀ d σ', P d σ' → P' d σ') : TrB X A env σ t P' := fun s b S =>
  wpAny_mono (h s b S) (fun v s' ⟨σ', b', e, S', p⟩ => ⟨σ', b', e, S', hp _ _ p⟩) fun _ _ x => x

theorem Po.here {s : Shared} {b : Heap} {v : Value} {d : D} (S : St X env σ b s) (r : Rp X b v d) (p : P d σ) : Po X env σ s b P v s := ⟨d, σ, b, Evo.refl .., S, r, p⟩
theorem Po.tok {s : Shared} {b : Heap} {v : Value} {d : D} {tk : Nat} (S : St X env σ b s) (r : Rp X b v d) (p : P d σ) : Po X env σ s b P v { s with toks := tk } :=
  ⟨d, σ, b, (S.toks tk).2, (S.toks tk).1, r, p⟩

/-- two operands -/
def Op (X : Cx) (A : Around) (env : Env) (σ : Sg) (f : Value → Value → Sem Value) (d₁ d₂ : D) (P : D → Sg → Prop) : Prop :=
  ∀ s b v₁ v₂, St X env σ b s → Rp X b v₁ d₁ → Rp X b v₂ d₂ → wpAny X.M A (f v₁ v₂) (Po X env σ s b P) Never s
def Op1 (X : Cx) (A : Around) (env : Env) (σ : Sg) (f : Value → Sem Value) (d₁ : D) (P : D → Sg → Prop) : Prop :=
  ∀ s b v₁, St X env σ b s → Rp X b v₁ d₁ → wpAny X.M A (f v₁) (Po X env σ s b P) Never s
def OpB (X : Cx) (A : Around) (env : Env) (σ : Sg) (f : Value → Sem Bool) (d₁ : D) (P : Bool → Sg → Prop) : Prop :=
  ∀ s b v₁, St X env σ b s → Rp X b v₁ d₁ → wpAny X.M A (f v₁) (PoB X env σ s b P) Never s
inductive PoL (X : Cx) (env : Env) (σ : Sg) (s : Shared) (b : Heap) (P : List D → Sg → Prop) (vs : List Value) (s' : Shared) : Prop
  | mk (ds : List D) (σ' : Sg) (b' : Heap) (E : Evo X env σ σ' s b s' b') (S : St X env σ' b' s') (r : RpAll X b' vs ds) (p : P ds σ')
def TrL (X : Cx) (A : Around) (env : Env) (σ : Sg) (t : Sem (List Value)) (P : List D → Sg → Prop) : Prop :=
  ∀ s b, St X env σ b s → wpAny X.M A t (PoL X env σ s b P) Never s
def OpL (X : Cx) (A : Around) (env : Env) (σ : Sg) (f : List Value → Sem Value) (ds : List D) (P : D → Sg → Prop) : Prop :=
  ∀ s b vs, St X env σ b s → RpAll X b vs ds → wpAny X.M A (f vs) (Po X env σ s b P) Never s

/-! what is left to do, under names -/
abbrev QOp (X : Cx) (A : Around) (env : Env) (f : Value → Value → Sem Value) (d₁ : D) (P : D → Sg → Prop) : D → Sg → Prop := fun d₂ σ₂ => Op X A env σ₂ f d₁ d₂ P
abbrev QBin (X : Cx) (A : Around) (env : Env) (f : Value → Value → Sem Value) (r : Expr) (P : D → Sg → Prop) : D → Sg → Prop := fun d₁ σ₁ => Ev X A env σ₁ r (QOp X A env f d₁ P)
abbrev QTr (X : Cx) (A : Around) (env : Env) (PB : Bool → Sg → Prop) : D → Sg → Prop := fun d σ₁ => OpB X A env σ₁ truthy d PB
abbrev QAnd (X : Cx) (A : Around) (env : Env) (rest : List Expr) (pos : Pos) (whole : Sem Value) (PB : Bool → Sg → Prop) : Bool → Sg → Prop := fun c σ₁ => if c = true then TrB X A env σ₁ (isTrue (.BoolOp .And rest pos) env whole) PB else PB false σ₁
abbrev QOr (X : Cx) (A : Around) (env : Env) (rest : List Expr) (pos : Pos) (whole : Sem Value) (PB : Bool → Sg → Prop) : Bool → Sg → Prop := fun c σ₁ => if c = true then PB true σ₁ else TrB X A env σ₁ (isTrue (.BoolOp .Or rest pos) env whole) PB
abbrev QIf (X : Cx) (A : Around) (env : Env) (body orelse : Expr) (P : D → Sg → Prop) : Bool → Sg → Prop := fun c σ₁ => if c = true then Ev X A env σ₁ body P else Ev X A env σ₁ orelse P
abbrev QCons (d : D) (PL : List D → Sg → Prop) : List D → Sg → Prop := fun ds σ₂ => PL (d :: ds) σ₂
abbrev QTl (X : Cx) (A : Around) (env : Env) (pos : Pos) (rest : List Expr) (PL : List D → Sg → Prop) : D → Sg → Prop := fun d σ₁ => TrL X A env σ₁ (spliced (backTo pos (starEach rest env))) (QCons d PL)
abbrev QTup (P : D → Sg → Prop) : List D → Sg → Prop := fun ds σ₁ => ds.length ≤ sizeLine ∧ P (.tup ds) σ₁
abbrev QLst (P : D → Sg → Prop) : List D → Sg → Prop := fun ds σ₁ => ds.length ≤ sizeLine ∧ P (.list ds) σ₁
abbrev QLsc (P : D → Sg → Prop) : List D → Sg → Prop := fun ds σ₁ => ds.length ≤ sizeLine ∧ ∀ a, P (.raw (.ref a)) ⟨σ₁.ρ, (a, .lst ds) :: σ₁.ω⟩
abbrev QArg (X : Cx) (A : Around) (env : Env) (f : List Value → Sem Value) (P : D → Sg → Prop) : List D → Sg → Prop := fun ds σ₂ => OpL X A env σ₂ f ds P
inductive QCall (X : Cx) (A : Around) (env : Env) (v : Value) (pos : Pos) (args : List Expr) (f : List Value → Sem Value) (P : D → Sg → Prop) (f' : D) (σ₁ : Sg) : Prop
  | mk (e : f' = .raw v) (h : TrL X A env σ₁ (spliced (backTo pos (starEach args env))) (QArg X A env f P))

theorem isVar_cases {k : Option NameKind} (h : isVar k = true) : k = some .local ∨ k = some .cell ∨ k = some .free := by
  unfold isVar at h
  split at h <;> simp_all

theorem ev_var {x : Str} {pos : Pos} {d : D} (hv : σ.ρ.lookup x = some d) (hk : isVar (env.kindOf x) = true) (p : P d σ) (hd : (x == ("__debug__" : Str)) = false) (hc : (x == ("__classdict__" : Str)) = false) :
    Ev X A env σ (.Name x pos) P := fun s b S => by
  refine wpAny_Name ?_ hd
  rcases isVar_cases hk with k | k | k
  · obtain ⟨m, hn, hm⟩ := S.fm.ns
    obtain ⟨v, h1, h2⟩ := hm x d k hv
    exact wpAny_loadName_local S.ok.kind k hn h1 (Po.here S h2 p)
  · obtain ⟨c, v, h1, h2, h3⟩ := S.fm.cl x d (.inl k) hv
    exact wpAny_loadName_cell S.ok.kind k h1 h2 (Po.here S h3 p)
  · obtain ⟨c, v, h1, h2, h3⟩ := S.fm.cl x d (.inr k) hv
    exact wpAny_loadName_free S.ok.kind k h1 h2 (Po.here S h3 p) hc

theorem ev_glob {x : Str} {pos : Pos} {v : Value} {d : D} (e : nsIn X.K mainGlobals x = some (some v)) (r : ∀ b, X.Top b → Rp X b v d) (hk : env.kindOf x = some .globalImplicit) (p : P d σ) (hd : (x == ("__debug__" : Str)) = false) :
    Ev X A env σ (.Name x pos) P := fun s b S => by
  have T := S.hp.top
  refine Name_function_global S.ok.kind hk ?_ hd
  refine loadGlobal_global (mg := X.mg) (by rw [S.ok.glob]; exact T.tr.g.keeps S.hp.le) (mg_of T.inK T.tr.g e) (Po.here S (r b T) p)

theorem ev_blt {x : Str} {pos : Pos} {v : Value} (e : nsIn X.K mainGlobals x = some none) (hv : bootBuiltins x = some v) (hn : x ≠ "__name__") (hk : env.kindOf x = some .globalImplicit) (p : P (.raw v) σ) (hd : (x == ("__debug__" : Str)) = false) :
    Ev X A env σ (.Name x pos) P := fun s b S => by
  have T := S.hp.top
  refine Name_function_global S.ok.kind hk ?_ hd
  refine loadGlobal_builtin (mg := X.mg) (mb := X.mb) (by rw [S.ok.glob]; exact T.tr.g.keeps S.hp.le) (mg_none_of T.inK T.tr.g e) (by rw [S.ok.blt]; exact T.tr.b.keeps S.hp.le) ((T.tr.builtins x hn).trans hv) (Po.here S (.raw v) p)

theorem ev_str {x : Str} {k : Nat} {pos : Pos} (p : P (.str x) σ) : Ev X A env σ (.Constant (.str x) k pos) P := fun s b S => Constant_str (Po.tok S (.str ..) p)
theorem ev_int {i : Int} {k : Nat} {pos : Pos} (p : P (.int i) σ) : Ev X A env σ (.Constant (.int i) k pos) P := fun s b S => wpAny_Constant_int (Po.tok S (.int ..) p)
theorem ev_none {k : Nat} {pos : Pos} (p : P .none σ) : Ev X A env σ (.Constant .none k pos) P := fun s b S => wpAny_pure (Po.here S .none p)
theorem ev_bool {x : Bool} {k : Nat} {pos : Pos} (p : P (.bool x) σ) : Ev X A env σ (.Constant (.bool x) k pos) P := fun s b S => wpAny_pure (Po.here S (.bool _) p)

theorem ev_bin {l r : Expr} {op : Operator} {pos : Pos} (h : Ev X A env σ l (QBin X A env (binaryOp op) r P)) : Ev X A env σ (.BinOp l op r pos) P := fun s b S => by
  refine wpAny_BinOp (wpAny_mono (h s b S) ?_ (fun _ _ x => x))
  rintro v₁ s₁ ⟨d₁, σ₁, b₁, E₁, S₁, r₁, h₁⟩
  refine wpAny_mono (h₁ s₁ b₁ S₁) ?_ (fun _ _ x => x)
  rintro v₂ s₂ ⟨d₂, σ₂, b₂, E₂, S₂, r₂, h₂⟩
  exact wpAny_mono (h₂ s₂ b₂ v₁ v₂ S₂ (r₁.mono E₂.ext.le) r₂) (fun v s' q => (q.after E₂).after E₁) (fun _ _ x => x)

theorem ev_cmp {l r : Expr} {op : CmpOp} {pos : Pos} (h : Ev X A env σ l (QBin X A env (compareOp op) r P))
    (hm : behindInMarks op r = false) : Ev X A env σ (.Compare l [op] [r] pos) P := fun s b S => by
  refine wpAny_Compare1 (wpAny_mono (h s b S) ?_ (fun _ _ x => x)) hm
  rintro v₁ s₁ ⟨d₁, σ₁, b₁, E₁, S₁, r₁, h₁⟩
  refine wpAny_mono (h₁ s₁ b₁ S₁) ?_ (fun _ _ x => x)
  rintro v₂ s₂ ⟨d₂, σ₂, b₂, E₂, S₂, r₂, h₂⟩
  exact wpAny_mono (h₂ s₂ b₂ v₁ v₂ S₂ (r₁.mono E₂.ext.le) r₂) (fun v s' q => (q.after E₂).after E₁) (fun _ _ x => x)

theorem ev_sub {l r : Expr} {pos : Pos} (h : Ev X A env σ l (QBin X A env (subscriptTail l r) r P)) : Ev X A env σ (.Subscript l r pos) P := fun s b S => by
  refine Subscript_ (wpAny_mono (h s b S) ?_ (fun _ _ x => x))
  rintro v₁ s₁ ⟨d₁, σ₁, b₁, E₁, S₁, r₁, h₁⟩
  refine wpAny_mono (h₁ s₁ b₁ S₁) ?_ (fun _ _ x => x)
  rintro v₂ s₂ ⟨d₂, σ₂, b₂, E₂, S₂, r₂, h₂⟩
  exact wpAny_mono (h₂ s₂ b₂ v₁ v₂ S₂ (r₁.mono E₂.ext.le) r₂) (fun v s' q => (q.after E₂).after E₁) (fun _ _ x => x)

theorem PoB.after {PB : Bool → Sg → Prop} {σ₁ σ₂ : Sg} {s₁ s₂ : Shared} {b₁ b₂ : Heap} (x : Evo X env σ₁ σ₂ s₁ b₁ s₂ b₂) {v : Bool} {s : Shared} (h : PoB X env σ₂ s₂ b₂ PB v s) : PoB X env σ₁ s₁ b₁ PB v s := by
  obtain ⟨σ', b', e, S, p⟩ := h
  exact ⟨σ', b', x.trans e, S, p⟩
theorem PoB.here {PB : Bool → Sg → Prop} {s : Shared} {b : Heap} {v : Bool} (S : St X env σ b s) (p : PB v σ) : PoB X env σ s b PB v s := ⟨σ, b, Evo.refl .., S, p⟩

theorem te_cmp {PB : Bool → Sg → Prop} {l r : Expr} {op : CmpOp} {pos : Pos} (h : Ev X A env σ l (QBin X A env (compareOp op) r (QTr X A env PB)))
    (hm : behindInMarks op r = false) : Te X A env σ (.Compare l [op] [r] pos) PB := fun s b S => by
  refine wpAny_isTrue_Compare1 (wpAny_mono (h s b S) ?_ (fun _ _ x => x)) hm
  rintro v₁ s₁ ⟨d₁, σ₁, b₁, E₁, S₁, r₁, h₁⟩
  refine wpAny_mono (h₁ s₁ b₁ S₁) ?_ (fun _ _ x => x)
  rintro v₂ s₂ ⟨d₂, σ₂, b₂, E₂, S₂, r₂, h₂⟩
  refine wpAny_mono (h₂ s₂ b₂ v₁ v₂ S₂ (r₁.mono E₂.ext.le) r₂) ?_ (fun _ _ x => x)
  rintro v₃ s₃ ⟨d₃, σ₃, b₃, E₃, S₃, r₃, h₃⟩
  exact wpAny_mono (h₃ s₃ b₃ v₃ S₃ r₃) (fun v s' q => ((q.after E₃).after E₂).after E₁) (fun _ _ x => x)

theorem te_plain {PB : Bool → Sg → Prop} {e : Expr} (h : Ev X A env σ e (QTr X A env PB))
    (he : isTrue e env (eval e env) = (do let v ← eval e env; standAt e.pos; holding [v] (truthy v))) : Te X A env σ e PB := fun s b S => by
  refine isTrue_plain (wpAny_mono (h s b S) ?_ (fun _ _ x => x)) he
  rintro v₁ s₁ ⟨d₁, σ₁, b₁, E₁, S₁, r₁, h₁⟩
  exact wpAny_mono (h₁ s₁ b₁ v₁ S₁ r₁) (fun v s' q => q.after E₁) (fun _ _ x => x)

theorem te_not {PB : Bool → Sg → Prop} {e : Expr} {pos : Pos} (h : Te X A env σ e (fun c σ₁ => PB (!c) σ₁)) : Te X A env σ (.UnaryOp .Not e pos) PB := fun s b S =>
  isTrue_not (wpAny_mono (h s b S) (fun c s' ⟨σ', b', E, S', p⟩ => ⟨σ', b', E, S', p⟩) fun _ _ x => x)
theorem te_and_nil {PB : Bool → Sg → Prop} {pos : Pos} {whole : Sem Value} (p : PB true σ) : TrB X A env σ (isTrue (.BoolOp .And [] pos) env whole) PB := fun s b S => isTrue_and_nil (PoB.here S p)
theorem te_or_nil {PB : Bool → Sg → Prop} {pos : Pos} {whole : Sem Value} (p : PB false σ) : TrB X A env σ (isTrue (.BoolOp .Or [] pos) env whole) PB := fun s b S => isTrue_or_nil (PoB.here S p)
theorem te_and {PB : Bool → Sg → Prop} {x : Expr} {rest : List Expr} {pos : Pos} {whole : Sem Value} (h : Te X A env σ x (QAnd X A env rest pos whole PB)) :
    TrB X A env σ (isTrue (.BoolOp .And (x :: rest) pos) env whole) PB := fun s b S => by
  refine isTrue_and (wpAny_mono (h s b S) ?_ fun _ _ x => x)
  rintro c s₁ ⟨σ₁, b₁, E₁, S₁, h₁⟩
  cases c with
  | true => simp only [QAnd, QOr, QIf, if_true] at h₁ ⊢; exact wpAny_mono (h₁ s₁ b₁ S₁) (fun v s' q => q.after E₁) (fun _ _ x => x)
  | false => simp only [QAnd, QOr, QIf, Bool.false_eq_true, if_false] at h₁ ⊢; exact ⟨σ₁, b₁, E₁, S₁, h₁⟩
theorem te_or {PB : Bool → Sg → Prop} {x : Expr} {rest : List Expr} {pos : Pos} {whole : Sem Value} (h : Te X A env σ x (QOr X A env rest pos whole PB)) :
    TrB X A env σ (isTrue (.BoolOp .Or (x :: rest) pos) env whole) PB := fun s b S => by
  refine isTrue_or (wpAny_mono (h s b S) ?_ fun _ _ x => x)
  rintro c s₁ ⟨σ₁, b₁, E₁, S₁, h₁⟩
  cases c with
  | false => simp only [QAnd, QOr, QIf, Bool.false_eq_true, if_false] at h₁ ⊢; exact wpAny_mono (h₁ s₁ b₁ S₁) (fun v s' q => q.after E₁) (fun _ _ x => x)
  | true => simp only [QAnd, QOr, QIf, if_true] at h₁ ⊢; exact ⟨σ₁, b₁, E₁, S₁, h₁⟩
theorem ev_if {test body orelse : Expr} {pos : Pos} (h : Te X A env σ test (QIf X A env body orelse P)) : Ev X A env σ (.IfExp test body orelse pos) P := fun s b S => by
  refine IfExp_ (wpAny_mono (h s b S) ?_ fun _ _ x => x)
  rintro c s₁ ⟨σ₁, b₁, E₁, S₁, h₁⟩
  cases c with
  | true => simp only [QAnd, QOr, QIf, if_true] at h₁ ⊢; exact wpAny_mono (h₁ s₁ b₁ S₁) (fun v s' q => q.after E₁) (fun _ _ x => x)
  | false => simp only [QAnd, QOr, QIf, Bool.false_eq_true, if_false] at h₁ ⊢; exact wpAny_mono (h₁ s₁ b₁ S₁) (fun v s' q => q.after E₁) (fun _ _ x => x)

theorem trl_nil {PL : List D → Sg → Prop} {pos : Pos} (p : PL [] σ) : TrL X A env σ (spliced (backTo pos (starEach [] env))) PL := fun s b S => args_nil ⟨[], σ, b, Evo.refl .., S, .nil, p⟩
theorem trl_cons {PL : List D → Sg → Prop} {e : Expr} {rest : List Expr} {pos : Pos} (h : Ev X A env σ e (QTl X A env pos rest PL))
    (he : starEach (e :: rest) env = (false, eval e env) :: starEach rest env) : TrL X A env σ (spliced (backTo pos (starEach (e :: rest) env))) PL := fun s b S => by
  refine args_cons (wpAny_mono (h s b S) ?_ (fun _ _ x => x)) he
  rintro v₁ s₁ ⟨d₁, σ₁, b₁, E₁, S₁, r₁, h₁⟩
  refine wpAny_mono (h₁ s₁ b₁ S₁) ?_ (fun _ _ x => x)
  rintro v₂ s₂ ⟨d₂, σ₂, b₂, E₂, S₂, r₂, h₂⟩
  exact ⟨_, σ₂, b₂, E₁.trans E₂, S₂, .cons (r₁.mono E₂.ext.le) r₂, h₂⟩

theorem ev_tup {elts : List Expr} {k : Nat} {pos : Pos} (h : TrL X A env σ (spliced (backTo pos (starEach elts env))) (QTup P)) : Ev X A env σ (.Tuple elts k pos) P := fun s b S => by
  refine Tuple_ (wpAny_mono (h s b S) ?_ (fun _ _ x => x))
  rintro vs s₁ ⟨ds, σ₁, b₁, E₁, S₁, r₁, hz, h₁⟩
  obtain ⟨b₂, l, g, S₂, E₂⟩ := S₁.allocD (seqObj "tuple" vs.toArray 0)
  refine wpAny_newObj_type ?_ (by show vs.toArray.size ≤ sizeLine; rw [List.size_toArray, r₁.length]; exact hz)
  exact ⟨.tup ds, σ₁, b₂, E₁.trans E₂, S₂, .tup g (by simpa using r₁.mono l), h₁⟩
theorem ev_list {elts : List Expr} {pos : Pos} (h : TrL X A env σ (spliced (backTo pos (starEach elts env))) (QLst P)) : Ev X A env σ (.List elts pos) P := fun s b S => by
  refine List_ (wpAny_mono (h s b S) ?_ (fun _ _ x => x))
  rintro vs s₁ ⟨ds, σ₁, b₁, E₁, S₁, r₁, hz, h₁⟩
  obtain ⟨b₂, l, g, S₂, E₂⟩ := S₁.allocD (seqObj "list" vs.toArray 0)
  refine wpAny_newObj_type ?_ (by show vs.toArray.size ≤ sizeLine; rw [List.size_toArray, r₁.length]; exact hz)
  exact ⟨.list ds, σ₁, b₂, E₁.trans E₂, S₂, .list g (by simpa using r₁.mono l), h₁⟩
/-- a list that may change: a cell of its own -/
theorem ev_listC {elts : List Expr} {pos : Pos} (h : TrL X A env σ (spliced (backTo pos (starEach elts env))) (QLsc P)) : Ev X A env σ (.List elts pos) P := fun s b S => by
  refine List_ (wpAny_mono (h s b S) ?_ (fun _ _ x => x))
  rintro vs s₁ ⟨ds, σ₁, b₁, E₁, S₁, r₁, hz, h₁⟩
  obtain ⟨S₂, E₂⟩ := S₁.allocC (seqObj "list" vs.toArray 0) (.lst ds) ⟨vs.toArray, 0, Heap.get?_push_size _ rfl, by simpa using r₁⟩
  refine wpAny_newObj_type ?_ (by show vs.toArray.size ≤ sizeLine; rw [List.size_toArray, r₁.length]; exact hz)
  exact ⟨_, _, b₁, E₁.trans E₂, S₂, .raw _, h₁ _⟩

/-! truth -/
theorem ob_bool {PB : Bool → Sg → Prop} {x : Bool} (p : PB x σ) : OpB X A env σ truthy (.bool x) PB := fun s b v S r => by
  cases r; exact wpAny_truthy_bool (PoB.here S p)
end Mine

namespace Mine
open PySem PySem.W PySem.Calls PyProof.Rows
variable {X : Cx} {A : Around} {env : Env} {σ : Sg} {P : D → Sg → Prop} {Q : Fl → Sg → Prop}

theorem PoF.here {s : Shared} {b : Heap} {v : Flow} {d : Fl} (S : St X env σ b s) (r : FlR X b v d) (p : Q d σ) : PoF X env σ s b Q v s := ⟨d, σ, b, Evo.refl .., S, r, p⟩

theorem exs_nil (p : Q .next σ) : Exs X A env σ [] Q := fun s b S => wpAny_execs_nil (PoF.here (d := .next) S trivial p)
abbrev QSeq (X : Cx) (A : Around) (env : Env) (rest : List Stmt) (Q : Fl → Sg → Prop) : Fl → Sg → Prop := fun f σ₁ => match f with | .next => Exs X A env σ₁ rest Q | f => Q f σ₁
abbrev QAss (x : Str) (Q : Fl → Sg → Prop) : D → Sg → Prop := fun d σ₁ => Q .next ⟨(x, d) :: σ₁.ρ, σ₁.ω⟩
abbrev QIfs (X : Cx) (A : Around) (env : Env) (body orelse : List Stmt) (Q : Fl → Sg → Prop) : Bool → Sg → Prop := fun c σ₁ => if c = true then Exs X A env σ₁ body Q else Exs X A env σ₁ orelse Q
abbrev QRet (Q : Fl → Sg → Prop) : D → Sg → Prop := fun d σ₁ => Q (.ret d) σ₁
inductive QExp (Q : Fl → Sg → Prop) (d : D) (σ₁ : Sg) : Prop
  | mk (e : d = .none) (p : Q .next σ₁)
theorem exs_cons {st : Stmt} {rest : List Stmt} (h : Ex X A env σ st (QSeq X A env rest Q)) : Exs X A env σ (st :: rest) Q := fun s b S => by
  refine wpAny_execs_cons (wpAny_mono (h s b S) ?_ (fun _ _ x => x))
  rintro f s₁ ⟨fl, σ₁, b₁, E₁, S₁, r₁, h₁⟩
  cases f with
  | next =>
    cases fl with
    | next => exact wpAny_mono (h₁ s₁ b₁ S₁) (fun v s' q => q.after E₁) (fun _ _ x => x)
    | _ => exact r₁.elim
  | brk => cases fl with
    | brk => exact ⟨.brk, σ₁, b₁, E₁, S₁, trivial, h₁⟩
    | _ => exact r₁.elim
  | cont => cases fl with
    | cont => exact ⟨.cont, σ₁, b₁, E₁, S₁, trivial, h₁⟩
    | _ => exact r₁.elim
  | ret v => cases fl with
    | ret d => exact ⟨.ret d, σ₁, b₁, E₁, S₁, r₁, h₁⟩
    | _ => exact r₁.elim

def isLoc (env : Env) (x : Str) : Bool := match env.kindOf x with
  | some .local => true
  | some .cell => env.func.isSome
  | _ => false

/-- a name is bound -/
theorem store_var {x : Str} {v : Value} {d : D} {s : Shared} {b : Heap} (S : St X env σ b s) (r : Rp X b v d) (hk : isLoc env x = true) {QQ : Unit → Shared → Prop}
    (h : ∀ s', St X env ⟨(x, d) :: σ.ρ, σ.ω⟩ b s' → Evo X env σ ⟨(x, d) :: σ.ρ, σ.ω⟩ s b s' b → QQ () s') {E : Value → Shared → Prop} : wpAny X.M A (storeName env x v) QQ E s := by
  have hp : (env.scope.kind == .class || (env.scope.kind == .module && env.locals != env.globals)) = false := by rw [S.ok.kind]; rfl
  unfold isLoc at hk
  split at hk
  · rename_i k
    obtain ⟨m, hn, hm⟩ := S.fm.ns
    refine wpAny_storeName_local k hn (fun h' hn' hs => ?_) hp
    have q := S.storeL (x := x) (v := v) (d := d) k r (h' := h') (fun m' hm' => ?_) hs (s.toks + 1)
    · exact h _ q.1 q.2
    · have : m' = m := by
        funext y
        obtain ⟨o, es, ep, h1, h2, _, h3⟩ := hn
        obtain ⟨o', es', ep', h1', h2', _, h3'⟩ := hm'
        rw [h1] at h1'; cases h1'; rw [h2] at h2'; cases h2'
        rw [← h3, ← h3']
      subst this; exact hn'
  · rename_i k
    obtain ⟨c, hc⟩ := S.ok.cells x (.inl k)
    obtain ⟨ov, hov⟩ := S.fm.cx x c hc
    refine wpAny_storeName_cell S.ok.kind k hc hov (fun h' hn' hs => ?_)
    have q := S.storeC (x := x) (v := v) (d := d) hk k hc r hn' hs s.toks
    exact h _ q.1 q.2
  · cases hk

theorem ex_assign {x : Str} {pos' pos : Pos} {e : Expr} (h : Ev X A env σ e (QAss x Q)) (hk : isLoc env x = true)
    (hs : swapsWith e (some (.Name x pos')) pos.line env = pure false) : Ex X A env σ (.Assign [.Name x pos'] e pos) Q := fun s b S => by
  refine wpAny_Assign_Name (wpAny_mono (h s b S) ?_ (fun _ _ x => x)) hs
  rintro v s₁ ⟨d, σ₁, b₁, E₁, S₁, r₁, h₁⟩
  exact store_var S₁ r₁ hk fun s' S' E' => ⟨.next, _, b₁, E₁.trans E', S', trivial, h₁⟩

theorem ex_if {test : Expr} {body orelse : List Stmt} {pos : Pos} (h : Te X A env σ test (QIfs X A env body orelse Q)) : Ex X A env σ (.If test body orelse pos) Q := fun s b S => by
  refine wpAny_If (wpAny_mono (h s b S) ?_ (fun _ _ x => x))
  rintro c s₁ ⟨σ₁, b₁, E₁, S₁, h₁⟩
  cases c with
  | true => simp only [QIfs, if_true] at h₁ ⊢; exact wpAny_mono (h₁ s₁ b₁ S₁) (fun v s' q => q.after E₁) (fun _ _ x => x)
  | false => simp only [QIfs, Bool.false_eq_true, if_false] at h₁ ⊢; exact wpAny_mono (h₁ s₁ b₁ S₁) (fun v s' q => q.after E₁) (fun _ _ x => x)
theorem ex_ret {e : Expr} {pos : Pos} (h : Ev X A env σ e (QRet Q)) : Ex X A env σ (.Return (some e) pos) Q := fun s b S => by
  refine wpAny_Return_some (wpAny_mono (h s b S) ?_ (fun _ _ x => x))
  rintro v s₁ ⟨d, σ₁, b₁, E₁, S₁, r₁, h₁⟩
  exact ⟨.ret d, σ₁, b₁, E₁, S₁, r₁, h₁⟩
theorem ex_brk {pos : Pos} (p : Q .brk σ) : Ex X A env σ (.Break pos) Q := fun s b S => wpAny_Break (PoF.here (d := .brk) S trivial p)
theorem ex_pass {pos : Pos} (p : Q .next σ) : Ex X A env σ (.Pass pos) Q := fun s b S => wpAny_Pass (PoF.here (d := .next) S trivial p)
/-- a call for its effect: it gives None -/
theorem ex_expr {e : Expr} {pos : Pos} (h : Ev X A env σ e (QExp Q)) (hi : interactive env = false) (hs : swapsWith e none pos.line env = pure false) : Ex X A env σ (.Expr e pos) Q := fun s b S => by
  refine wpAny_Expr (wpAny_mono (h s b S) ?_ (fun _ _ x => x)) hi hs
  rintro v s₁ ⟨d, σ₁, b₁, E₁, S₁, r₁, rfl, h₁⟩
  cases r₁
  exact ⟨.next, σ₁, b₁, E₁, S₁, trivial, h₁⟩

/-! targets -/
inductive PoA (X : Cx) (env : Env) (σ : Sg) (s : Shared) (b : Heap) (R : Sg → Prop) (s' : Shared) : Prop
  | mk (σ' : Sg) (b' : Heap) (E : Evo X env σ σ' s b s' b') (S : St X env σ' b' s') (p : R σ')
def Asg (X : Cx) (A : Around) (env : Env) (σ : Sg) (target : Expr) (d : D) (R : Sg → Prop) : Prop :=
  ∀ s b v, St X env σ b s → Rp X b v d → wpAny X.M A (assign target env v) (fun _ s' => PoA X env σ s b R s') Never s
theorem asg_name {x : Str} {pos : Pos} {d : D} {R : Sg → Prop} (hk : isLoc env x = true) (h : R ⟨(x, d) :: σ.ρ, σ.ω⟩) : Asg X A env σ (.Name x pos) d R := fun s b v S r =>
  wpAny_assign_Name (store_var S r hk fun s' S' E' => ⟨_, b, E', S', h⟩)

theorem isTuple_of {h : Heap} {a : Addr} {vs : Array Value} {n : Nat} (e : h.get? a = some (seqObj "tuple" vs n)) : h.IsTuple a vs := ⟨_, e, rfl, ⟨n, rfl⟩⟩

theorem asg_tup2 {x y : Str} {k : Nat} {pos p₁ p₂ : Pos} {d₁ d₂ : D} {R : Sg → Prop} (hh : A.handled = none) (hx : isLoc env x = true) (hy : isLoc env y = true)
    (h : R ⟨(y, d₂) :: (x, d₁) :: σ.ρ, σ.ω⟩) : Asg X A env σ (.Tuple [.Name x p₁, .Name y p₂] k pos) (.tup [d₁, d₂]) R := fun s b v S r => by
  cases r with
  | tup g ra =>
  rename_i a vs n
  obtain ⟨v₁, v₂, hvs, r₁, r₂⟩ : ∃ v₁ v₂, vs.toList = [v₁, v₂] ∧ Rp X b v₁ d₁ ∧ Rp X b v₂ d₂ := by
    generalize vs.toList = l at ra
    cases ra with
    | cons r₁ q => cases q with
      | cons r₂ q => cases q; exact ⟨_, _, rfl, r₁, r₂⟩
  have hsz : vs.size = 2 := by rw [← Array.length_toList, hvs]; rfl
  refine wpAny_assign_Tuple hh (isTuple_of (S.hp.le _ _ g)) (by rw [hsz]; rfl) rfl (fun h' he => ?_)
  have hle : Le s.heap h' := fun a o e => he a o (fun z => by rw [z] at e; exact absurd (Heap.lt_size e) (Nat.lt_irrefl _)) e
  obtain ⟨S₁, E₁⟩ := S.extend (h' := h') (b' := b) (tk := s.toks) hle (Le.refl _) (S.hp.le.trans hle) (fun a o e => .inl ⟨o, e⟩)
  rw [hvs]
  refine wpAny_bind (wpAny_holding (wpAny_assign_Name (store_var S₁ r₁ hx fun s₂ S₂ E₂ => ?_)))
  refine wpAny_bind (wpAny_holding (wpAny_assign_Name (store_var S₂ r₂ hy fun s₃ S₃ E₃ => ?_)))
  exact wpAny_pure ⟨_, b, (E₁.trans E₂).trans E₃, S₃, h⟩

/-! iterators -/
structure Apart (X : Cx) (own : List Addr) (env : Env) (ω : Om) (b : Heap) : Prop where
  w : ∀ a ∈ own, a ∉ ω.map (·.1)
  b : ∀ a ∈ own, b.get? a = none
  l : ∀ a ∈ own, a ≠ env.locals
  c : ∀ a ∈ own, ∀ x, env.cells.lookup x ≠ some a
  f : ∀ a ∈ own, NotFr X a

theorem St.other {s : Shared} {b : Heap} (S : St X env σ b s) {own : List Addr} (ap : Apart X own env σ.ω b) {h' b' : Heap} {tk : Nat} (hk : ∀ a o, a ∉ own → s.heap.get? a = some o → h'.get? a = some o)
    (hbb : Le b b') (hin : Le b' h') (hnew : ∀ a o, b'.get? a = some o → (∃ o', b.get? a = some o') ∨ s.heap.get? a = none) : St X env σ b' { s with heap := h', toks := tk } := by
  have hnone : ∀ a o, b.get? a = none → s.heap.get? a = some o → b'.get? a = none := fun a o e l => by
    cases q : b'.get? a with
    | none => rfl
    | some o =>
      rcases hnew a o q with ⟨o', z⟩ | z
      · rw [e] at z; cases z
      · rw [l] at z; cases z
  obtain ⟨oL, hoL⟩ : ∃ o, s.heap.get? env.locals = some o := by obtain ⟨m, ⟨o, _, _, h, _⟩, _⟩ := S.fm.ns; exact ⟨o, h⟩
  refine ⟨S.ok, ⟨hin, fun p hp => (S.hp.cell p hp).mono hbb (fun o e => hk _ _ (fun z => ap.w _ z (List.mem_map_of_mem hp)) e), fun p hp => ?_, S.hp.nod, S.hp.top.mono hbb⟩,
    S.fm.mono hbb (fun o e => hk _ _ (fun z => ap.l _ z rfl) e) (fun y c o q e => hk _ _ (fun z => ap.c _ z y q) e), ⟨hnone _ _ S.fa.lb hoL, S.fa.lw, fun x c e => ?_, S.fa.cw, S.fa.cl, S.fa.inj⟩, fun e he => ?_⟩
  · obtain ⟨o, ho⟩ := (S.hp.cell p hp).live
    exact hnone _ _ (S.hp.out p hp) ho
  · obtain ⟨ov, o, ho, _⟩ := S.fm.cx x c e
    exact hnone _ _ (S.fa.cb x c e) ho
  · obtain ⟨k, L, o, es, ep, h1, h2, h3, h4, h5⟩ := S.fr e he
    exact ⟨k, L, o, es, ep, h1, hnone _ _ h2 h4, h3, hk _ _ (fun z => ap.f L z e he h1) h4, h5⟩
theorem Evo.other {σ₀ : Sg} {s₀ s : Shared} {b₀ b : Heap} (E : Evo X env σ₀ σ s₀ b₀ s b) {own : List Addr} (hf : ∀ a ∈ own, s₀.heap.get? a = none) {h' b' : Heap} {tk : Nat}
    (hk : ∀ a o, a ∉ own → s.heap.get? a = some o → h'.get? a = some o) (hbb : Le b b') (hnew : ∀ a o, b'.get? a = some o → (∃ o', b.get? a = some o') ∨ s.heap.get? a = none) :
    Evo X env σ₀ σ s₀ b₀ { s with heap := h', toks := tk } b' := by
  have no : ∀ a o, s₀.heap.get? a = some o → a ∉ own := fun a o e z => by rw [hf a z] at e; cases e
  refine ⟨⟨fun a o f e => keep_trans (s₁ := s₀) (E.ext.keep a o f e) (fun o' e' => kept (hk a o' (no a o e) e')), E.ext.le.trans hbb, fun a o e => ?_, fun a o e => ?_, E.ext.os, E.ext.gens⟩, E.dom⟩
  · rcases hnew a o e with ⟨o', z⟩ | z
    · exact E.ext.new a o' z
    · exact .inr (.inl (E.ext.none z))
  · obtain ⟨o', z⟩ := E.ext.live a o e
    exact ⟨o', hk a o' (no a o e) z⟩

/-- an iterator over what seq tells of the state (b₀: what stood when it was made) -/
inductive ItD (own : List Addr) (s : Shared) (r : Option Value) (s₁ : Shared) : Prop
  | mk (e : r = none) (h₁ : Heap) (tk : Nat) (e₁ : s₁ = { s with heap := h₁, toks := tk }) (k : ∀ a o, a ∉ own → s.heap.get? a = some o → h₁.get? a = some o)
inductive ItN (X : Cx) (own : List Addr) (J : Heap → Prop) (s : Shared) (b : Heap) (v : Value) (d : D) (s₂ : Shared) : Prop
  | mk (h₂ b₂ : Heap) (tk : Nat) (e : s₂ = { s with heap := h₂, toks := tk }) (j : J h₂) (k : ∀ a o, a ∉ own → s.heap.get? a = some o → h₂.get? a = some o) (l : Le b b₂) (l2 : Le b₂ h₂) (n : ∀ a o, b₂.get? a = some o → (∃ o', b.get? a = some o') ∨ s.heap.get? a = none) (r : Rp X b₂ v d)
structure Itr (X : Cx) (A : Around) (target : Expr) (it : Value) (b₀ : Heap) (own : List Addr) (J : Nat → Heap → Prop) (seq : Sg → Option (List D)) : Prop where
  frame : ∀ i h h', J i h → (∀ a ∈ own, ∀ o, h.get? a = some o → h'.get? a = some o) → J i h'
  live : ∀ i h, J i h → ∀ a ∈ own, ∃ o, h.get? a = some o
  item : ∀ env σ i ds d s b, St X env σ b s → Le b₀ b → J i s.heap → seq σ = some ds → ds[i]? = some d → Apart X own env σ.ω b →
    wpAny X.M A (pyNext it) (fun r s₁ => ∃ v, r = some v ∧ wpAny X.M A (letOwnedTupleGo target it v) (fun _ s₂ => ItN X own (J (i + 1)) s b v d s₂) Never s₁) Never s
  done : ∀ env σ i ds s b, St X env σ b s → Le b₀ b → J i s.heap → seq σ = some ds → ds[i]? = none → Apart X own env σ.ω b →
    wpAny X.M A (pyNext it) (fun r s₁ => ItD own s r s₁) Never s
  self : ∀ i (s : Shared) (QQ : Value → Shared → Prop) (E : Value → Shared → Prop), J i s.heap → QQ it s → wpAny X.M A (pyIter it) QQ E s

inductive ItbP (X : Cx) (A : Around) (s : Shared) (b : Heap) (target : Expr) (seq : Sg → Option (List D)) (it : Value) (s₁ : Shared) : Prop
  | mk (own : List Addr) (J : Nat → Heap → Prop) (h₁ : Heap) (tk : Nat) (e : s₁ = { s with heap := h₁, toks := tk }) (l : Le s.heap h₁) (n : ∀ a ∈ own, s.heap.get? a = none) (I : Itr X A target it b own J seq) (j : J 0 h₁)
def Itb (X : Cx) (A : Around) (env : Env) (σ : Sg) (target : Expr) (d : D) (seq : Sg → Option (List D)) : Prop :=
  ∀ s b v, St X env σ b s → Rp X b v d → wpAny X.M A (pyIter v) (fun it s₁ => ItbP X A s b target seq it s₁) Never s

theorem apart_new {s : Shared} {b : Heap} (S : St X env σ b s) {own : List Addr} (h : ∀ a ∈ own, s.heap.get? a = none) : Apart X own env σ.ω b := by
  refine ⟨fun a ha z => ?_, fun a ha => ?_, fun a ha z => ?_, fun a ha x z => ?_, fun a ha e he z => ?_⟩
  · obtain ⟨p, hp, rfl⟩ := List.mem_map.mp z
    obtain ⟨o, ho⟩ := (S.hp.cell p hp).live
    rw [h _ ha] at ho; cases ho
  · cases q : b.get? a with
    | none => rfl
    | some o => have := S.hp.le _ _ q; rw [h _ ha] at this; cases this
  · subst z
    obtain ⟨m, ⟨o, _, _, h1, _⟩, _⟩ := S.fm.ns
    rw [h _ ha] at h1; cases h1
  · obtain ⟨ov, o, ho, _⟩ := S.fm.cx x a z
    rw [h _ ha] at ho; cases ho
  · obtain ⟨k, L, o, es, ep, h1, h2, h3, h4, h5⟩ := S.fr e he
    rw [z] at h1; cases h1
    rw [h _ ha] at h4; cases h4

theorem Apart.after {own : List Addr} {σ σ' : Sg} {s s' : Shared} {b b' : Heap} (ap : Apart X own env σ.ω b) (E : Evo X env σ σ' s b s' b') (hl : ∀ a ∈ own, ∃ o, s.heap.get? a = some o) : Apart X own env σ'.ω b' := by
  refine ⟨fun a ha z => ?_, fun a ha => ?_, ap.l, ap.c, ap.f⟩
  · obtain ⟨o, ho⟩ := hl a ha
    rcases E.dom a z with z | z
    · exact ap.w a ha z
    · rw [ho] at z; cases z
  · obtain ⟨o, ho⟩ := hl a ha
    cases q : b'.get? a with
    | none => rfl
    | some o' =>
      rcases E.ext.new a o' q with ⟨o'', z⟩ | z | z
      · rw [ap.b a ha] at z; cases z
      · rw [ho] at z; cases z
      · rcases z with z | ⟨_, x, z⟩ | z
        · exact absurd z (ap.l a ha)
        · exact absurd z (ap.c a ha x)
        · exact absurd z (ap.w a ha)
theorem Apart.keep {own : List Addr} {σ σ' : Sg} {s s' : Shared} {b b' : Heap} (ap : Apart X own env σ.ω b) (E : Evo X env σ σ' s b s' b') {a : Addr} (ha : a ∈ own) {o : Obj} (h : s.heap.get? a = some o) : s'.heap.get? a = some o := by
  refine E.ext.keepN (ap.f a ha) (fun f => ?_) h
  rcases f with f | ⟨_, x, f⟩ | f
  · exact ap.l a ha f
  · exact ap.c a ha x f
  · exact ap.w a ha f

/-- where a loop's items come from -/
inductive SrcP (X : Cx) (A : Around) (env : Env) (σ : Sg) (s : Shared) (b : Heap) (target : Expr) (seq : Sg → Option (List D)) (R : Sg → Prop) (it : Value) (s₂ : Shared) : Prop
  | mk (σ₁ : Sg) (b₁ : Heap) (own : List Addr) (J : Nat → Heap → Prop) (E : Evo X env σ σ₁ s b s₂ b₁) (S : St X env σ₁ b₁ s₂) (a : Apart X own env σ₁.ω b₁) (n : ∀ a ∈ own, s.heap.get? a = none) (I : Itr X A target it b₁ own J seq) (j : J 0 s₂.heap) (p : R σ₁)
def Src (X : Cx) (A : Around) (env : Env) (σ : Sg) (iter target : Expr) (seq : Sg → Option (List D)) (R : Sg → Prop) : Prop :=
  ∀ s b, St X env σ b s → wpAny X.M A (eval iter env) (fun x s₁ => wpAny X.M A (pyIter x) (fun it s₂ => SrcP X A env σ s b target seq R it s₂) Never s₁) Never s
theorem src_of {iter target : Expr} {seq : Sg → Option (List D)} {R : Sg → Prop} (h : Ev X A env σ iter (fun d σ₁ => Itb X A env σ₁ target d seq ∧ R σ₁)) : Src X A env σ iter target seq R := fun s b S => by
  refine wpAny_mono (h s b S) ?_ (fun _ _ x => x)
  rintro v s₁ ⟨d, σ₁, b₁, E₁, S₁, r₁, hitb, h0⟩
  refine wpAny_mono (hitb s₁ b₁ v S₁ r₁) ?_ (fun _ _ x => x)
  rintro it s₂ ⟨own, J, h₂, tk₂, rfl, hle, hfr, I, hJ⟩
  have ap₁ := apart_new S₁ hfr
  obtain ⟨S₂, E₂⟩ := S₁.extend (h' := h₂) (b' := b₁) (tk := tk₂) hle (Le.refl _) (S₁.hp.le.trans hle) (fun a o e => .inl ⟨o, e⟩)
  exact ⟨σ₁, b₁, own, J, E₁.trans E₂, S₂, ap₁, fun a ha => E₁.ext.none (hfr a ha), I, hJ, h0⟩

inductive ForI (X : Cx) (env : Env) (σ : Sg) (s : Shared) (b b₁ : Heap) (own : List Addr) (J : Nat → Heap → Prop) (Inv : Nat → Sg → Prop) (N n : Nat) (s' : Shared) : Prop
  | mk (i : Nat) (σ' : Sg) (b' : Heap) (e : n = N + 1 - i) (hi : i ≤ N) (h : Inv i σ') (S : St X env σ' b' s') (E : Evo X env σ σ' s b s' b') (l : Le b₁ b') (j : J i s'.heap) (a : Apart X own env σ'.ω b')
theorem ex_for {target iter : Expr} {body orelse : List Stmt} {pos : Pos} (Inv : Nat → Sg → Prop) (seq : Sg → Option (List D)) (N : Nat)
    (hiter : Src X A env σ iter target seq (Inv 0))
    (hN : ∀ i σ, Inv i σ → ∃ ds, seq σ = some ds ∧ ds.length ≤ N)
    (step : ∀ i σ ds d, Inv i σ → seq σ = some ds → ds[i]? = some d → Asg X A env σ target d (fun σ' => Exs X A env σ' body (fun fl σ'' => match fl with | .next | .cont => Inv (i + 1) σ'' | .brk => Q .next σ'' | .ret r => Q (.ret r) σ'')))
    (stop : ∀ i σ ds, Inv i σ → seq σ = some ds → ds[i]? = none → Exs X A env σ orelse Q)
    (hs : ∀ x, foldedSetIterable iter env x = pure x) : Ex X A env σ (.For target iter body orelse pos) Q := fun s b S => by
  refine wpAny_For (wpAny_mono (hiter s b S) ?_ (fun _ _ x => x)) hs
  intro v s₁ hv
  refine wpAny_mono hv ?_ (fun _ _ x => x)
  rintro it s₂ ⟨σ₁, b₁, own, J, E₂, S₂, ap₁, hfr, I, hJ, h0⟩
  let II : Nat → Shared → Prop := ForI X env σ s b b₁ own J Inv N
  refine codeAny_forLoop_any II ?_ (N + 1) ⟨0, σ₁, b₁, rfl, Nat.zero_le _, h0, S₂, E₂, Le.refl _, hJ, ap₁⟩
  rintro n s' ⟨i, σ', b', rfl, hi, hinv, S', E', hl', hJ', ap'⟩
  obtain ⟨ds, hds, hlen⟩ := hN i σ' hinv
  cases hc : ds[i]? with
  | none =>
    refine wpAny_mono (I.done env σ' i ds s' b' S' hl' hJ' hds hc ap') ?_ (fun _ _ x => x.elim)
    rintro r s'' ⟨rfl, h₃, tk₃, rfl, hk₃⟩
    have hin : Le b' h₃ := fun a o e => hk₃ a o (fun z => by rw [ap'.b a z] at e; cases e) (S'.hp.le _ _ e)
    have S₃ := S'.other (h' := h₃) (b' := b') (tk := tk₃) ap' hk₃ (Le.refl _) hin (fun a o e => .inl ⟨o, e⟩)
    have E₃ := E'.other (h' := h₃) (b' := b') (tk := tk₃) hfr hk₃ (Le.refl _) (fun a o e => .inl ⟨o, e⟩)
    exact wpAny_mono (stop i σ' ds hinv hds hc _ b' S₃) (fun f s₄ q => q.after E₃) (fun _ _ x => x.elim)
  | some d' =>
    refine wpAny_mono (I.item env σ' i ds d' s' b' S' hl' hJ' hds hc ap') ?_ (fun _ _ x => x.elim)
    rintro r s'' ⟨v', rfl, hw⟩
    refine wpAny_mono hw ?_ (fun _ _ x => x.elim)
    rintro _ s₃ ⟨h₃, b₃, tk₃, rfl, hJ₃, hk₃, hbb, hin, hnew, r₃⟩
    have S₃ := S'.other (h' := h₃) (b' := b₃) (tk := tk₃) ap' hk₃ hbb hin hnew
    have E₃ := E'.other (h' := h₃) (b' := b₃) (tk := tk₃) hfr hk₃ hbb hnew
    have ap₃b : ∀ a ∈ own, b₃.get? a = none := fun a ha => by
      cases q : b₃.get? a with
      | none => rfl
      | some o =>
        obtain ⟨oo, hoo⟩ := I.live _ _ hJ' a ha
        rcases hnew a o q with ⟨o', z⟩ | z
        · rw [ap'.b a ha] at z; cases z
        · rw [hoo] at z; cases z
    have ap₃ : Apart X own env σ'.ω b₃ := ⟨ap'.w, ap₃b, ap'.l, ap'.c, ap'.f⟩
    refine wpAny_mono (step i σ' ds d' hinv hds hc _ b₃ v' S₃ r₃) ?_ (fun _ _ x => x.elim)
    rintro _ s₄ ⟨σ₄, b₄, E₄, S₄, h₄⟩
    have ap₄ := ap₃.after E₄ (I.live _ _ hJ₃)
    have hJ₄ := I.frame _ _ s₄.heap hJ₃ (fun a ha o e => ap₃.keep E₄ ha e)
    refine wpAny_mono (h₄ s₄ b₄ S₄) ?_ (fun _ _ x => x.elim)
    rintro f s₅ ⟨fl, σ₅, b₅, E₅, S₅, r₅, h₅⟩
    have ap₅ := ap₄.after E₅ (I.live _ _ hJ₄)
    have hJ₅ := I.frame _ _ s₅.heap hJ₄ (fun a ha o e => ap₄.keep E₅ ha e)
    have hlt : i < N := Nat.lt_of_lt_of_le (by simpa using (List.getElem?_eq_some_iff.mp hc).1) hlen
    have E₃₅ := (E₃.trans E₄).trans E₅
    have go : Inv (i + 1) σ₅ → ∃ m, m < N + 1 - i ∧ II m s₅ := fun hi5 =>
      ⟨N + 1 - (i + 1), by omega, i + 1, σ₅, b₅, rfl, hlt, hi5, S₅, E₃₅, ((hl'.trans hbb).trans E₄.ext.le).trans E₅.ext.le, hJ₅, ap₅⟩
    cases f with
    | next => cases fl with
      | next => exact go h₅
      | _ => exact r₅.elim
    | cont => cases fl with
      | cont => exact go h₅
      | _ => exact r₅.elim
    | brk => cases fl with
      | brk => exact ⟨.next, σ₅, b₅, E₃₅, S₅, trivial, h₅⟩
      | _ => exact r₅.elim
    | ret v => cases fl with
      | ret d => exact ⟨.ret d, σ₅, b₅, E₃₅, S₅, r₅, h₅⟩
      | _ => exact r₅.elim

/-! freezing a cell: it turns no more -/
theorem St.freeze {s : Shared} {b : Heap} (S : St X env σ b s) {a : Addr} {ds : List D} {ω' : Om} {ρ' : List (Str × D)} (ha : (a, C.lst ds) ∈ σ.ω) (hω : ∀ p ∈ ω', p ∈ σ.ω ∧ p.1 ≠ a) (hn : (ω'.map (·.1)).Nodup)
    (hρ : ∀ x d, ρ'.lookup x = some d → σ.ρ.lookup x = some d ∨ (σ.ρ.lookup x = some (.raw (.ref a)) ∧ d = .list ds)) :
    ∃ b', Le b b' ∧ St X env ⟨ρ', ω'⟩ b' s ∧ Evo X env σ ⟨ρ', ω'⟩ s b s b' ∧ Rp X b' (.ref a) (.list ds) := by
  obtain ⟨vs, n, hv, hr⟩ := S.hp.cell _ ha
  have hle : Le b (grow b s.heap (· == a)) := grow_le S.hp.le
  have hg : (grow b s.heap (· == a)).get? a = some (seqObj "list" vs n) := grow_get (by simp) hv
  have hnone : ∀ x, x ≠ a → b.get? x = none → (grow b s.heap (· == a)).get? x = none := fun x hx e => grow_none (by simpa using hx) e
  have hra : Rp X (grow b s.heap (· == a)) (.ref a) (.list ds) := .list hg (hr.mono hle)
  have hmem : ∀ x, x ∈ ω'.map (·.1) → x ∈ σ.ω.map (·.1) := fun x hx => by
    obtain ⟨p, hp, rfl⟩ := List.mem_map.mp hx
    exact List.mem_map_of_mem (hω p hp).1
  have haω : a ∈ σ.ω.map (·.1) := List.mem_map_of_mem (f := (·.1)) ha
  refine ⟨_, hle, ⟨S.ok, ⟨grow_in, fun p hp => (S.hp.cell p (hω p hp).1).mono hle fun o e => e, fun p hp => hnone _ (hω p hp).2 (S.hp.out p (hω p hp).1), hn, S.hp.top.mono hle⟩, ?_, ?_, S.fr.mono (fun x o z l e => hnone x (fun w => z (w ▸ haω)) e) (fun x o l z w => z (hmem x w)) (fun x o es ep _ _ e q => ⟨o, es, ep, e, q⟩)⟩, ?_, hra⟩
  · obtain ⟨⟨m, hm, hv'⟩, cl, cx⟩ := S.fm
    refine ⟨⟨m, hm, fun x d k e => ?_⟩, fun x d k e => ?_, cx⟩
    · rcases hρ x d e with e' | ⟨e', rfl⟩
      · obtain ⟨v, h1, h2⟩ := hv' x d k e'; exact ⟨v, h1, h2.mono hle⟩
      · obtain ⟨v, h1, h2⟩ := hv' x _ k e'; cases h2; exact ⟨_, h1, hra⟩
    · rcases hρ x d e with e' | ⟨e', rfl⟩
      · obtain ⟨c, v, h1, h2, h3⟩ := cl x d k e'; exact ⟨c, v, h1, h2, h3.mono hle⟩
      · obtain ⟨c, v, h1, h2, h3⟩ := cl x _ k e'; cases h3; exact ⟨c, _, h1, h2, hra⟩
  · refine ⟨hnone _ (fun z => S.fa.lw (z ▸ haω)) S.fa.lb, fun h => S.fa.lw (hmem _ h), fun x c e => hnone _ (fun z => S.fa.cw x c e (z ▸ haω)) (S.fa.cb x c e), fun x c e h => S.fa.cw x c e (hmem _ h), S.fa.cl, S.fa.inj⟩
  · refine ⟨⟨fun _ _ _ e => kept e, hle, fun x o e => ?_, fun x o e => ⟨o, e⟩, rfl, rfl⟩, fun x h => .inl (hmem x h)⟩
    rcases grow_new e with q | q
    · exact .inl q
    · exact .inr (.inr (.inr (.inr (by rw [beq_iff_eq.mp q]; exact haω))))

end Mine

namespace Mine
open PySem PySem.W PySem.Calls PyProof.Rows
variable {X : Cx} {A : Around} {env : Env} {σ : Sg} {P : D → Sg → Prop} {Q : Fl → Sg → Prop}

theorem letGo_plain {M : Model} {E : Value → Shared → Prop} {target : Expr} {I : Addr} {v : Value} {o : Obj} {n : String} {s : Shared} {QQ : Unit → Shared → Prop} (ho : s.heap.get? I = some o) (hc : o.cls = .type n)
    (hn : (["enumerate", "zip", "dict_itemiterator", "dict_reverseitemiterator", "odict_iterator", "itertools.zip_longest", "itertools.pairwise"] : List String).contains n = false) (h : QQ () s) :
    wpAny M A (letOwnedTupleGo target (.ref I) v) QQ E s := by
  unfold letOwnedTupleGo
  split
  · cases v with
    | ref a =>
      refine wpAny_bind (wpAny_load ho ?_)
      rw [hc]
      split
      · rename_i e1 e2; cases e1; rw [hn]; exact wpAny_pure h
      · exact wpAny_pure h
    | _ => exact wpAny_pure h
  · cases v with
    | ref a =>
      refine wpAny_bind (wpAny_load ho ?_)
      rw [hc]
      split
      · rename_i e1 e2; cases e1; rw [hn]; exact wpAny_pure h
      · exact wpAny_pure h
    | _ => exact wpAny_pure h
  · exact wpAny_pure h

theorem isList_of {h : Heap} {a : Addr} {vs : Array Value} {n : Nat} (e : h.get? a = some (seqObj "list" vs n)) : h.IsList a vs := ⟨_, e, rfl, ⟨n, rfl⟩⟩

theorem itr_list {target : Expr} {I a : Addr} {b₀ : Heap} {seq : Sg → Option (List D)} (hh : A.handled = none)
    (hl : ∀ env σ s b ds, St X env σ b s → Le b₀ b → seq σ = some ds → ∃ vs, s.heap.IsList a vs ∧ RpAll X b vs.toList ds) :
    Itr X A target (.ref I) b₀ [I] (fun i h => h.IsListIter I a i) seq where
  frame := fun i h h' j k => j.at fun o e => k I (by simp) o e
  live := fun i h ⟨o, e, _⟩ x hx => by rw [List.mem_singleton.mp hx]; exact ⟨o, e⟩
  item := fun env σ i ds d s b S hb j e g ap => by
    obtain ⟨vs, hl', ra⟩ := hl env σ s b ds S hb e
    obtain ⟨v, hv, r⟩ := ra.getD g
    refine wpAny_pyNext_list_item j hl' (x := v) (by simpa using hv) fun h' j' hs => ⟨v, rfl, ?_⟩
    obtain ⟨o, ho, hc, _⟩ := j'
    refine letGo_plain (s := { s with heap := h' }) ho hc (by decide) ⟨h', b, s.toks, rfl, ⟨o, ho, hc, by assumption⟩, fun x o hx e => hs.extBut x o (fun z => hx (by simp [z])) e, Le.refl _, fun x o e => ?_, fun x o e => .inl ⟨o, e⟩, r⟩
    exact hs.extBut x o (fun z => by have := ap.b I (by simp); rw [← z, e] at this; cases this) (S.hp.le _ _ e)
  done := fun env σ i ds s b S hb j e g ap => by
    obtain ⟨vs, hl', ra⟩ := hl env σ s b ds S hb e
    refine wpAny_pyNext_list_end hh j hl' ?_ fun h' he => ⟨rfl, h', s.toks, rfl, fun x o hx e => he x o (fun z => hx (by simp [z])) e⟩
    have := ra.length
    have hg : ds.length ≤ i := by simpa using g
    simp; have : vs.size = ds.length := by rw [← this]; simp
    omega
  self := fun i s QQ E j h => wpAny_pyIter_listiter j h

theorem itb_list {target : Expr} {ds : List D} (hh : A.handled = none) : Itb X A env σ target (.list ds) (fun _ => some ds) := fun s b v S r => by
  cases r with
  | list g ra =>
  rename_i a vs n
  refine wpAny_pyIter_list (isList_of (S.hp.le _ _ g)) ⟨[s.heap.objs.size], fun i h => h.IsListIter s.heap.objs.size a i, _, s.toks, rfl, le_push _ _, fun x hx => by rw [List.mem_singleton.mp hx]; exact fresh_none _, ?_, ⟨_, Heap.get?_push_size _ rfl, rfl, rfl⟩⟩
  exact itr_list hh fun env σ s' b' ds' S' hb e => by cases e; exact ⟨vs, isList_of (S'.hp.le _ _ (hb _ _ g)), ra.mono hb⟩

def lstAt (a : Addr) (ω : Om) : Option (List D) := match ω.lookup a with
  | some (.lst ds) => some ds
  | _ => none
theorem itb_tup {target : Expr} {ds : List D} (hh : A.handled = none) : Itb X A env σ target (.tup ds) (fun _ => some ds) := fun s b v S r => by
  cases r with
  | tup g ra =>
  rename_i a vs n
  refine wpAny_pyIter_tuple (isTuple_of (S.hp.le _ _ g)) ⟨[s.heap.objs.size], fun i h => h.IsTupleIter s.heap.objs.size a i, _, s.toks, rfl, le_push _ _, fun x hx => by rw [List.mem_singleton.mp hx]; exact fresh_none _, ?_, ⟨_, Heap.get?_push_size _ rfl, rfl, rfl⟩⟩
  generalize s.heap.objs.size = I
  exact {
    frame := fun i h h' ⟨o, e, r⟩ k => ⟨o, k I (by simp) o e, r⟩
    live := fun i h ⟨o, e, _⟩ x hx => by rw [List.mem_singleton.mp hx]; exact ⟨o, e⟩
    item := fun env σ i ds' d s b' S hb j e g' ap => by
      cases e
      obtain ⟨v, hv, r⟩ := (ra.mono hb).getD g'
      refine wpAny_pyNext_tuple_item j (isTuple_of (S.hp.le _ _ (hb _ _ g))) (x := v) (by simpa using hv) fun h' j' hs => ⟨v, rfl, ?_⟩
      obtain ⟨o, ho, hc, _⟩ := j'
      refine letGo_plain (s := { s with heap := h' }) ho hc (by decide) ⟨h', b', s.toks, rfl, ⟨o, ho, hc, by assumption⟩, fun x o hx e => hs.extBut x o (fun z => hx (by simp [z])) e, Le.refl _, fun x o e => ?_, fun x o e => .inl ⟨o, e⟩, r⟩
      exact hs.extBut x o (fun z => by have := ap.b I (by simp); rw [← z, e] at this; cases this) (S.hp.le _ _ e)
    done := fun env σ i ds' s b' S hb j e g' ap => by
      cases e
      refine wpAny_pyNext_tuple_end hh j (isTuple_of (S.hp.le _ _ (hb _ _ g))) ?_ fun h' he => ⟨rfl, h', s.toks, rfl, fun x o hx e => he x o (fun z => hx (by simp [z])) e⟩
      have := ra.length
      have hg : ds.length ≤ i := by simpa using g'
      simp; have : vs.size = ds.length := by rw [← this]; simp
      omega
    self := fun i s QQ E j h => wpAny_pyIter_tupleiter j h }

theorem rngSize (n : Nat) : Builtin.Range.rangeSize 0 (n : Int) 1 = n := by
  unfold Builtin.Range.rangeSize
  simp
  omega

theorem itb_rng {target : Expr} {n : Nat} (hh : A.handled = none) (hn : n < 2 ^ 31) : Itb X A env σ target (.rng n) (fun _ => some ((List.range n).map fun i => .int (i : Nat))) := fun s b v S r => by
  cases r with
  | rng g =>
  rename_i a t u v
  have hsm : Builtin.Range.small 0 (n : Int) 1 = true := by
    unfold Builtin.Range.small
    rw [rngSize]
    simp [Builtin.Range.rangeFitsLong]
    omega
  refine wpAny_pyIter_range (S.hp.le _ _ g) hsm ⟨[s.heap.objs.size], fun i h => i ≤ n ∧ IsRangeIter h s.heap.objs.size (i : Nat) ((n : Int) - (i : Nat)) 1, _, s.toks, rfl, le_push _ _, fun x hx => by rw [List.mem_singleton.mp hx]; exact fresh_none _, ?_, ⟨Nat.zero_le _, ?_⟩⟩
  · generalize s.heap.objs.size = I
    exact {
      frame := fun i h h' ⟨l, e⟩ k => ⟨l, k I (by simp) _ e⟩
      live := fun i h ⟨l, e⟩ x hx => by rw [List.mem_singleton.mp hx]; exact ⟨_, e⟩
      item := fun env σ i ds' d s b' S hb j e g' ap => by
        cases e
        have hi : i < n := by
          have := (List.getElem?_eq_some_iff.mp g').1; simpa using this
        have hd : d = .int (i : Nat) := by simp [hi] at g'; exact g'.symm
        subst hd
        refine wpAny_pyNext_range_item j.2 (by omega) fun h' j' hs => ⟨_, rfl, ?_⟩
        have j2 : IsRangeIter h' I ((i + 1 : Nat) : Int) ((n : Int) - ((i + 1 : Nat) : Int)) 1 := by
          have e1 : ((i : Nat) : Int) + 1 = ((i + 1 : Nat) : Int) := by omega
          have e2 : (n : Int) - (i : Nat) - 1 = (n : Int) - ((i + 1 : Nat) : Int) := by omega
          rw [e1, e2] at j'; exact j'
        refine letGo_plain (s := { s with heap := h', toks := s.toks + 1 }) j2 rfl (by decide) ⟨h', b', s.toks + 1, rfl, ⟨hi, j2⟩, fun x o hx e => hs.extBut x o (fun z => hx (by simp [z])) e, Le.refl _, fun x o e => ?_, fun x o e => .inl ⟨o, e⟩, .int ..⟩
        exact hs.extBut x o (fun z => by have := ap.b I (by simp); rw [← z, e] at this; cases this) (S.hp.le _ _ e)
      done := fun env σ i ds' s b' S hb j e g' ap => by
        cases e
        have hi : n ≤ i := by simpa using g'
        have : i = n := Nat.le_antisymm j.1 hi
        subst this
        exact wpAny_pyNext_range_end hh j.2 (by omega) fun h' he => ⟨rfl, h', s.toks, rfl, fun x o hx e => he x o (fun z => hx (by simp [z])) e⟩
      self := fun i s QQ E j h => wpAny_pyIter_rangeiter j.2 h }
  · show (s.heap.push _).get? _ = _
    rw [rngSize]
    simpa [rawInt] using Heap.get?_push_size (h := s.heap) (o := { cls := .type "range_iterator", data := .fields #[rawInt 0, rawInt (n : Int), rawInt 1] }) rfl

theorem itr_dict {target : Expr} {I a : Addr} {b₀ : Heap} {ep : Nat} {seq : Sg → Option (List D)} {n : Nat} (hh : A.handled = none)
    (hl : ∀ env σ s b ds, St X env σ b s → Le b₀ b → seq σ = some ds → ∃ kvs, s.heap.DictAt X.kd a kvs ep ∧ ds = kvs.map (fun p => D.str p.1) ∧ kvs.length = n) :
    Itr X A target (.ref I) b₀ [I] (fun i h => h.IsKeyIter I a i n ep) seq where
  frame := fun i h h' ⟨o, e, r⟩ k => ⟨o, k I (by simp) o e, r⟩
  live := fun i h ⟨o, e, _⟩ x hx => by rw [List.mem_singleton.mp hx]; exact ⟨o, e⟩
  item := fun env σ i ds d s b S hb j e g ap => by
    obtain ⟨kvs, hm, rfl, rfl⟩ := hl env σ s b ds S hb e
    obtain ⟨⟨k, v⟩, hkv, rfl⟩ : ∃ p, kvs[i]? = some p ∧ d = D.str p.1 := by
      rw [List.getElem?_map] at g
      cases q : kvs[i]? with
      | none => rw [q] at g; cases g
      | some p => rw [q] at g; cases g; exact ⟨p, rfl, rfl⟩
    refine wpAny_pyNext_dict_item j hm hkv fun key h' hkey j' hs => ⟨key, rfl, ?_⟩
    obtain ⟨o, ho, hc, hd⟩ := j'
    obtain ⟨t, rfl⟩ := Value.isStrOf_shape hkey
    refine letGo_plain (s := { s with heap := h' }) ho hc (by decide) ⟨h', b, s.toks, rfl, ⟨o, ho, hc, hd⟩, fun x o hx e => hs.extBut x o (fun z => hx (by simp [z])) e, Le.refl _, fun x o e => ?_, fun x o e => .inl ⟨o, e⟩, .str ..⟩
    exact hs.extBut x o (fun z => by have := ap.b I (by simp); rw [← z, e] at this; cases this) (S.hp.le _ _ e)
  done := fun env σ i ds s b S hb j e g ap => by
    obtain ⟨kvs, hm, rfl, rfl⟩ := hl env σ s b ds S hb e
    refine wpAny_pyNext_dict_end hh j hm (by simpa using g) fun h' he => ⟨rfl, h', s.toks, rfl, fun x o hx e => he x o (fun z => hx (by simp [z])) e⟩
  self := fun i s QQ E j h => wpAny_pyIter_keyiter j h

theorem RpKv.keysD {b : Heap} {kvs : List (Str × Value)} {kds : List (Str × D)} (h : RpKv X b kvs kds) : kds.map (fun p => D.str p.1) = kvs.map (fun p => D.str p.1) := by
  have := congrArg (List.map D.str) h.keys
  rw [List.map_map, List.map_map] at this
  exact this.symm

theorem itb_dct {target : Expr} {kds : List (Str × D)} (hh : A.handled = none) : Itb X A env σ target (.dct kds) (fun _ => some (kds.map fun p => .str p.1)) := fun s b v S r => by
  cases r with
  | dct hne g rk =>
  rename_i a kvs ep
  refine wpAny_pyIter_dict hne (g.keep S.hp.le) ⟨[s.heap.objs.size], fun i h => h.IsKeyIter s.heap.objs.size a i kvs.length ep, _, s.toks, rfl, le_push _ _, fun x hx => by rw [List.mem_singleton.mp hx]; exact fresh_none _, ?_, ⟨_, Heap.get?_push_size _ rfl, rfl, rfl⟩⟩
  exact itr_dict hh fun env σ s' b' ds' S' hb e => by cases e; exact ⟨kvs, (g.keep hb).keep S'.hp.le, rk.keysD, rfl⟩

def dctAt (a : Addr) (ω : Om) : Option (List (Str × D)) := match ω.lookup a with
  | some (.dct ds) => some ds
  | _ => none
end Mine

namespace Mine
open PySem PySem.W PySem.Calls PyProof.Rows
variable {X : Cx} {A : Around} {env : Env} {σ : Sg} {P : D → Sg → Prop} {Q : Fl → Sg → Prop}

/-! comprehensions -/
def pick (ns : List Str) (ρ : List (Str × D)) : List (Str × D) := ns.filterMap fun n => (ρ.lookup n).map fun d => (n, d)
theorem pick_lookup {ns : List Str} {ρ : List (Str × D)} {y : Str} {d : D} (h : (pick ns ρ).lookup y = some d) : ρ.lookup y = some d ∧ y ∈ ns := by
  induction ns with
  | nil => cases h
  | cons n r ih =>
    unfold pick at h
    rw [List.filterMap_cons] at h
    cases q : ρ.lookup n with
    | none =>
      rw [q] at h
      have := ih h
      exact ⟨this.1, .tail _ this.2⟩
    | some e =>
      rw [q] at h
      simp only [Option.map_some, List.lookup_cons] at h
      cases z : (y == n) with
      | true => rw [z] at h; cases h; rw [beq_iff_eq.mp z]; exact ⟨q, .head _⟩
      | false => rw [z] at h; have := ih h; exact ⟨this.1, .tail _ this.2⟩
def freesOf (scope : Scope) : List Str := (scope.names.filter fun p => p.2 == .free).map (·.1)

/-- the block's own scope is plain: its names are local or free, no name twice -/
structure CompOk (scope : Scope) (env : Env) : Prop where
  kind : scope.kind = .function
  noCell : ∀ y ∈ scope.names, y.2 ≠ .cell
  loc : ∀ y ∈ scope.names, y.2 = .local → scope.names.lookup y.1 = some .local
  free : ∀ y ∈ scope.names, y.2 = .free → scope.names.lookup y.1 = some .free ∧ (env.kindOf y.1 = some .cell ∨ env.kindOf y.1 = some .free)
def compOk (scope : Scope) (env : Env) : Bool :=
  scope.kind == .function && scope.names.all fun y => y.2 != .cell && (y.2 != .local || scope.names.lookup y.1 == some .local) &&
    (y.2 != .free || (scope.names.lookup y.1 == some .free && (env.kindOf y.1 == some .cell || env.kindOf y.1 == some .free)))
theorem compOk_of {scope : Scope} {env : Env} (h : compOk scope env = true) : CompOk scope env := by
  unfold compOk at h
  simp only [Bool.and_eq_true, List.all_eq_true, Bool.or_eq_true, bne_iff_ne, beq_iff_eq, ne_eq] at h
  obtain ⟨h1, h2⟩ := h
  refine ⟨h1, fun y hy => (h2 y hy).1.1, fun y hy e => ?_, fun y hy e => ?_⟩
  · rcases (h2 y hy).1.2 with q | q
    · exact absurd e q
    · exact q
  · rcases (h2 y hy).2 with q | q
    · exact absurd e q
    · exact q

def clo (cells : List (Str × Addr)) : List (Str × NameKind) → List (Str × Addr) → List (Str × Addr)
  | [], acc => acc
  | (n, k) :: r, acc => if k == .free then clo cells r ((n, (cells.lookup n).getD 0) :: acc) else clo cells r acc
theorem clo_lookup {cells : List (Str × Addr)} {y : Str} {c : Addr} : ∀ (names : List (Str × NameKind)) (acc : List (Str × Addr)), (∀ p ∈ names, p.2 = .free → ∃ c, cells.lookup p.1 = some c) → (clo cells names acc).lookup y = some c →
    cells.lookup y = some c ∨ acc.lookup y = some c
  | [], acc, _, h => .inr h
  | (n, k) :: r, acc, hf, h => by
    unfold clo at h
    split at h
    · rename_i hk
      rcases clo_lookup r _ (fun p hp => hf p (.tail _ hp)) h with q | q
      · exact .inl q
      · rw [List.lookup_cons] at q
        cases z : (y == n) with
        | true =>
          rw [z] at q
          obtain ⟨c', e⟩ := hf (n, k) (.head _) (beq_iff_eq.mp hk)
          dsimp only at e q
          rw [e] at q; cases q
          rw [beq_iff_eq.mp z]; exact .inl e
        | false => rw [z] at q; exact .inr q
    · exact clo_lookup r acc (fun p hp => hf p (.tail _ hp)) h
theorem clo_has {cells : List (Str × Addr)} {y : Str} {c : Addr} (hc : cells.lookup y = some c) : ∀ (names : List (Str × NameKind)) (acc : List (Str × Addr)), ((y, NameKind.free) ∈ names ∨ acc.lookup y = some c) → (clo cells names acc).lookup y = some c
  | [], acc, h => h.elim (fun h => by cases h) id
  | (n, k) :: r, acc, h => by
    unfold clo
    split
    · rename_i hk
      refine clo_has hc r _ ?_
      by_cases hy : y = n
      · subst hy; right; simp [hc]
      · rcases h with h | h
        · left
          rcases List.mem_cons.mp h with e | e
          · cases e; exact absurd rfl hy
          · exact e
        · right
          have : (y == n) = false := by simpa using hy
          rw [List.lookup_cons, this]; exact h
    · rename_i hk
      refine clo_has hc r _ ?_
      rcases h with h | h
      · left
        rcases List.mem_cons.mp h with e | e
        · cases e; exact absurd rfl hk
        · exact e
      · exact .inr h
theorem closureFor_eq {scope : Scope} (hf : ∀ p ∈ scope.names, p.2 = .free → ∃ c, env.cells.lookup p.1 = some c) : closureFor scope env = pure (clo env.cells scope.names []) := by
  have key : ∀ (names : List (Str × NameKind)) (acc : List (Str × Addr)), (∀ p ∈ names, p.2 = .free → ∃ c, env.cells.lookup p.1 = some c) →
      forIn names acc (fun x r => if (x.2 == NameKind.free) = true then (cellOf env x.1) >>= fun c => pure (ForInStep.yield ((x.1, c) :: r)) else pure (ForInStep.yield r)) = (pure (clo env.cells names acc) : Sem _) := by
    intro names
    induction names with
    | nil => intro acc _; rfl
    | cons p r ih =>
      intro acc hf
      obtain ⟨n, k⟩ := p
      rw [List.forIn_cons]
      unfold clo
      by_cases hk : (k == NameKind.free) = true
      · simp only [hk, if_true]
        obtain ⟨c, e⟩ := hf (n, k) (.head _) (beq_iff_eq.mp hk)
        have e2 : cellOf env n = pure c := by unfold cellOf; rw [e]
        rw [e2]
        have e' : env.cells.lookup n = some c := e
        rw [e']
        exact ih _ fun p hp => hf p (.tail _ hp)
      · simp only [hk, if_false]
        exact ih _ fun p hp => hf p (.tail _ hp)
  have h2 : closureFor scope env = ((forIn scope.names ([] : List (Str × Addr)) (fun x r => if (x.2 == NameKind.free) = true then (cellOf env x.1) >>= fun c => pure (ForInStep.yield ((x.1, c) :: r)) else pure (ForInStep.yield r))) >>= fun s => pure s) := rfl
  rw [h2, key scope.names [] hf]
  rfl

/-- the tests of a clause -/
def TsB (X : Cx) (A : Around) (env : Env) (σ : Sg) (ifs : List Expr) (PB : Bool → Sg → Prop) : Prop :=
  TrB X A env σ (forIn ifs true fun c r => if r = true then do let ok ← isTrue c env (eval c env); pure (ForInStep.yield ok) else pure (ForInStep.yield r)) PB
theorem ts_nil {PB : Bool → Sg → Prop} (p : PB true σ) : TsB X A env σ [] PB := fun s b S => wpAny_tests_nil (PoB.here S p)
theorem ts_one {PB : Bool → Sg → Prop} {c : Expr} (h : Te X A env σ c PB) : TsB X A env σ [c] PB := fun s b S => wpAny_tests_one (h s b S)

inductive CmpI {α : Type} (mk : α → C) (X : Cx) (ce : Env) (own : List Addr) (J : Nat → Heap → Prop) (Inv : Nat → α → Om → Prop) (ρ : List (Str × D)) (acc : Addr) (c₀ : C) (ω₁ : Om) (s₀ : Shared) (b₁ : Heap) (N n : Nat) (s' : Shared) : Prop
  | mk (i : Nat) (out : α) (ω' : Om) (b' : Heap) (e : n = N + 1 - i) (hi : i ≤ N) (h : Inv i out ω') (S : St X ce ⟨ρ, (acc, mk out) :: ω'⟩ b' s') (E : Evo X ce ⟨ρ, (acc, c₀) :: ω₁⟩ ⟨ρ, (acc, mk out) :: ω'⟩ s₀ b₁ s' b') (j : J i s'.heap) (a : Apart X own ce ((acc, mk out) :: ω') b')
theorem compLoop_any {elt target iter : Expr} {ifs : List Expr} {scope : Scope} {pos : Pos} {it acc : Value} {cenv : Env} {R : Result → Shared → Prop} (I : Nat → Shared → Prop) {s : Shared}
    (turn : ∀ n s, I n s → wpAny X.M A (pyNext it) (fun r s₁ => match r with
      | none => R (.ok .next) s₁
      | some v => wpAny X.M A (letOwnedTupleGo target it v) (fun _ s₂ => wpAny X.M A (assign target cenv v) (fun _ s₃ =>
          wpAny X.M A (forIn ifs true fun c r => if r = true then do let ok ← isTrue c cenv (eval c cenv); pure (ForInStep.yield ok) else pure (ForInStep.yield r)) (fun ok s₄ =>
            if ok = true then wpAny X.M A (eval elt cenv) (fun x s₅ => wpAny X.M A (call (.builtin "list.append") [acc, x]) (fun _ s₆ => ∃ m, m < n ∧ I m s₆) Never s₅) Never s₄
            else ∃ m, m < n ∧ I m s₄) Never s₃) Never s₂) Never s₁) Never s)
    (n : Nat) (h : I n s) : codeAny X.M A (.compLoop (.ListComp elt [⟨target, iter, ifs, 0⟩] scope pos) 0 it acc cenv) R s := by
  refine codeAny_loop rfl I (fun n s hI => ?_) n h
  show wpAny _ A ((compTurn (.ListComp elt [⟨target, iter, ifs, 0⟩] scope pos) 0 it acc cenv).onRaise (fun x => do noteFrame x cenv; theTreesLotGoes x)) _ _ s
  refine wpAny_noted ?_
  rw [compTurn_list]
  refine wpAny_bind (wpAny_standAt (wpAny_bind (wpAny_mono (turn n s hI) (fun r s₁ h₁ => ?_) fun _ _ h' => h'.elim)))
  cases r with
  | none => exact wpAny_pure h₁
  | some v =>
    refine wpAny_bind (wpAny_mono h₁ (fun _ s₂ h₂ => wpAny_bind (wpAny_mono h₂ (fun _ s₃ h₃ => wpAny_bind (wpAny_mono h₃ (fun ok s₄ h₄ => ?_) fun _ _ h' => h'.elim)) fun _ _ h' => h'.elim)) fun _ _ h' => h'.elim)
    cases ok with
    | false => exact wpAny_pure ⟨rfl, h₄⟩
    | true =>
      exact wpAny_bind (wpAny_bind (wpAny_mono h₄ (fun x s₅ h₅ => wpAny_bind (wpAny_mono h₅ (fun _ s₆ h₆ => wpAny_pure (wpAny_pure ⟨rfl, h₆⟩)) fun _ _ h' => h'.elim)) fun _ _ h' => h'.elim))

theorem relabel_kind {scope : Scope} (ok : CompOk scope env) (hk : env.scope.kind = .function) {cl : List (Str × Addr)} {C : Addr} {y : Str} :
    (scope.names.lookup y = some .free → (compEnvC scope cl C env).kindOf y = some .cell ∨ (compEnvC scope cl C env).kindOf y = some .free) ∧
    ((compEnvC scope cl C env).kindOf y = some .cell ∨ (compEnvC scope cl C env).kindOf y = some .free → scope.names.lookup y = some .free) := by
  have gen : ∀ names : List (Str × NameKind), (∀ z ∈ names, z.2 ≠ .cell) →
      (names.lookup y = some .free → (names.map fun (n, k) => if (k == NameKind.free && env.scope.kind == .function && env.kindOf n == some .cell) then (n, NameKind.cell) else (n, k)).lookup y = some .cell ∨ (names.map fun (n, k) => if (k == NameKind.free && env.scope.kind == .function && env.kindOf n == some .cell) then (n, NameKind.cell) else (n, k)).lookup y = some .free) ∧
      ((names.map fun (n, k) => if (k == NameKind.free && env.scope.kind == .function && env.kindOf n == some .cell) then (n, NameKind.cell) else (n, k)).lookup y = some .cell ∨ (names.map fun (n, k) => if (k == NameKind.free && env.scope.kind == .function && env.kindOf n == some .cell) then (n, NameKind.cell) else (n, k)).lookup y = some .free → names.lookup y = some .free) := by
    intro names
    induction names with
    | nil => intro _; exact ⟨(fun h => by cases h), (fun h => by rcases h with h | h <;> cases h)⟩
    | cons p r ih =>
      intro hc
      obtain ⟨n, k⟩ := p
      have ih' := ih fun z hz => hc z (.tail _ hz)
      have hck : k ≠ .cell := hc (n, k) (.head _)
      simp only [List.map_cons]
      by_cases hcond : (k == NameKind.free && env.scope.kind == .function && env.kindOf n == some .cell) = true
      · simp only [hcond, if_true, List.lookup_cons]
        have hkf : k = .free := by simp only [Bool.and_eq_true, beq_iff_eq] at hcond; exact hcond.1.1
        cases z : (y == n) with
        | true => simp [hkf]
        | false => simpa using ih'
      · simp only [hcond, List.lookup_cons]
        cases z : (y == n) with
        | true => simp [List.lookup_cons, z, hck]
        | false => simpa [List.lookup_cons, z] using ih'
  exact gen scope.names ok.noCell
end Mine

namespace Mine
open PySem PySem.W PySem.Calls PyProof.Rows
variable {X : Cx} {A : Around} {env : Env} {σ : Sg} {P : D → Sg → Prop} {Q : Fl → Sg → Prop}

inductive CompEnd (X : Cx) (env : Env) (σ : Sg) (s : Shared) (b : Heap) (P : D → Sg → Prop) (acc C : Addr) (s' : Shared) : Prop
  | mk (out : List D) (ω' : Om) (b' : Heap) (E : Evo X env σ ⟨σ.ρ, ω'⟩ s b s' b') (S : St X env ⟨σ.ρ, ω'⟩ b' s') (r : Rp X b' (.ref acc) (.list out)) (p : P (.list out) ⟨σ.ρ, ω'⟩) (a : Apart X [C] env ω' b') (n : s.heap.get? C = none) (m : ∃ m, s'.heap.Ns C m)

theorem mem_frees {scope : Scope} (ok : CompOk scope env) {y : Str} (h : y ∈ freesOf scope) : (y, NameKind.free) ∈ scope.names ∧ scope.names.lookup y = some .free ∧ (env.kindOf y = some .cell ∨ env.kindOf y = some .free) := by
  unfold freesOf at h
  obtain ⟨⟨n, k⟩, hp, rfl⟩ := List.mem_map.mp h
  obtain ⟨h1, h2⟩ := List.mem_filter.mp hp
  have hk : k = .free := beq_iff_eq.mp h2
  subst hk
  exact ⟨h1, ok.free _ h1 rfl⟩

theorem FrOk.less {l : List Env} {ω : Om} {b h : Heap} (x : FrOk (X.at l) ω b h) (hl : ∀ e ∈ X.fr, e ∈ l) : FrOk X ω b h := fun e he => x e (hl e he)
theorem St.leave {l : List Env} {cenv : Env} {ρ ρ' ρ₀ : List (Str × D)} {ω₃ ω' : Om} {b₁ b' : Heap} {s₄ s' : Shared} (hl : ∀ e ∈ X.fr, e ∈ l) (S₄ : St X env ⟨ρ, ω₃⟩ b₁ s₄) (S' : St (X.at l) cenv ⟨ρ', ω'⟩ b' s') (E' : Evo (X.at l) cenv ⟨ρ₀, ω₃⟩ ⟨ρ', ω'⟩ s₄ b₁ s' b')
    (hF : ∀ a, Fx cenv ω₃ a → a ∈ ω₃.map (·.1) ∨ (a ≠ env.locals ∧ ∀ x, env.cells.lookup x ≠ some a)) : St X env ⟨ρ, ω'⟩ b' s' := by
  obtain ⟨oL, hoL⟩ : ∃ o, s₄.heap.get? env.locals = some o := by obtain ⟨m, ⟨o, _, _, h, _⟩, _⟩ := S₄.fm.ns; exact ⟨o, h⟩
  have nL : ¬ Fx cenv ω₃ env.locals := fun f => by
    rcases hF _ f with q | q
    · exact S₄.fa.lw q
    · exact q.1 rfl
  have nC : ∀ x c, env.cells.lookup x = some c → ¬ Fx cenv ω₃ c := fun x c e f => by
    rcases hF _ f with q | q
    · exact S₄.fa.cw x c e q
    · exact q.2 x e
  have hb : ∀ a o, b₁.get? a = none → s₄.heap.get? a = some o → ¬ Fx cenv ω₃ a → b'.get? a = none := fun a o e1 e2 nf => by
    cases q : b'.get? a with
    | none => rfl
    | some o' =>
      rcases E'.ext.new a o' q with ⟨o'', z⟩ | z | z
      · rw [e1] at z; cases z
      · rw [e2] at z; cases z
      · exact absurd z nf
  have hd : ∀ a o, a ∉ ω₃.map (·.1) → s₄.heap.get? a = some o → a ∉ ω'.map (·.1) := fun a o h1 h2 h3 => by
    rcases E'.dom a h3 with q | q
    · exact h1 q
    · rw [h2] at q; cases q
  refine ⟨S₄.ok, S'.hp.at, S₄.fm.monoS E'.ext.le (fun o e => (E'.ext.keep _ _ nL e).imp fun _ z => z.1) (fun y c o e1 e2 => (E'.ext.keep _ _ (nC y c e1) e2).imp fun _ z => z.1), ⟨hb _ _ S₄.fa.lb hoL nL, hd _ _ S₄.fa.lw hoL, fun x c e => ?_, fun x c e => ?_, S₄.fa.cl, S₄.fa.inj⟩, S'.fr.less hl⟩
  · obtain ⟨ov, o, ho, _⟩ := S₄.fm.cx x c e
    exact hb _ _ (S₄.fa.cb x c e) ho (nC x c e)
  · obtain ⟨ov, o, ho, _⟩ := S₄.fm.cx x c e
    exact hd _ _ (S₄.fa.cw x c e) ho

theorem Evo.leave {l : List Env} {cenv : Env} {σ₀ : Sg} {ρ ρ' ρ₀ : List (Str × D)} {ω₃ ω' : Om} {b b₁ b' : Heap} {s s₄ s' : Shared} (hl : ∀ a o, s.heap.get? a = some o → NotFr X a → NotFr (X.at l) a) (E₀ : Evo X env σ₀ ⟨ρ, ω₃⟩ s b s₄ b₁) (E' : Evo (X.at l) cenv ⟨ρ₀, ω₃⟩ ⟨ρ', ω'⟩ s₄ b₁ s' b')
    (hF : ∀ a, Fx cenv ω₃ a → a ∈ ω₃.map (·.1) ∨ s.heap.get? a = none) : Evo X env σ₀ ⟨ρ, ω'⟩ s b s' b' := by
  have nf : ∀ a o, ¬ Fx env σ₀.ω a → s.heap.get? a = some o → ¬ Fx cenv ω₃ a := fun a o f e g => by
    rcases hF a g with q | q
    · rcases E₀.dom a q with z | z
      · exact f (.inr (.inr z))
      · rw [e] at z; cases z
    · rw [e] at q; cases q
  refine ⟨⟨fun a o f e => keep_trans (s₁ := s) (E₀.ext.keep a o f e) (fun o' e' => (E'.ext.keep a o' (nf a o f e) e').imp fun _ z => ⟨z.1, fun n => z.2 (hl a o e n)⟩), E₀.ext.le.trans E'.ext.le, fun a o e => ?_, fun a o e => ?_, E'.ext.os.trans E₀.ext.os, E'.ext.gens.trans E₀.ext.gens⟩, fun a h => ?_⟩
  · rcases E'.ext.new a o e with ⟨o', z⟩ | z | z
    · exact E₀.ext.new a o' z
    · exact .inr (.inl (E₀.ext.none z))
    · rcases hF a z with q | q
      · rcases E₀.dom a q with z | z
        · exact .inr (.inr (.inr (.inr z)))
        · exact .inr (.inl z)
      · exact .inr (.inl q)
  · obtain ⟨o', z⟩ := E₀.ext.live a o e
    exact E'.ext.live a o' z
  · rcases E'.dom a h with q | q
    · exact E₀.dom a q
    · exact .inr (E₀.ext.none q)
/-- what stands when the block of a comprehension begins -/
inductive CompSet (X : Cx) (env : Env) (σ : Sg) (s : Shared) (b : Heap) (scope : Scope) (acc : Addr) (c₀ : C) (ω₁ : Om) (b₁ : Heap) (s₃ : Shared) (own : List Addr) (cA : Addr) (h₄ : Heap) (cl : List (Str × Addr)) : Prop
  | mk (hv : Heap) (CNone : s₃.heap.get? cA = none) (CNone₀ : s.heap.get? cA = none) (hle₄ : Le s₃.heap h₄) (hvle : Le hv h₄) (hvn : ∀ a ∈ own, hv.get? a = none)
    (SV : St X env ⟨σ.ρ, (acc, c₀) :: ω₁⟩ b₁ { s₃ with heap := hv, toks := s₃.toks + 0 })
    (EV : Evo X env σ ⟨σ.ρ, (acc, c₀) :: ω₁⟩ s b { s₃ with heap := hv, toks := s₃.toks + 0 } b₁)
    (back : ∀ (ω' : Om) (b' : Heap) (s' : Shared) (ρ' : List (Str × D)), St X (compEnvC scope cl cA env) ⟨ρ', ω'⟩ b' s' → Evo X (compEnvC scope cl cA env) ⟨pick (freesOf scope) σ.ρ, (acc, c₀) :: ω₁⟩ ⟨ρ', ω'⟩ { s₃ with heap := hv, toks := s₃.toks + 0 } b₁ s' b' →
      St X (compEnvC scope cl cA env) ⟨pick (freesOf scope) σ.ρ, ω'⟩ b' s')
    (SC : St X (compEnvC scope cl cA env) ⟨pick (freesOf scope) σ.ρ, (acc, c₀) :: ω₁⟩ b₁ { s₃ with heap := h₄, toks := s₃.toks + 0 })
    (apC : Apart X own (compEnvC scope cl cA env) ((acc, c₀) :: ω₁) b₁)
theorem comp_setup {scope : Scope} {acc : Addr} {c₀ : C} {ω₁ : Om} {b b₁ : Heap} {s s₂ s₃ : Shared} {own : List Addr} {h₄ : Heap} (ok : CompOk scope env) (S : St X env σ b s) (E₂ : Evo X env σ ⟨σ.ρ, ω₁⟩ s b s₂ b₁)
    (S₃' : St X env ⟨σ.ρ, (acc, c₀) :: ω₁⟩ b₁ s₃) (E₃' : Evo X env ⟨σ.ρ, ω₁⟩ ⟨σ.ρ, (acc, c₀) :: ω₁⟩ s₂ b₁ s₃ b₁) (ap₃ : Apart X own env ((acc, c₀) :: ω₁) b₁) (hfr : ∀ a ∈ own, s.heap.get? a = none) (hlive : ∀ a ∈ own, ∃ o, s₃.heap.get? a = some o)
    (hns : h₄.Ns s₃.heap.objs.size fun x => ([] : List (Str × Value)).reverse.lookup x) (hsb : Heap.SameBut s₃.heap.objs.size (s₃.heap.push { cls := .type (if (some env : Option Env).isSome then "dict" else "frame"), data := .dict #[] }) h₄) :
    CompSet X env σ s b scope acc c₀ ω₁ b₁ s₃ own s₃.heap.objs.size h₄ (clo env.cells scope.names []) := by
  generalize hC : s₃.heap.objs.size = cA at hns hsb ⊢
  have CNone : s₃.heap.get? cA = none := hC ▸ fresh_none _
  have hle₄ : Le s₃.heap h₄ := fun a o e => by
    have hne : a ≠ cA := fun z => by rw [z, CNone] at e; cases e
    exact (hsb.2 a hne).trans (Heap.get?_push_of_some _ e)
  obtain ⟨S₄, E₄⟩ := S₃'.extend (h' := h₄) (b' := b₁) (tk := s₃.toks + 0) hle₄ (Le.refl _) (S₃'.hp.le.trans hle₄) (fun a o e => .inl ⟨o, e⟩)
  have E₀₄ := (E₂.trans E₃').trans E₄
  -- the state without the iterator
  generalize hhv : restrict h₄ (fun a => !(own.contains a)) = hv
  have hvk : ∀ a o, a ∉ own → h₄.get? a = some o → hv.get? a = some o := fun a o h e => by
    rw [← hhv, get?_restrict]
    have : own.contains a = false := by simpa using h
    rw [this]; simpa using e
  have hvle : Le hv h₄ := fun a o e => by
    rw [← hhv, get?_restrict] at e
    split at e
    · exact e
    · cases e
  have hvn : ∀ a ∈ own, hv.get? a = none := fun a h => by
    rw [← hhv, get?_restrict]
    have : own.contains a = true := by simpa using h
    rw [this]; rfl
  have ap₄ : Apart X own env ((acc, c₀) :: ω₁) b₁ := ap₃
  have SV := S₄.other (h' := hv) (b' := b₁) (tk := s₃.toks + 0) ap₄ hvk (Le.refl _) (fun a o e => hvk a o (fun z => by rw [ap₄.b a z] at e; cases e) (S₄.hp.le _ _ e)) (fun a o e => .inl ⟨o, e⟩)
  have EV := E₀₄.other (h' := hv) (b' := b₁) (tk := s₃.toks + 0) hfr hvk (Le.refl _) (fun a o e => .inl ⟨o, e⟩)
  have CNone₀ : s.heap.get? cA = none := (E₂.trans E₃').ext.none CNone
  generalize hcl : clo env.cells scope.names [] = cl
  have hfc : ∀ p ∈ scope.names, p.2 = .free → ∃ c, env.cells.lookup p.1 = some c := fun p hp hk => S.ok.cells _ (ok.free p hp hk).2
  have cl1 : ∀ y c, cl.lookup y = some c → env.cells.lookup y = some c := fun y c e => by
    rw [← hcl] at e
    rcases clo_lookup _ _ hfc e with q | q
    · exact q
    · cases q
  have cl2 : ∀ y c, (y, NameKind.free) ∈ scope.names → env.cells.lookup y = some c → cl.lookup y = some c := fun y c hy e => by
    rw [← hcl]; exact clo_has e _ _ (.inl hy)
  have hck : env.scope.kind = .function := S.ok.kind
  have lk_free : ∀ y, scope.names.lookup y = some .free → (y, NameKind.free) ∈ scope.names := fun y e => by
    have gen : ∀ l : List (Str × NameKind), l.lookup y = some .free → (y, NameKind.free) ∈ l := by
      intro l
      induction l with
      | nil => intro h; cases h
      | cons p r ih =>
        intro h
        obtain ⟨n, k⟩ := p
        rw [List.lookup_cons] at h
        cases z : (y == n) with
        | true => rw [z] at h; cases h; rw [beq_iff_eq.mp z]; exact .head _
        | false => rw [z] at h; exact .tail _ (ih h)
    exact gen _ e
  have okC : EnvOk (compEnvC scope cl cA env) := by
    refine ⟨?_, S.ok.glob, S.ok.blt, fun y k => ?_⟩
    · show (relabel scope env).kind = .function; exact ok.kind
    · have hf := (relabel_kind ok hck (cl := cl) (C := cA) (y := y)).2 k
      have hm := lk_free y hf
      obtain ⟨c, e⟩ := hfc _ hm rfl
      exact ⟨c, cl2 y c hm e⟩
  -- the state as the block sees it
  have back : ∀ (ω' : Om) (b' : Heap) (s' : Shared) (ρ' : List (Str × D)), St X (compEnvC scope cl cA env) ⟨ρ', ω'⟩ b' s' → Evo X (compEnvC scope cl cA env) ⟨pick (freesOf scope) σ.ρ, (acc, c₀) :: ω₁⟩ ⟨ρ', ω'⟩ { s₃ with heap := hv, toks := s₃.toks + 0 } b₁ s' b' →
      St X (compEnvC scope cl cA env) ⟨pick (freesOf scope) σ.ρ, ω'⟩ b' s' := by
    intro ω' b' s' ρ' S' E'
    refine ⟨S'.ok, S'.hp, ⟨?_, fun y d k e => ?_, S'.fm.cx⟩, S'.fa, S'.fr⟩
    · obtain ⟨m, hm, _⟩ := S'.fm.ns
      refine ⟨m, hm, fun y d k e => ?_⟩
      obtain ⟨_, hy⟩ := pick_lookup e
      have := (mem_frees ok hy).2.1
      have q := (relabel_kind ok hck (cl := cl) (C := cA) (y := y)).1 this
      rcases q with q | q <;> rw [k] at q <;> cases q
    · obtain ⟨e', hy⟩ := pick_lookup e
      obtain ⟨hm, _, hk⟩ := mem_frees ok hy
      obtain ⟨c, v, h1, ⟨o, h2, h3⟩, h4⟩ := SV.fm.cl y d hk e'
      have nf : ¬ Fx (compEnvC scope cl cA env) ((acc, c₀) :: ω₁) c := fun f => by
        rcases f with f | f | f
        · obtain ⟨ov, o', ho', _⟩ := S₃'.fm.cx y c h1
          have f' : c = cA := f
          rw [f', CNone] at ho'; cases ho'
        · exact absurd f.1 (by show ¬ (Option.isSome (none : Option Addr) = true); simp)
        · exact S₃'.fa.cw y c h1 f
      obtain ⟨sl, h2', _⟩ := E'.ext.keep c o nf h2
      exact ⟨c, v, cl2 y c hm h1, ⟨_, h2', h3⟩, h4.mono E'.ext.le⟩
  have SC : St X (compEnvC scope cl cA env) ⟨pick (freesOf scope) σ.ρ, (acc, c₀) :: ω₁⟩ b₁ { s₃ with heap := h₄, toks := s₃.toks + 0 } := by
    refine ⟨okC, S₄.hp, ⟨⟨_, hns, fun y d k e => ?_⟩, fun y d k e => ?_, fun y c e => S₄.fm.cx y c (cl1 y c e)⟩, ⟨?_, ?_, fun y c e => S₄.fa.cb y c (cl1 y c e), fun y c e => S₄.fa.cw y c (cl1 y c e), fun y c e => ?_, fun y z c e1 e2 => S₄.fa.inj y z c (cl1 y c e1) (cl1 z c e2)⟩, S₄.fr⟩
    · obtain ⟨_, hy⟩ := pick_lookup e
      have := (mem_frees ok hy).2.1
      have q := (relabel_kind ok hck (cl := cl) (C := cA) (y := y)).1 this
      rcases q with q | q <;> rw [k] at q <;> cases q
    · obtain ⟨e', hy⟩ := pick_lookup e
      obtain ⟨hm, _, hk⟩ := mem_frees ok hy
      obtain ⟨c, v, h1, h2, h4⟩ := S₄.fm.cl y d hk e'
      exact ⟨c, v, cl2 y c hm h1, h2, h4⟩
    · show b₁.get? cA = none
      cases q : b₁.get? cA with
      | none => rfl
      | some o => have := S₃'.hp.le _ _ q; rw [CNone] at this; cases this
    · show cA ∉ _
      intro h
      obtain ⟨p, hp, e⟩ := List.mem_map.mp h
      obtain ⟨o, ho⟩ := (S₃'.hp.cell p hp).live
      rw [e, CNone] at ho; cases ho
    · show c ≠ cA
      intro z
      obtain ⟨ov, o', ho', _⟩ := S₃'.fm.cx y c (cl1 y c e)
      rw [z, CNone] at ho'; cases ho'
  have apC : Apart X own (compEnvC scope cl cA env) ((acc, c₀) :: ω₁) b₁ := by
    refine ⟨ap₃.w, ap₃.b, fun a ha z => ?_, fun a ha y z => ap₃.c a ha y (cl1 y a z), ap₃.f⟩
    obtain ⟨o, ho⟩ := hlive a ha
    have z' : a = cA := z
    rw [z', CNone] at ho; cases ho
  exact ⟨hv, CNone, CNone₀, hle₄, hvle, hvn, SV, EV, back, SC, apC⟩

/-- what stands when the turns of a comprehension are over -/
inductive CompDn (X : Cx) (env : Env) (σ : Sg) (s : Shared) (b : Heap) (acc : Addr) (cO : C) (ω' : Om) (cA : Addr) (b' : Heap) (sF : Shared) : Prop
  | mk (L : St X env ⟨σ.ρ, (acc, cO) :: ω'⟩ b' sF) (F : Evo X env σ ⟨σ.ρ, (acc, cO) :: ω'⟩ s b sF b')
    (AP : ∀ (ω'' : Om) (b₇ : Heap), (cA ∈ ω''.map (·.1) → cA ∈ ((acc, cO) :: ω' : Om).map (·.1)) → (∀ o, b₇.get? cA = some o → (∃ o', b'.get? cA = some o') ∨ sF.heap.get? cA = none ∨ Fx env ((acc, cO) :: ω') cA) → Apart X [cA] env ω'' b₇) (ns : ∃ m, sF.heap.Ns cA m)
theorem comp_done {scope : Scope} {cl : List (Str × Addr)} {acc : Addr} {c₀ cO : C} {ω₁ ω' : Om} {b b₁ b' : Heap} {s s₃ s' : Shared} {own : List Addr} {hv h₅ : Heap} {cA : Addr} {tk₅ : Nat}
    (CNone : s₃.heap.get? cA = none) (CNone₀ : s.heap.get? cA = none) (S₃' : St X env ⟨σ.ρ, (acc, c₀) :: ω₁⟩ b₁ s₃) (ap₃ : Apart X own env ((acc, c₀) :: ω₁) b₁) (hfr : ∀ a ∈ own, s.heap.get? a = none)
    (SV : St X env ⟨σ.ρ, (acc, c₀) :: ω₁⟩ b₁ { s₃ with heap := hv, toks := s₃.toks + 0 }) (EV : Evo X env σ ⟨σ.ρ, (acc, c₀) :: ω₁⟩ s b { s₃ with heap := hv, toks := s₃.toks + 0 } b₁)
    (S' : St X (compEnvC scope cl cA env) ⟨pick (freesOf scope) σ.ρ, (acc, cO) :: ω'⟩ b' s')
    (E' : Evo X (compEnvC scope cl cA env) ⟨pick (freesOf scope) σ.ρ, (acc, c₀) :: ω₁⟩ ⟨pick (freesOf scope) σ.ρ, (acc, cO) :: ω'⟩ { s₃ with heap := hv, toks := s₃.toks + 0 } b₁ s' b')
    (ap' : Apart X own (compEnvC scope cl cA env) ((acc, cO) :: ω') b') (hk₅ : ∀ a o, a ∉ own → s'.heap.get? a = some o → h₅.get? a = some o) :
    CompDn X env σ s b acc cO ω' cA b' { s' with heap := h₅, toks := tk₅ } := by
  have hin : Le b' h₅ := fun a o e => hk₅ a o (fun z => by rw [ap'.b a z] at e; cases e) (S'.hp.le _ _ e)
  have S₅ := S'.other (h' := h₅) (b' := b') (tk := tk₅) ap' hk₅ (Le.refl _) hin (fun a o e => .inl ⟨o, e⟩)
  have hF : ∀ a, Fx (compEnvC scope cl cA env) ((acc, c₀) :: ω₁) a → a ∈ ((acc, c₀) :: ω₁ : Om).map (·.1) ∨ a = cA := fun a f => by
    rcases f with f | f | f
    · exact .inr f
    · exact absurd f.1 (by show ¬ (Option.isSome (none : Option Addr) = true); simp)
    · exact .inl f
  have cAL : cA ≠ env.locals := fun z => by
    obtain ⟨m, ⟨o, _, _, h1, _⟩, _⟩ := S₃'.fm.ns
    rw [← z, CNone] at h1; cases h1
  have cAC : ∀ y, env.cells.lookup y ≠ some cA := fun y z => by
    obtain ⟨ov, o', ho', _⟩ := S₃'.fm.cx y cA z
    rw [CNone] at ho'; cases ho'
  have L₅ := St.leave (fun _ z => z) SV S' E' (fun a f => (hF a f).imp id fun z => by subst z; exact ⟨cAL, cAC⟩)
  have F₅ := Evo.leave (fun _ _ _ z => z) EV E' (fun a f => (hF a f).imp id fun z => by subst z; exact CNone₀)
  have apE : Apart X own env ((acc, cO) :: ω') b' := ⟨ap'.w, ap'.b, ap₃.l, ap₃.c, ap₃.f⟩
  have L₆ := L₅.other (h' := h₅) (b' := b') (tk := tk₅) apE hk₅ (Le.refl _) hin (fun a o e => .inl ⟨o, e⟩)
  have F₆ := F₅.other (h' := h₅) (b' := b') (tk := tk₅) hfr hk₅ (Le.refl _) (fun a o e => .inl ⟨o, e⟩)
  refine ⟨L₆, F₆, fun ω'' b₇ hm hn => ⟨?_, ?_, ?_, ?_, ?_⟩, ?_⟩
  · intro a ha
    rw [List.mem_singleton.mp ha]
    intro z
    exact S'.fa.lw (hm z)
  · intro a ha
    rw [List.mem_singleton.mp ha]
    cases q : b₇.get? cA with
    | none => rfl
    | some o =>
      rcases hn o q with ⟨o', z⟩ | z | z
      · have : b'.get? cA = none := S'.fa.lb
        rw [this] at z; cases z
      · obtain ⟨m, ⟨oo, _, _, h1, _⟩, _⟩ := S₅.fm.ns
        have h1' : h₅.get? cA = some oo := h1
        have z' : h₅.get? cA = none := z
        rw [h1'] at z'; cases z'
      · rcases z with z | z | z
        · exact absurd z cAL
        · obtain ⟨_, y, z⟩ := z; exact absurd z (cAC y)
        · exact absurd z S'.fa.lw
  · intro a ha; rw [List.mem_singleton.mp ha]; exact cAL
  · intro a ha; rw [List.mem_singleton.mp ha]; exact cAC
  · intro a ha e he z
    rw [List.mem_singleton.mp ha] at z
    obtain ⟨k, L, o, es, ep, h1, h2, h3, h4, h5⟩ := S₃'.fr e he
    rw [z] at h1; cases h1
    rw [CNone] at h4; cases h4
  · obtain ⟨m, hm, _⟩ := S₅.fm.ns; exact ⟨m, hm⟩

theorem comp_core {elt target iter : Expr} {ifs : List Expr} {scope : Scope} {pos : Pos} (seq : Sg → Option (List D)) (N : Nat) (Inv : Nat → List D → Om → Prop)
    (ok : CompOk scope env)
    (hsrc : Src X A env σ iter target seq (fun σ₁ => σ₁.ρ = σ.ρ ∧ Inv 0 [] σ₁.ω))
    (hN : ∀ i out ω acc, Inv i out ω → ∃ ds, seq ⟨pick (freesOf scope) σ.ρ, (acc, .lst out) :: ω⟩ = some ds ∧ ds.length ≤ N)
    (hout : ∀ i out ω, Inv i out ω → out.length ≤ sizeLine)
    (step : ∀ cl C acc i out ω ds d, Inv i out ω → seq ⟨pick (freesOf scope) σ.ρ, (acc, .lst out) :: ω⟩ = some ds → ds[i]? = some d →
      Asg X A (compEnvC scope cl C env) ⟨pick (freesOf scope) σ.ρ, (acc, .lst out) :: ω⟩ target d (fun σ₁ => TsB X A (compEnvC scope cl C env) σ₁ ifs (fun c σ₂ =>
        if c = true then Ev X A (compEnvC scope cl C env) σ₂ elt (fun r σ₃ => ∃ ω', σ₃.ω = (acc, .lst out) :: ω' ∧ Inv (i + 1) (out ++ [r]) ω')
        else ∃ ω', σ₂.ω = (acc, .lst out) :: ω' ∧ Inv (i + 1) out ω')))
    (fin : ∀ i out ω ds acc, Inv i out ω → seq ⟨pick (freesOf scope) σ.ρ, (acc, .lst out) :: ω⟩ = some ds → ds[i]? = none → P (.list out) ⟨σ.ρ, ω⟩) :
    ∀ s b, St X env σ b s → wpAny X.M A (eval iter env) (fun x s₁ => wpAny X.M A (pyIter x) (fun it s₂ => wpAny X.M A (newList []) (fun acc s₃ =>
      wpAny X.M A (newFunctionEnv scope env.globals (clo env.cells scope.names []) [] env.qual none .none (some env)) (fun cenv s₄ =>
        codeAny X.M A (.compStart (.ListComp elt [⟨target, iter, ifs, 0⟩] scope pos) 0 it acc { cenv with scope := relabel scope env }) (fun r s' => ∃ f a, r = .ok f ∧ acc = .ref a ∧ CompEnd X env σ s b P a cenv.locals s') s₄)
        Never s₃) Never s₂) Never s₁) Never s := by
  intro s b S
  refine wpAny_mono (hsrc s b S) ?_ (fun _ _ x => x)
  intro x s₁ hx
  refine wpAny_mono hx ?_ (fun _ _ x => x)
  rintro it s₂ ⟨σ₁, b₁, own, J, E₂, S₂, ap₂, hfr, I, hJ, hρ, hI0⟩
  obtain ⟨ρ₁, ω₁⟩ := σ₁
  dsimp only at hρ hI0 ap₂
  subst hρ
  -- the list that is filled
  have hacc := S₂.allocC (seqObj "list" #[] 0) (.lst []) ⟨#[], 0, Heap.get?_push_size _ rfl, .nil⟩
  obtain ⟨S₃, E₃⟩ := hacc
  refine wpAny_newObj_type ?_ (by show (0 : Nat) ≤ sizeLine; exact Nat.zero_le _)
  generalize hacc : s₂.heap.objs.size = acc at S₃ E₃ ⊢
  have accNone : s₂.heap.get? acc = none := hacc ▸ fresh_none _
  generalize hs₃ : ({ s₂ with heap := s₂.heap.push (seqObj "list" #[] 0) } : Shared) = s₃ at S₃ E₃ ⊢
  have S₃' : St X env ⟨σ.ρ, (acc, .lst []) :: ω₁⟩ b₁ s₃ := S₃
  have E₃' : Evo X env ⟨σ.ρ, ω₁⟩ ⟨σ.ρ, (acc, .lst []) :: ω₁⟩ s₂ b₁ s₃ b₁ := E₃
  have ap₃ : Apart X own env ((acc, C.lst []) :: ω₁) b₁ := ap₂.after (σ := ⟨σ.ρ, ω₁⟩) (σ' := ⟨σ.ρ, (acc, .lst []) :: ω₁⟩) E₃' (I.live _ _ hJ)
  have hJ₃ : J 0 s₃.heap := I.frame _ _ _ hJ fun a ha o e => ap₂.keep (σ := ⟨σ.ρ, ω₁⟩) E₃' ha e
  -- the block's own names
  refine wpAny_newFunctionEnv ok.noCell (by intro y hy; cases hy) (fun h₄ hns hsb => ?_) ok.kind
  obtain ⟨hv, CNone, CNone₀, hle₄, hvle, hvn, SV, EV, back, SC, apC⟩ := comp_setup ok S E₂ S₃' E₃' ap₃ hfr (I.live _ _ hJ₃) hns hsb
  have hJ₄ : J 0 h₄ := I.frame _ _ _ hJ₃ fun a ha o e => hle₄ _ _ e
  generalize hC : s₃.heap.objs.size = cA at hns hsb CNone CNone₀ back SC apC ⊢
  show codeAny X.M A (.compStart _ 0 it (.ref acc) (compEnvC scope (clo env.cells scope.names []) cA env)) _ _
  generalize hcl : clo env.cells scope.names [] = cl at back SC apC ⊢
  -- the turns
  let RR : Result → Shared → Prop := fun r s' => ∃ f a, r = .ok f ∧ Value.ref acc = .ref a ∧ CompEnd X env σ s b P a cA s'
  have loop : codeAny X.M A (.compLoop (.ListComp elt [⟨target, iter, ifs, 0⟩] scope pos) 0 it (.ref acc) (compEnvC scope cl cA env)) RR { s₃ with heap := h₄, toks := s₃.toks + 0 } := by
    let II : Nat → Shared → Prop := CmpI C.lst X (compEnvC scope cl cA env) own J Inv (pick (freesOf scope) σ.ρ) acc (.lst []) ω₁ { s₃ with heap := hv, toks := s₃.toks + 0 } b₁ N
    refine compLoop_any II ?_ (N + 1)
      ⟨0, [], ω₁, b₁, rfl, Nat.zero_le _, hI0, SC, ⟨⟨fun a o _ e => kept (hvle _ _ e), Le.refl _, fun a o e => .inl ⟨o, e⟩, fun a o e => ⟨o, hvle _ _ e⟩, rfl, rfl⟩, fun a h => .inl h⟩, hJ₄, apC⟩
    rintro n s' ⟨i, out, ω', b', rfl, hi, hinv, S', E', hJ', ap'⟩
    obtain ⟨ds, hds, hlen⟩ := hN i out ω' acc hinv
    cases hc : ds[i]? with
    | none =>
      refine wpAny_mono (I.done _ _ i ds s' b' S' E'.ext.le hJ' hds hc ap') ?_ (fun _ _ x => x.elim)
      rintro r s'' ⟨rfl, h₅, tk₅, rfl, hk₅⟩
      refine ⟨.next, acc, rfl, rfl, ?_⟩
      obtain ⟨L₆, F₆, AP, hNs⟩ := comp_done (tk₅ := tk₅) CNone CNone₀ S₃' ap₃ hfr SV EV S' E' ap' hk₅
      have hnd := L₆.hp.nod
      simp only [List.map_cons, List.nodup_cons] at hnd
      obtain ⟨b₇, l₇, S₇, E₇, r₇⟩ := L₆.freeze (a := acc) (ds := out) (ω' := ω') (ρ' := σ.ρ) (.head _) (fun p hp => ⟨.tail _ hp, fun z => hnd.1 (z ▸ List.mem_map_of_mem hp)⟩) hnd.2 (fun x d e => .inl e)
      refine ⟨out, ω', b₇, F₆.trans E₇, S₇, r₇, fin i out ω' ds acc hinv hds hc, AP ω' b₇ (fun z => List.mem_cons_of_mem _ z) (fun o q => E₇.ext.new cA o q), CNone₀, hNs⟩
    | some d =>
      refine wpAny_mono (I.item _ _ i ds d s' b' S' E'.ext.le hJ' hds hc ap') ?_ (fun _ _ x => x.elim)
      rintro r s'' ⟨v', rfl, hw⟩
      refine wpAny_mono hw ?_ (fun _ _ x => x.elim)
      rintro _ s₅ ⟨h₅, b₅, tk₅, rfl, hJ₅, hk₅, hbb, hin, hnew, r₅⟩
      have S₅ := S'.other (h' := h₅) (b' := b₅) (tk := tk₅) ap' hk₅ hbb hin hnew
      have E₅ := E'.other (h' := h₅) (b' := b₅) (tk := tk₅) hvn hk₅ hbb hnew
      have ap₅b : ∀ a ∈ own, b₅.get? a = none := fun a ha => by
        cases q : b₅.get? a with
        | none => rfl
        | some o =>
          obtain ⟨oo, hoo⟩ := I.live _ _ hJ' a ha
          rcases hnew a o q with ⟨o', z⟩ | z
          · rw [ap'.b a ha] at z; cases z
          · rw [hoo] at z; cases z
      have ap₅ : Apart X own (compEnvC scope cl cA env) ((acc, .lst out) :: ω') b₅ := ⟨ap'.w, ap₅b, ap'.l, ap'.c, ap'.f⟩
      have hlt : i < N := Nat.lt_of_lt_of_le (by simpa using (List.getElem?_eq_some_iff.mp hc).1) hlen
      refine wpAny_mono (step cl cA acc i out ω' ds d hinv hds hc _ b₅ v' S₅ r₅) ?_ (fun _ _ x => x.elim)
      rintro _ s₆ ⟨σ₆, b₆, E₆, S₆, h₆⟩
      have ap₆ := ap₅.after E₆ (I.live _ _ hJ₅)
      have hJ₆ := I.frame _ _ s₆.heap hJ₅ (fun a ha o e => ap₅.keep E₆ ha e)
      refine wpAny_mono (h₆ s₆ b₆ S₆) ?_ (fun _ _ x => x.elim)
      rintro c s₇ ⟨σ₇, b₇, E₇, S₇, h₇⟩
      have ap₇ := ap₆.after E₇ (I.live _ _ hJ₆)
      have hJ₇ := I.frame _ _ s₇.heap hJ₆ (fun a ha o e => ap₆.keep E₇ ha e)
      cases c with
      | false =>
        simp only [Bool.false_eq_true, if_false] at h₇ ⊢
        obtain ⟨ω₇, hω₇, hinv₇⟩ := h₇
        obtain ⟨ρ₇, ω₇'⟩ := σ₇
        dsimp only at hω₇; subst hω₇
        have E₅₇ := (E₅.trans E₆).trans E₇
        refine ⟨N + 1 - (i + 1), by omega, i + 1, out, ω₇, b₇, rfl, hlt, hinv₇, back _ _ _ _ S₇ E₅₇, ⟨E₅₇.ext, E₅₇.dom⟩, hJ₇, ap₇⟩
      | true =>
        simp only [if_true] at h₇ ⊢
        refine wpAny_mono (h₇ s₇ b₇ S₇) ?_ (fun _ _ x => x.elim)
        rintro x s₈ ⟨dx, σ₈, b₈, E₈, S₈, r₈, ω₈, hω₈, hinv₈⟩
        have ap₈ := ap₇.after E₈ (I.live _ _ hJ₇)
        have hJ₈ := I.frame _ _ s₈.heap hJ₇ (fun a ha o e => ap₇.keep E₈ ha e)
        obtain ⟨ρ₈, ω₈'⟩ := σ₈
        dsimp only at hω₈; subst hω₈
        obtain ⟨vs, nn, hg, hr⟩ := S₈.hp.cell _ (.head _)
        have hz : vs.size ≤ sizeLine := by
          have h1 := hr.length
          have h2 := hout _ _ _ hinv
          have : vs.size = out.length := by rw [← h1]; simp
          omega
        refine wpAny_list_append_plain (hsz := hz) ⟨nn, hg⟩ fun h₉ hl₉ hs₉ => ?_
        obtain ⟨n₉, g₉⟩ := hl₉
        obtain ⟨S₉, E₉⟩ := S₈.setCell (c' := .lst (out ++ [dx])) .head hs₉ ⟨vs.push x, n₉, g₉, by simpa using hr.append (.cons r₈ .nil)⟩
        have ap₉ := ap₈.after E₉ (I.live _ _ hJ₈)
        have hJ₉ := I.frame _ _ h₉ hJ₈ (fun a ha o e => ap₈.keep E₉ ha e)
        have E₅₉ := (((E₅.trans E₆).trans E₇).trans E₈).trans E₉
        refine ⟨N + 1 - (i + 1), by omega, i + 1, out ++ [dx], ω₈, b₈, rfl, hlt, hinv₈, back _ _ _ _ S₉ E₅₉, ⟨E₅₉.ext, E₅₉.dom⟩, hJ₉, ap₉⟩
  refine codeAny_compStart_list loop ?_
  refine wpAny_mono (I.self 0 _ (fun v s' => v = it ∧ s' = { s₃ with heap := h₄, toks := s₃.toks + 0 }) Never hJ₄ ⟨rfl, rfl⟩) ?_ (fun _ _ x => x.elim)
  rintro v s' ⟨rfl, rfl⟩
  exact loop
end Mine

namespace Mine
open PySem PySem.W PySem.Calls PyProof.Rows
variable {X : Cx} {A : Around} {env : Env} {σ : Sg} {P : D → Sg → Prop} {Q : Fl → Sg → Prop}

/-- what a comprehension over one clause asks -/
structure CompPre (X : Cx) (A : Around) (env : Env) (σ : Sg) (elt target iter : Expr) (ifs : List Expr) (scope : Scope) (P : D → Sg → Prop) (seq : Sg → Option (List D)) (N : Nat) (Inv : Nat → List D → Om → Prop) : Prop where
  src : Src X A env σ iter target seq (fun σ₁ => σ₁.ρ = σ.ρ ∧ Inv 0 [] σ₁.ω)
  len : ∀ i out ω acc, Inv i out ω → ∃ ds, seq ⟨pick (freesOf scope) σ.ρ, (acc, .lst out) :: ω⟩ = some ds ∧ ds.length ≤ N
  outLen : ∀ i out ω, Inv i out ω → out.length ≤ sizeLine
  step : ∀ cl C acc i out ω ds d, Inv i out ω → seq ⟨pick (freesOf scope) σ.ρ, (acc, .lst out) :: ω⟩ = some ds → ds[i]? = some d →
      Asg X A (compEnvC scope cl C env) ⟨pick (freesOf scope) σ.ρ, (acc, .lst out) :: ω⟩ target d (fun σ₁ => TsB X A (compEnvC scope cl C env) σ₁ ifs (fun c σ₂ =>
        if c = true then Ev X A (compEnvC scope cl C env) σ₂ elt (fun r σ₃ => ∃ ω', σ₃.ω = (acc, .lst out) :: ω' ∧ Inv (i + 1) (out ++ [r]) ω')
        else ∃ ω', σ₂.ω = (acc, .lst out) :: ω' ∧ Inv (i + 1) out ω'))
  fin : ∀ i out ω ds acc, Inv i out ω → seq ⟨pick (freesOf scope) σ.ρ, (acc, .lst out) :: ω⟩ = some ds → ds[i]? = none → P (.list out) ⟨σ.ρ, ω⟩

theorem ev_comp {elt target iter : Expr} {ifs : List Expr} {scope : Scope} {pos : Pos} {seq : Sg → Option (List D)} {N : Nat} {Inv : Nat → List D → Om → Prop} (hok : compOk scope env = true)
    (hp : CompPre X A env σ elt target iter ifs scope P seq N Inv) (hs : ∀ x, foldedSetIterable iter env x = pure x) : Ev X A env σ (.ListComp elt [⟨target, iter, ifs, 0⟩] scope pos) P := fun s b S => by
  have ok := compOk_of hok
  show wpAny X.M A (eval (.ListComp elt [⟨target, iter, ifs, 0⟩] scope pos) env) _ _ s
  rw [eval_ListComp]
  refine wpAny_comprehension_free (use := none) rfl hs (closureFor_eq fun p hp hk => S.ok.cells _ (ok.free p hp hk).2) ok.kind ok.loc ?_
  refine wpAny_mono (comp_core (pos := pos) seq N Inv ok hp.src hp.len hp.outLen hp.step hp.fin s b S) ?_ (fun _ _ x => x)
  intro x s₁ h₁
  refine wpAny_mono h₁ (fun it s₂ h₂ => wpAny_mono h₂ (fun acc s₃ h₃ => wpAny_mono h₃ (fun cenv s₄ h₄ => codeAny_mono h₄ fun r s' hr => ?_) fun _ _ x => x) fun _ _ x => x) fun _ _ x => x
  obtain ⟨f, a, rfl, rfl, out, ω', b', E, S', r, p, ap, hn, m, hm⟩ := hr
  refine ⟨m, hm, fun h' hsb => ?_⟩
  have hk : ∀ x o, x ∉ [cenv.locals] → s'.heap.get? x = some o → h'.get? x = some o := fun x o hx e => (hsb.2 x (by simpa using hx)).trans e
  have hin : Le b' h' := fun x o e => hk x o (fun z => by rw [ap.b x z] at e; cases e) (S'.hp.le _ _ e)
  exact ⟨.list out, _, b', E.other (own := [cenv.locals]) (fun x hx => by rw [List.mem_singleton.mp hx]; exact hn) hk (Le.refl _) (fun x o e => .inl ⟨o, e⟩), S'.other ap hk (Le.refl _) hin (fun x o e => .inl ⟨o, e⟩), r, p⟩

theorem ex_assign_comp {elt target iter : Expr} {ifs : List Expr} {scope : Scope} {pos pos' spos : Pos} {y : Str} {seq : Sg → Option (List D)} {N : Nat} {Inv : Nat → List D → Om → Prop} (hok : compOk scope env = true)
    (hp : CompPre X A env σ elt target iter ifs scope (fun d σ₁ => Q .next ⟨(y, d) :: σ₁.ρ, σ₁.ω⟩) seq N Inv) (hk : isLoc env y = true)
    (hsw : swapsWith (.ListComp elt [⟨target, iter, ifs, 0⟩] scope pos) (some (.Name y pos')) spos.line env = pure true)
    (hs : ∀ x, foldedSetIterable iter env x = pure x) : Ex X A env σ (.Assign [.Name y pos'] (.ListComp elt [⟨target, iter, ifs, 0⟩] scope pos) spos) Q := fun s b S => by
  have ok := compOk_of hok
  rw [exec_Assign_Name_used _ _ _ _ hsw]
  refine wpAny_bind (wpAny_standAt ?_)
  show wpAny X.M A ((comprehension (.ListComp elt [⟨target, iter, ifs, 0⟩] scope pos) scope env (firstIterPos [⟨target, iter, ifs, 0⟩] pos) (newList []) (firstAsync [⟨target, iter, ifs, 0⟩]) (firstIter [⟨target, iter, ifs, 0⟩] env) (some (assign (.Name y pos') env)) >>= fun _ => pure ()) >>= fun _ => pure Flow.next) _ _ s
  refine wpAny_bind (wpAny_bind (wpAny_comprehension_free (use := some (assign (.Name y pos') env)) rfl hs (closureFor_eq fun p hp hk => S.ok.cells _ (ok.free p hp hk).2) ok.kind ok.loc ?_))
  refine wpAny_mono (comp_core (pos := pos) (P := fun d σ₁ => Q .next ⟨(y, d) :: σ₁.ρ, σ₁.ω⟩) seq N Inv ok hp.src hp.len hp.outLen hp.step hp.fin s b S) ?_ (fun _ _ x => x)
  intro x s₁ h₁
  refine wpAny_mono h₁ (fun it s₂ h₂ => wpAny_mono h₂ (fun acc s₃ h₃ => wpAny_mono h₃ (fun cenv s₄ h₄ => codeAny_mono h₄ fun r s' hr => ?_) fun _ _ x => x) fun _ _ x => x) fun _ _ x => x
  obtain ⟨f, a, rfl, rfl, out, ω', b', E, S', r, p, ap, hn, m, hm⟩ := hr
  refine wpAny_assign_Name (store_var S' r hk fun s₅ S₅ E₅ => ?_)
  have ap₅ := ap.after (σ := ⟨σ.ρ, ω'⟩) E₅ (fun x hx => by rw [List.mem_singleton.mp hx]; obtain ⟨o, _, _, h, _⟩ := hm; exact ⟨o, h⟩)
  obtain ⟨o, es, ep, h1, h2⟩ := hm
  refine ⟨m, ⟨o, es, ep, ap.keep (σ := ⟨σ.ρ, ω'⟩) E₅ (.head _) h1, h2⟩, fun h' hsb => wpAny_pure (wpAny_pure ?_)⟩
  have hk' : ∀ x o, x ∉ [cenv.locals] → s₅.heap.get? x = some o → h'.get? x = some o := fun x o hx e => (hsb.2 x (by simpa using hx)).trans e
  have hin : Le b' h' := fun x o e => hk' x o (fun z => by rw [ap₅.b x z] at e; cases e) (S₅.hp.le _ _ e)
  exact ⟨.next, _, b', (E.trans E₅).other (own := [cenv.locals]) (fun x hx => by rw [List.mem_singleton.mp hx]; exact hn) hk' (Le.refl _) (fun x o e => .inl ⟨o, e⟩), S₅.other ap₅ hk' (Le.refl _) hin (fun x o e => .inl ⟨o, e⟩), trivial, p⟩
end Mine

namespace Mine
open PySem PySem.W PySem.Calls PyProof.Rows
variable {X : Cx} {A : Around} {env : Env} {σ : Sg} {P : D → Sg → Prop} {Q : Fl → Sg → Prop}

theorem bindL_none {kindOf : Str → Option NameKind} {y : Str} : ∀ (binds : List (Str × Value)) (m : Str → Option Value), y ∉ binds.map (·.1) → bindL kindOf binds m y = m y
  | [], m, _ => rfl
  | (n, v) :: r, m, h => by
    simp only [List.map_cons, List.mem_cons, not_or] at h
    unfold bindL
    rw [bindL_none r _ h.2]
    split
    · simp [h.1]
    · rfl
theorem bindC_none {kindOf : Str → Option NameKind} {y : Str} : ∀ (binds : List (Str × Value)) (m : Str → Option Value), y ∉ binds.map (·.1) → bindC kindOf binds m y = m y
  | [], m, _ => rfl
  | (n, v) :: r, m, h => by
    simp only [List.map_cons, List.mem_cons, not_or] at h
    unfold bindC
    rw [bindC_none r _ h.2]
    split
    · rfl
    · simp [h.1]
theorem bindL_some {kindOf : Str → Option NameKind} {y : Str} {v : Value} (hk : kindOf y = some .local) : ∀ (binds : List (Str × Value)) (m : Str → Option Value), (binds.map (·.1)).Nodup → binds.lookup y = some v → bindL kindOf binds m y = some v
  | [], m, _, h => by cases h
  | (n, w) :: r, m, hn, h => by
    simp only [List.map_cons, List.nodup_cons] at hn
    unfold bindL
    rw [List.lookup_cons] at h
    cases z : (y == n) with
    | true =>
      rw [z] at h; cases h
      have e := beq_iff_eq.mp z; subst e
      rw [bindL_none r _ hn.1, if_pos hk]; simp
    | false => rw [z] at h; exact bindL_some hk r _ hn.2 h
theorem bindC_some {kindOf : Str → Option NameKind} {y : Str} {v : Value} (hk : kindOf y ≠ some .local) : ∀ (binds : List (Str × Value)) (m : Str → Option Value), (binds.map (·.1)).Nodup → binds.lookup y = some v → bindC kindOf binds m y = some v
  | [], m, _, h => by cases h
  | (n, w) :: r, m, hn, h => by
    simp only [List.map_cons, List.nodup_cons] at hn
    unfold bindC
    rw [List.lookup_cons] at h
    cases z : (y == n) with
    | true =>
      rw [z] at h; cases h
      have e := beq_iff_eq.mp z; subst e
      rw [bindC_none r _ hn.1, if_neg hk]; simp
    | false => rw [z] at h; exact bindC_some hk r _ hn.2 h

def nodupS : List Str → Bool
  | [] => true
  | x :: r => !(r.contains x) && nodupS r
theorem nodup_of : ∀ {l : List Str}, nodupS l = true → l.Nodup
  | [], _ => List.nodup_nil
  | x :: r, h => by
    unfold nodupS at h
    obtain ⟨h1, h2⟩ := Bool.and_eq_true_iff.mp h
    refine List.nodup_cons.mpr ⟨fun hm => ?_, nodup_of h2⟩
    have : r.contains x = true := by simpa using hm
    rw [this] at h1; cases h1

/-- what the text says of a def that is called -/
structure FnOk (X : Cx) (fa : Addr) (qual : Str) (body : List Stmt) (scope : Scope) (cdv : Value) (fd : FuncData) : Prop where
  look : ∃ oc od osl, X.K.lookup fa = some ⟨oc, od, .func fd, osl⟩
  fbody : fd.body = .stmts body
  fqual : fd.qualname = qual
  fscope : fd.scope = scope
  fglob : fd.globals = mainGlobals
  fblt : fd.builtins = builtinsNs
  fclo : fd.closure = []
  fcode : fd.code = cdv
  code : codeIn X.K cdv qual = true
  co : scope.isCoroutine = false
  gen : scope.isGenerator = false
  kind : scope.kind = .function
  nofree : (scope.names.all fun p => p.2 != .free) = true

theorem lookup_mem_kind {y : Str} {k : NameKind} : ∀ {l : List (Str × NameKind)}, l.lookup y = some k → (y, k) ∈ l
  | [], h => by cases h
  | (n, k') :: r, h => by
    rw [List.lookup_cons] at h
    cases z : (y == n) with
    | true => rw [z] at h; cases h; rw [beq_iff_eq.mp z]; exact .head _
    | false => rw [z] at h; exact .tail _ (lookup_mem_kind h)

abbrev Cx.push (X : Cx) (e : Env) : Cx := X.at (e :: X.fr)
def OpC (X : Cx) (A : Around) (env : Env) (σ : Sg) (fa : Addr) (ds : List D) (P : D → Sg → Prop) : Prop :=
  ∀ s b vs, St X env σ b s → RpAll X b vs ds → codeAny X.M A (.call (.ref fa) ⟨vs, []⟩) (fun r s' => match r with | .ok (.ret v) => Po X env σ s b P v s' | .ok _ => False | .error e => Never e s') s
theorem OpC.call {fa : Addr} {ds : List D} (h : OpC X A env σ fa ds P) : OpL X A env σ (fun vs => call (.ref fa) vs) ds P := fun s b vs S rv => wpAny_call (h s b vs S rv)

theorem fn_callC {fa : Addr} {qual : Str} {body : List Stmt} {scope : Scope} {cdv : Value} {fd : FuncData} {ds : List D} {dbs : List (Str × D)} (hf : FnOk X fa qual body scope cdv fd) (hroom : A.depth < recursionLimit)
    (hbind : ∀ s b vs, X.Top b → Le b s.heap → RpAll X b vs ds → ∃ binds, BindsTo s fd ⟨vs, []⟩ binds ∧ RpKv X b binds dbs)
    (hnd' : nodupS (dbs.map (·.1)) = true) (hkind : (dbs.all fun y => scope.names.lookup y.1 == some .local || scope.names.lookup y.1 == some .cell) = true)
    (hbody : ∀ L, Exs (X.push (envOfC qual scope L fa cdv)) (A.deeper (envOfC qual scope L fa cdv)) (envOfC qual scope L fa cdv) ⟨dbs, σ.ω⟩ body (fun fl σ' => match fl with | .ret d => P d ⟨σ.ρ, σ'.ω⟩ | .next => P .none ⟨σ.ρ, σ'.ω⟩ | _ => False)) :
    OpC X A env σ fa ds P := fun s b vs S rv => by
  obtain ⟨⟨oc, od, osl, hlook⟩, hfb, rfl, rfl, hfg, hfbl, hfc, rfl, hcode, hco, hgen, hk, hnf⟩ := hf
  have hnd := nodup_of hnd'
  have T := S.hp.top
  have ho : s.heap.get? fa = some ⟨oc, od, .func fd, osl⟩ := S.hp.le _ _ (T.inK _ _ hlook)
  have hcd : s.heap.CodeRec fd.code fd.qualname := codeRec_of (T.inK.keeps S.hp.le) hcode
  obtain ⟨binds, hb, rb⟩ := hbind s b vs T S.hp.le rv
  have hkeys : binds.map (·.1) = dbs.map (·.1) := rb.keys
  have hkb : ∀ x ∈ binds, fd.scope.names.lookup x.1 = some .local ∨ fd.scope.names.lookup x.1 = some .cell := fun x hx => by
    have : x.1 ∈ dbs.map (·.1) := by rw [← hkeys]; exact List.mem_map_of_mem hx
    obtain ⟨p, hp, e⟩ := List.mem_map.mp this
    have := List.all_eq_true.mp hkind p hp
    rw [e] at this
    rcases Bool.or_eq_true_iff.mp this with q | q
    · exact .inl (by simpa using q)
    · exact .inr (by simpa using q)
  refine codeAny_call_function hroom ho rfl hco hgen hfb hcd ?_
  refine hb _ _ _ _ ?_
  rw [hfc]
  refine wpAny_newFunctionEnv_cells hk (fun x hx => (hkb x hx).imp id fun q => ⟨q, cellsFrom_some _ _ _ (.inl q)⟩) ?_
  intro cenv hcenv s₁ x₁
  generalize hL : s.heap.objs.size = L at hcenv
  have hcenv' : cenv = envOfC fd.qualname fd.scope L fa fd.code := by
    rw [hcenv, hfg, hfbl]; rfl
  subst hcenv'
  clear hcenv
  obtain ⟨h₁, tk₁, rfl⟩ := x₁.toInCall.same
  have hle : Le s.heap h₁ := x₁.toInCall.keep
  obtain ⟨S₁, E₁⟩ := S.extend (h' := h₁) (b' := b) (tk := tk₁) hle (Le.refl _) (S.hp.le.trans hle) (fun a o e => .inl ⟨o, e⟩)
  have LNone : s.heap.get? L = none := hL ▸ fresh_none _
  have CNone : ∀ x c, (envOfC fd.qualname fd.scope L fa fd.code).cells.lookup x = some c → s.heap.get? c = none := fun x c e => by
    have h1 : L < c := x₁.above x c (PySem.mem_of_lookup e)
    cases q : s.heap.get? c with
    | none => rfl
    | some o =>
      have h2 := Heap.lt_size q
      rw [hL] at h2
      exact absurd (Nat.lt_trans h1 h2) (Nat.lt_irrefl _)
  have okC : EnvOk (envOfC fd.qualname fd.scope L fa fd.code) := by
    refine ⟨hk, rfl, rfl, fun x kx => ?_⟩
    rcases kx with kx | kx
    · have := cellsFrom_some (x := x) fd.scope.names (L + 1) [] (.inl kx)
      exact Option.isSome_iff_exists.mp this
    · have hm := lookup_mem_kind kx
      have := List.all_eq_true.mp hnf _ hm
      simp at this
  have fresh_b : ∀ a, s.heap.get? a = none → b.get? a = none := fun a e => by
    cases q : b.get? a with
    | none => rfl
    | some o => have := S.hp.le _ _ q; rw [e] at this; cases this
  have fresh_w : ∀ a, s.heap.get? a = none → a ∉ σ.ω.map (·.1) := fun a e h => by
    obtain ⟨p, hp, rfl⟩ := List.mem_map.mp h
    obtain ⟨o, ho⟩ := (S.hp.cell p hp).live
    rw [e] at ho; cases ho
  have hnb : (binds.map (·.1)).Nodup := by rw [hkeys]; exact hnd
  have SC : St (X.push (envOfC fd.qualname fd.scope L fa fd.code)) (envOfC fd.qualname fd.scope L fa fd.code) ⟨dbs, σ.ω⟩ b { s with heap := h₁, toks := tk₁ } := by
    refine ⟨okC, S₁.hp.at, ⟨⟨_, x₁.toInCall.ns, fun x d kx e => ?_⟩, fun x d kx e => ?_, fun x c e => ⟨_, x₁.cell x c e⟩⟩, ⟨fresh_b _ LNone, fresh_w _ LNone, fun x c e => fresh_b _ (CNone x c e), fun x c e => fresh_w _ (CNone x c e), fun x c e => ?_, fun x y c e1 e2 => name_of_addr x₁.apart (PySem.mem_of_lookup e1) (PySem.mem_of_lookup e2)⟩, fun e he => ?_⟩
    · obtain ⟨v, h1, h2⟩ := rb.lookup e
      exact ⟨v, bindL_some kx binds _ hnb h1, h2.at⟩
    · obtain ⟨v, h1, h2⟩ := rb.lookup e
      obtain ⟨c, hc⟩ := okC.cells x kx
      have hne : (envOfC fd.qualname fd.scope L fa fd.code).kindOf x ≠ some .local := by
        rcases kx with kx | kx <;> rw [kx] <;> simp
      refine ⟨c, v, hc, ?_, h2.at⟩
      have := x₁.cell x c hc
      rw [bindC_some hne binds _ hnb h1] at this
      exact this
    · exact Nat.ne_of_gt (x₁.above x c (PySem.mem_of_lookup e))
    · rcases List.mem_cons.mp he with rfl | he
      · obtain ⟨o, es, ep, h1, h2, _⟩ := x₁.toInCall.ns
        exact ⟨hk, L, o, es, ep, rfl, fresh_b _ LNone, fresh_w _ LNone, h1, h2⟩
      · exact S₁.fr e he
  have hnf' : ∀ a o, s.heap.get? a = some o → NotFr X a → NotFr (X.push (envOfC fd.qualname fd.scope L fa fd.code)) a := fun a o e n e' he => by
    rcases List.mem_cons.mp he with rfl | he
    · intro z
      have : L = a := Option.some.inj z
      rw [← this, LNone] at e; cases e
    · exact n e' he
  refine ⟨(T.tr.nolimit.keeps S.hp.le).keeps hle, codeAny_func (wpAny_mono (hbody L _ b SC) (fun f s' hq => ?_) fun _ _ x => x.elim)⟩
  obtain ⟨fl, σ', b', E', S', rf, hp⟩ := hq
  have hF : ∀ a, Fx (envOfC fd.qualname fd.scope L fa fd.code) σ.ω a → a ∈ σ.ω.map (·.1) ∨ s.heap.get? a = none := fun a f => by
    rcases f with f | ⟨_, x, f⟩ | f
    · exact .inr (f ▸ LNone)
    · exact .inr (CNone x a f)
    · exact .inl f
  obtain ⟨ρ', ω'⟩ := σ'
  have nl : ∀ a, s.heap.get? a = none → a ≠ env.locals := fun a z q => by
    obtain ⟨m, ⟨o, _, _, h1, _⟩, _⟩ := S.fm.ns
    rw [← q, z] at h1; cases h1
  have nc : ∀ a, s.heap.get? a = none → ∀ x, env.cells.lookup x ≠ some a := fun a z x q => by
    obtain ⟨ov, o, ho, _⟩ := S.fm.cx x a q
    rw [z] at ho; cases ho
  have L₅ := St.leave (fun _ z => .tail _ z) S₁ S' E' (fun a f => (hF a f).imp id fun z => ⟨nl a z, nc a z⟩)
  have F₅ := Evo.leave hnf' E₁ E' hF
  cases f with
  | next => cases fl with
    | next => exact ⟨.none, _, b', F₅, L₅, .none, hp⟩
    | _ => exact rf.elim
  | ret v => cases fl with
    | ret d =>
      have rf' : Rp (X.push (envOfC fd.qualname fd.scope L fa fd.code)) b' v d := rf
      exact ⟨d, _, b', F₅, L₅, rf'.at (l := X.fr), hp⟩
    | _ => exact rf.elim
  | brk => cases fl with
    | brk => exact hp.elim
    | _ => exact rf.elim
  | cont => cases fl with
    | cont => exact hp.elim
    | _ => exact rf.elim

theorem fn_call {fa : Addr} {qual : Str} {body : List Stmt} {scope : Scope} {cdv : Value} {fd : FuncData} {ds : List D} {dbs : List (Str × D)} (hf : FnOk X fa qual body scope cdv fd) (hroom : A.depth < recursionLimit)
    (hbind : ∀ s b vs, X.Top b → Le b s.heap → RpAll X b vs ds → ∃ binds, BindsTo s fd ⟨vs, []⟩ binds ∧ RpKv X b binds dbs)
    (hnd' : nodupS (dbs.map (·.1)) = true) (hkind : (dbs.all fun y => scope.names.lookup y.1 == some .local || scope.names.lookup y.1 == some .cell) = true)
    (hbody : ∀ L, Exs (X.push (envOfC qual scope L fa cdv)) (A.deeper (envOfC qual scope L fa cdv)) (envOfC qual scope L fa cdv) ⟨dbs, σ.ω⟩ body (fun fl σ' => match fl with | .ret d => P d ⟨σ.ρ, σ'.ω⟩ | .next => P .none ⟨σ.ρ, σ'.ω⟩ | _ => False)) :
    OpL X A env σ (fun vs => call (.ref fa) vs) ds P := (fn_callC hf hroom hbind hnd' hkind hbody).call
end Mine

namespace Mine
open PySem PySem.W PySem.Calls PyProof.Rows
variable {X : Cx} {A : Around} {env : Env} {σ : Sg} {P : D → Sg → Prop} {Q : Fl → Sg → Prop}

/-! plain data -/
mutual
def D.py : D → PyData
  | .none => .none
  | .bool b => .bool b
  | .int i => .int i
  | .str s => .str s
  | .list xs => .list (D.pyAll xs)
  | .tup xs => .tuple (D.pyAll xs)
  | .dct _ => .none
  | .raw _ => .none
  | .rng _ => .none
  | .obj _ _ => .none
  | .inst _ _ => .none
def D.pyAll : List D → List PyData
  | [] => []
  | x :: xs => D.py x :: D.pyAll xs
end
theorem pyAll_eq (xs : List D) : D.pyAll xs = xs.map D.py := by
  induction xs with
  | nil => rfl
  | cons x xs ih => simp [D.pyAll, ih]

/-- plain data of depth n at most -/
def okd : Nat → D → Bool
  | _, .none => true
  | _, .bool _ => true
  | _, .int _ => true
  | _, .str s => PyData.strOk s
  | n + 1, .list xs => xs.all (okd n)
  | n + 1, .tup xs => xs.all (okd n)
  | _, _ => false

theorem canLayAll_of {xs : List PyData} (h : ∀ x ∈ xs, x.canLay0 = true) : PyData.canLayAll0 xs = true := by
  induction xs with
  | nil => simp [PyData.canLayAll0]
  | cons x xs ih => simp [PyData.canLayAll0, h x (.head _), ih fun y hy => h y (.tail _ hy)]
theorem depthAll_le {xs : List PyData} {n : Nat} (h : ∀ x ∈ xs, x.depth ≤ n) : PyData.depthAll xs ≤ n := by
  induction xs with
  | nil => simp [PyData.depthAll]
  | cons x xs ih =>
    have h1 := h x (.head _)
    have h2 := ih fun y hy => h y (.tail _ hy)
    simp only [PyData.depthAll]; omega
theorem okd_lay : ∀ (n : Nat) (d : D), okd n d = true → d.py.canLay0 = true ∧ d.py.depth ≤ n
  | _, .none, _ => by simp [D.py, PyData.canLay0, PyData.depth]
  | _, .bool _, _ => by simp [D.py, PyData.canLay0, PyData.depth]
  | _, .int _, _ => by simp [D.py, PyData.canLay0, PyData.depth]
  | n, .str s, h => by
    have : PyData.strOk s = true := by cases n <;> exact h
    simp [D.py, PyData.canLay0, PyData.depth, this]
  | n + 1, .list xs, h => by
    have h' : xs.all (okd n) = true := h
    have hx := List.all_eq_true.mp h'
    simp only [D.py, PyData.canLay0, PyData.depth, pyAll_eq]
    refine ⟨canLayAll_of fun y hy => ?_, Nat.succ_le_succ (depthAll_le fun y hy => ?_)⟩
    · obtain ⟨z, hz, rfl⟩ := List.mem_map.mp hy; exact (okd_lay n z (hx z hz)).1
    · obtain ⟨z, hz, rfl⟩ := List.mem_map.mp hy; exact (okd_lay n z (hx z hz)).2
  | n + 1, .tup xs, h => by
    have h' : xs.all (okd n) = true := h
    have hx := List.all_eq_true.mp h'
    simp only [D.py, PyData.canLay0, PyData.depth, pyAll_eq]
    refine ⟨canLayAll_of fun y hy => ?_, Nat.succ_le_succ (depthAll_le fun y hy => ?_)⟩
    · obtain ⟨z, hz, rfl⟩ := List.mem_map.mp hy; exact (okd_lay n z (hx z hz)).1
    · obtain ⟨z, hz, rfl⟩ := List.mem_map.mp hy; exact (okd_lay n z (hx z hz)).2
  | 0, .list _, h => by cases h
  | 0, .tup _, h => by cases h
  | 0, .dct _, h => by cases h
  | _ + 1, .dct _, h => by cases h
  | 0, .raw _, h => by cases h
  | _ + 1, .raw _, h => by cases h
  | 0, .rng _, h => by cases h
  | _ + 1, .rng _, h => by cases h
  | 0, .obj _ _, h => by cases h
  | _ + 1, .obj _ _, h => by cases h
  | 0, .inst _ _, h => by cases h
  | _ + 1, .inst _ _, h => by cases h

theorem readsAll_of {b : Heap} {n : Nat} (ih : ∀ v d, Rp X b v d → okd n d = true → ∃ as, Reads b v d.py as) : ∀ {vs : List Value} {ds : List D}, RpAll X b vs ds → (∀ d ∈ ds, okd n d = true) → ∃ as, ReadsAll b vs (ds.map D.py) as
  | _, _, .nil, _ => ⟨[], .nil⟩
  | _, _, .cons r q, h => by
    obtain ⟨as, h1⟩ := ih _ _ r (h _ (.head _))
    obtain ⟨bs, h2⟩ := readsAll_of ih q fun d hd => h d (.tail _ hd)
    exact ⟨_, .cons h1 h2⟩
theorem reads_of {b : Heap} : ∀ (n : Nat) (v : Value) (d : D), Rp X b v d → okd n d = true → ∃ as, Reads b v d.py as
  | n, v, d, r, h => by
    cases r with
    | none => exact ⟨_, .none⟩
    | bool x => exact ⟨_, .bool x⟩
    | int i t => exact ⟨_, .int i t⟩
    | str x t => exact ⟨_, .str x t⟩
    | list g ra =>
      cases n with
      | zero => cases h
      | succ n =>
        obtain ⟨as, h1⟩ := readsAll_of (fun v d => reads_of n v d) ra (List.all_eq_true.mp h)
        have q := Reads.list g rfl rfl h1
        exact ⟨_, by simpa only [D.py, pyAll_eq] using q⟩
    | tup g ra =>
      cases n with
      | zero => cases h
      | succ n =>
        obtain ⟨as, h1⟩ := readsAll_of (fun v d => reads_of n v d) ra (List.all_eq_true.mp h)
        have q := Reads.tuple g rfl rfl h1
        exact ⟨_, by simpa only [D.py, pyAll_eq] using q⟩
    | dct _ _ _ => cases n <;> cases h
    | raw _ => cases n <;> cases h
    | rng _ => cases n <;> cases h
    | obj _ => cases n <;> cases h
    | inst _ _ _ _ => cases n <;> cases h
theorem Le.reads {b h : Heap} (x : Le b h) {v : Value} {d : PyData} {as : List Addr} (r : Reads b v d as) : Reads h v d as := Reads.keeps x r

def deq (x y : D) : Bool := PyData.eqv x.py y.py

/-- room for the machine's own calls -/
structure ARoom (k : Nat) (A : Around) : Prop where
  hd : A.handled = none
  units : A.units + 200 + 10 * k < cLine
  depth : A.depth + 50 + 10 * k < recursionLimit
  gd : A.guards = some []
theorem ARoom.made {k : Nat} {A' : Around} (R : ARoom (k + 1) A) (h1 : A'.handled = A.handled) (h2 : A'.units ≤ A.units + 2) (h3 : A'.depth ≤ A.depth + 2) (h4 : A'.guards = A.guards) : ARoom k A' :=
  ⟨h1.trans R.hd, by have := R.units; omega, by have := R.depth; omega, h4.trans R.gd⟩
theorem ARoom.deeper {k : Nat} {e : Env} (R : ARoom (k + 1) A) : ARoom k (A.deeper e) :=
  ⟨R.hd, by have := R.units; show A.units + 3 + 200 + 10 * k < cLine; omega, by have := R.depth; show A.depth + 1 + 50 + 10 * k < recursionLimit; omega, R.gd⟩
theorem ARoom.room {k : Nat} (R : ARoom k A) : A.depth < recursionLimit := by have := R.depth; omega

theorem op_eq {n : Nat} {x y : D} {kk : Nat} (R : ARoom kk A) (hx : okd n x = true) (hy : okd n y = true) (hn : n ≤ 20) (p : P (.bool (deq x y)) σ) : Op X A env σ (compareOp .Eq) x y P := fun s b v w S rx ry => by
  obtain ⟨as, h1⟩ := reads_of n v x rx hx
  obtain ⟨bs, h2⟩ := reads_of n w y ry hy
  obtain ⟨l1, l2⟩ := okd_lay n x hx
  obtain ⟨m1, m2⟩ := okd_lay n y hy
  exact SeqAt.compareEq_reads (S.hp.le.reads h1) (S.hp.le.reads h2) l1 m1 (by have := R.units; omega) (Po.here S (.bool _) p)
theorem op_ne {n : Nat} {x y : D} {kk : Nat} (R : ARoom kk A) (hx : okd n x = true) (hy : okd n y = true) (hn : n ≤ 20) (p : P (.bool (!deq x y)) σ) : Op X A env σ (compareOp .NotEq) x y P := fun s b v w S rx ry => by
  obtain ⟨as, h1⟩ := reads_of n v x rx hx
  obtain ⟨bs, h2⟩ := reads_of n w y ry hy
  obtain ⟨l1, l2⟩ := okd_lay n x hx
  obtain ⟨m1, m2⟩ := okd_lay n y hy
  exact SeqAt.compareNe_reads (S.hp.le.reads h1) (S.hp.le.reads h2) l1 m1 (by have := R.units; omega) (Po.here S (.bool _) p)

theorem lst_reads {b h : Heap} {a : Addr} {vs : Array Value} {k n : Nat} {ds : List D} (hb : Le b h) (g : h.get? a = some (seqObj "list" vs k)) (ra : RpAll X b vs.toList ds) (hd : ds.all (okd n) = true) :
    ∃ as, Reads h (.ref a) (.list (ds.map D.py)) as := by
  obtain ⟨as, h1⟩ := readsAll_of (fun v d => reads_of n v d) ra (List.all_eq_true.mp hd)
  exact ⟨_, .list g rfl rfl (ReadsAll.keeps hb h1)⟩

/-- the list that a value stands for: data, or a cell -/
def Lst (X : Cx) (σ : Sg) (d : D) (ds : List D) : Prop := d = .list ds ∨ ∃ a, d = .raw (.ref a) ∧ (a, C.lst ds) ∈ σ.ω
theorem Lst.data {ds : List D} : Lst X σ (.list ds) ds := .inl rfl
theorem Lst.cell {a : Addr} {ds : List D} (h : (a, C.lst ds) ∈ σ.ω) : Lst X σ (.raw (.ref a)) ds := .inr ⟨a, rfl, h⟩
theorem Lst.at {s : Shared} {b : Heap} {d : D} {ds : List D} (l : Lst X σ d ds) (S : St X env σ b s) {v : Value} (r : Rp X b v d) : ∃ a vs k, v = .ref a ∧ s.heap.get? a = some (seqObj "list" vs k) ∧ RpAll X b vs.toList ds := by
  rcases l with rfl | ⟨a, rfl, h⟩
  · cases r with
    | list g ra => exact ⟨_, _, _, rfl, S.hp.le _ _ g, ra⟩
  · cases r
    obtain ⟨vs, n, g, ra⟩ := S.hp.cell _ h
    exact ⟨a, vs, n, rfl, g, ra⟩

theorem any_map_py (ds : List D) (x : D) : (ds.map D.py).any (fun y => PyData.eqv y x.py) = ds.any fun y => deq y x := by
  induction ds with
  | nil => rfl
  | cons d r ih => simp only [List.map_cons, List.any_cons, ih]; rfl

theorem op_in {n : Nat} {x d : D} {ds : List D} {kk : Nat} (R : ARoom kk A) (l : Lst X σ d ds) (hx : okd n x = true) (hd : ds.all (okd n) = true) (hn : n ≤ 20) (p : P (.bool (ds.any fun y => deq y x)) σ) : Op X A env σ (compareOp .In) x d P := fun s b v w S rx ry => by
  obtain ⟨a, vs, k, rfl, g, ra⟩ := l.at S ry
  obtain ⟨as, h1⟩ := lst_reads S.hp.le g ra hd
  obtain ⟨bs, h2⟩ := reads_of n v x rx hx
  obtain ⟨l1, l2⟩ := okd_lay n x hx
  refine SeqAt.in_list_reads h1 (S.hp.le.reads h2) (canLayAll_of fun y hy => ?_) l1 (by have := R.units; omega) ?_
  · obtain ⟨z, hz, rfl⟩ := List.mem_map.mp hy; exact (okd_lay n z (List.all_eq_true.mp hd z hz)).1
  · rw [any_map_py]; exact Po.here S (.bool _) p
theorem op_notin {n : Nat} {x d : D} {ds : List D} {kk : Nat} (R : ARoom kk A) (l : Lst X σ d ds) (hx : okd n x = true) (hd : ds.all (okd n) = true) (hn : n ≤ 20) (p : P (.bool (!ds.any fun y => deq y x)) σ) : Op X A env σ (compareOp .NotIn) x d P := fun s b v w S rx ry => by
  obtain ⟨a, vs, k, rfl, g, ra⟩ := l.at S ry
  obtain ⟨as, h1⟩ := lst_reads S.hp.le g ra hd
  obtain ⟨bs, h2⟩ := reads_of n v x rx hx
  obtain ⟨l1, l2⟩ := okd_lay n x hx
  refine SeqAt.notIn_list_reads h1 (S.hp.le.reads h2) (canLayAll_of fun y hy => ?_) l1 (by have := R.units; omega) ?_
  · obtain ⟨z, hz, rfl⟩ := List.mem_map.mp hy; exact (okd_lay n z (List.all_eq_true.mp hd z hz)).1
  · rw [any_map_py]; exact Po.here S (.bool _) p

theorem PoB.tok {PB : Bool → Sg → Prop} {s : Shared} {b : Heap} {v : Bool} {tk : Nat} (S : St X env σ b s) (p : PB v σ) : PoB X env σ s b PB v { s with toks := tk } := ⟨σ, b, (S.toks tk).2, (S.toks tk).1, p⟩

/-! ints -/
theorem op_mod {a m : Int} (hm : m ≠ 0) (p : P (.int (a.fmod m)) σ) : Op X A env σ (binaryOp .Mod) (.int a) (.int m) P := fun s b v w S rx ry => by
  cases rx; cases ry; exact mod_int' hm (Po.tok S (.int ..) p)
theorem op_add {a m : Int} (p : P (.int (a + m)) σ) : Op X A env σ (binaryOp .Add) (.int a) (.int m) P := fun s b v w S rx ry => by
  cases rx; cases ry; exact PySem.P.add_int (Po.tok S (.int ..) p)
theorem op_sub {a m : Int} (p : P (.int (a - m)) σ) : Op X A env σ (binaryOp .Sub) (.int a) (.int m) P := fun s b v w S rx ry => by
  cases rx; cases ry; exact PySem.P.sub_int (Po.tok S (.int ..) p)
theorem op_lt {a m : Int} (p : P (.bool (decide (a < m))) σ) : Op X A env σ (compareOp .Lt) (.int a) (.int m) P := fun s b v w S rx ry => by
  cases rx; cases ry; exact PySem.P.lt_int (Po.here S (.bool _) p)
theorem op_gt {a m : Int} (p : P (.bool (decide (a > m))) σ) : Op X A env σ (compareOp .Gt) (.int a) (.int m) P := fun s b v w S rx ry => by
  cases rx; cases ry; exact PySem.P.gt_int (Po.here S (.bool _) p)
theorem op_ge {a m : Int} (p : P (.bool (decide (a ≥ m))) σ) : Op X A env σ (compareOp .GtE) (.int a) (.int m) P := fun s b v w S rx ry => by
  cases rx; cases ry; exact PySem.P.ge_int (Po.here S (.bool _) p)

/-! lists -/
theorem ob_list {PB : Bool → Sg → Prop} {d : D} {ds : List D} (l : Lst X σ d ds) (hz : ds.length ≤ sizeLine) (p : PB (!ds.isEmpty) σ) : OpB X A env σ truthy d PB := fun s b v S r => by
  obtain ⟨a, vs, k, rfl, g, ra⟩ := l.at S r
  have e : vs.size = ds.length := by rw [← ra.length]; simp
  refine wpAny_truthy_list (isList_of g) (by have : sizeLine = 2 ^ 24 := rfl; omega) ?_
  have : (!vs.isEmpty) = !ds.isEmpty := by
    cases ds with
    | nil => have : vs = #[] := by simpa using e
             subst this; rfl
    | cons d r => 
      have : vs.size ≠ 0 := by rw [e]; simp
      have h2 : vs.isEmpty = false := by simpa using this
      rw [h2]; rfl
  exact PoB.tok S (this ▸ p)

theorem op_addl {x y : D} {xs ys : List D} (l : Lst X σ x xs) (m : Lst X σ y ys) (hz : xs.length + ys.length ≤ sizeLine) (p : P (.list (xs ++ ys)) σ) : Op X A env σ (binaryOp .Add) x y P := fun s b v w S rx ry => by
  obtain ⟨a, vs, k, rfl, g, ra⟩ := l.at S rx
  obtain ⟨c, ws, n, rfl, g', ra'⟩ := m.at S ry
  have e : vs.size = xs.length := by rw [← ra.length]; simp
  have e' : ws.size = ys.length := by rw [← ra'.length]; simp
  refine PySem.P.add_list g g' ?_ (by omega)
  obtain ⟨b₂, l₂, g₂, S₂, E₂⟩ := S.allocD (seqObj "list" (vs ++ ws) 0)
  exact ⟨.list (xs ++ ys), σ, b₂, E₂, S₂, .list g₂ (by simpa using (ra.append ra').mono l₂), p⟩

theorem ol_len {d : D} {ds : List D} (l : Lst X σ d ds) (hz : ds.length ≤ sizeLine) (p : P (.int ds.length) σ) : OpL X A env σ (fun vs => call (.builtin "len") vs) [d] P := fun s b vs S r => by
  cases r with
  | cons r q =>
  cases q
  obtain ⟨a, vs, k, rfl, g, ra⟩ := l.at S r
  have e : vs.size = ds.length := by rw [← ra.length]; simp
  refine call_len_list (isList_of g) (by have : sizeLine = 2 ^ 24 := rfl; omega) ?_
  rw [e]
  exact Po.tok S (.int ..) p

/-- an item of a list by its place -/
theorem op_item {vl sl : Expr} {d x : D} {ds : List D} {k : Int} (l : Lst X σ d ds) (h0 : 0 ≤ k) (hx : ds[k.toNat]? = some x) (hz : ds.length ≤ sizeLine) (p : P x σ)
    (hs : ∀ v u, subscripted sl false v (.int k u) = operate [v, .int k u] (getItem v (.int k u))) : Op X A env σ (subscriptTail vl sl) d (.int k) P := fun s b v w S rx ry => by
  cases ry
  obtain ⟨a, vs, n, rfl, g, ra⟩ := l.at S rx
  obtain ⟨v, hv, r⟩ := ra.getD hx
  have hlt := (List.getElem?_eq_some_iff.mp hx).1
  refine tail_any (isList_of g).typeIs slot_list_getitem.lookup (wpAny_getItem_list (x := v) (isList_of g) h0 (by have : sizeLine = 2 ^ 24 := rfl; omega) (by simpa using hv) (Po.here S r p)) (hs _ _)

/-! calls -/
theorem ev_callB {func : Expr} {e : Expr} {rest : List Expr} {pos : Pos} {id : String} (h : Ev X A env σ func (QCall X A env (.builtin id) pos (e :: rest) (fun vs => call (.builtin id) vs) P))
    (he : eval (.Call func (e :: rest) [] pos) env = (do callWith pos (← eval func env) [] (backTo pos (starEach (e :: rest) env)) (backToKw pos (keywordEach [] env))))
    (hst : starEach (e :: rest) env = (false, eval e env) :: starEach rest env) (hpl : (backTo pos (starEach rest env)).any (·.1) = false) : Ev X A env σ (.Call func (e :: rest) [] pos) P := fun s b S => by
  refine Call_ (wpAny_mono (h s b S) ?_ (fun _ _ x => x)) he
  rintro v₁ s₁ ⟨d₁, σ₁, b₁, E₁, S₁, r₁, rfl, h₁⟩
  cases r₁
  refine PyProof.Rows.callWith_builtin1 (wpAny_mono (h₁ s₁ b₁ S₁) ?_ (fun _ _ x => x)) hst hpl
  rintro vs s₂ ⟨ds, σ₂, b₂, E₂, S₂, r₂, h₂⟩
  exact wpAny_mono (h₂ s₂ b₂ vs S₂ r₂) (fun v s' q => (q.after E₂).after E₁) (fun _ _ x => x)

def IsTy (X : Cx) (env : Env) (σ : Sg) (d : D) (T : String) : Prop := ∀ s b v, St X env σ b s → Rp X b v d → s.TypeIs v T ∧ ∀ a, v = .ref a → ∃ ob, s.heap.get? a = some ob ∧ ob.dict = none
theorem isTy_lst {d : D} {ds : List D} (l : Lst X σ d ds) : IsTy X env σ d "list" := fun s b v S r => by
  obtain ⟨a, vs, k, rfl, g, ra⟩ := l.at S r
  exact ⟨(isList_of g).typeIs, fun c e => by cases e; exact ⟨_, g, rfl⟩⟩

/-- a method of a built-in type -/
inductive QMeth (X : Cx) (A : Around) (env : Env) (T : String) (pos : Pos) (args : List Expr) (f : List Value → Sem Value) (P : D → Sg → Prop) (d : D) (σ₁ : Sg) : Prop
  | mk (t : IsTy X env σ₁ d T) (h : TrL X A env σ₁ (spliced (backTo pos (starEach args env))) (QCons d (QArg X A env f P)))
theorem ev_meth {o e : Expr} {name : Str} {apos pos : Pos} {rest : List Expr} {T id : String}
    (h : Ev X A env σ o (QMeth X A env T pos (e :: rest) (fun vs => call (.builtin id) vs) P))
    (pa : PlainAttrs T) (slot : Slot T name id) (hty : typeOf (.builtin id) = pure (.type "method_descriptor"))
    (hbase : attributeBase o name env (eval o env) = eval o env)
    (hfew : ((backTo pos (starEach (e :: rest) env)).all (fun x => !x.1) && (backToKw pos (keywordEach [] env)).all (fun x => x.1.isSome) && decide ((e :: rest).length + ([] : List Keyword).length + (if ([] : List Keyword).isEmpty then 0 else 1) < 30)) = true)
    (hline : (apos.endLine == pos.line) = true) (hpl : (backTo pos (starEach (e :: rest) env)).any (·.1) = false)
    (hst : starEach (e :: rest) env = (false, eval e env) :: starEach rest env) : Ev X A env σ (.Call (.Attribute o name apos) (e :: rest) [] pos) P := fun s b S => by
  refine wpAny_Call_method hbase hfew hline pa slot hty (wpAny_mono (h s b S) ?_ (fun _ _ x => x))
  rintro v₁ s₁ ⟨d₁, σ₁, b₁, E₁, S₁, r₁, ht, h₁⟩
  obtain ⟨t1, t2⟩ := ht s₁ b₁ v₁ S₁ r₁
  refine ⟨t1, t2, callWith_builtin hpl ?_⟩
  have h₁' := h₁ s₁ b₁ S₁
  rw [hst] at h₁' ⊢
  refine evalArgs_plain (wpAny_mono h₁' ?_ (fun _ _ x => x))
  rintro vs s₂ ⟨ds, σ₂, b₂, E₂, S₂, r₂, h₂⟩
  exact wpAny_mono (h₂ s₂ b₂ (v₁ :: vs) S₂ (.cons (r₁.mono E₂.ext.le) r₂)) (fun v s' q => (q.after E₂).after E₁) (fun _ _ x => x)
theorem ol_append {a : Addr} {x : D} {ds : List D} {ω' : Om} (u : Upd a (.lst ds) (.lst (ds ++ [x])) σ.ω ω') (hz : ds.length ≤ sizeLine) (p : P .none ⟨σ.ρ, ω'⟩) : OpL X A env σ (fun vs => call (.builtin "list.append") vs) [.raw (.ref a), x] P := fun s b vs S r => by
  cases r with
  | cons r q =>
  cases q with
  | cons r' q =>
  cases q
  cases r
  obtain ⟨vs, n, g, ra⟩ := S.hp.cell _ u.mem
  have e : vs.size = ds.length := by rw [← ra.length]; simp
  refine wpAny_list_append_plain (hsz := by omega) ⟨n, g⟩ fun h₉ hl₉ hs₉ => ?_
  obtain ⟨n₉, g₉⟩ := hl₉
  obtain ⟨S₉, E₉⟩ := S.setCell u hs₉ ⟨_, n₉, g₉, by simpa using ra.append (.cons r' .nil)⟩
  exact ⟨.none, _, b, E₉, S₉, .none, p⟩

theorem ol_pop0 {a : Addr} {x : D} {ds : List D} {ω' : Om} (u : Upd a (.lst (x :: ds)) (.lst ds) σ.ω ω') (hz : ds.length < sizeLine) (p : P x ⟨σ.ρ, ω'⟩) : OpL X A env σ (fun vs => call (.builtin "list.pop") vs) [.raw (.ref a), .int 0] P := fun s b vs S r => by
  cases r with
  | cons r q =>
  cases q with
  | cons r' q =>
  cases q
  cases r
  cases r'
  obtain ⟨vs, n, g, ra⟩ := S.hp.cell _ u.mem
  have e : vs.size = ds.length + 1 := by have := ra.length; simpa using this
  obtain ⟨v, ws, hvs, rv, rws⟩ : ∃ v ws, vs.toList = v :: ws ∧ Rp X b v x ∧ RpAll X b ws ds := by
    generalize vs.toList = l at ra
    cases ra with
    | cons r q => exact ⟨_, _, rfl, r, q⟩
  have hv0 : vs[0]? = some v := by rw [← Array.getElem?_toList, hvs]; rfl
  refine call_meets F.slot_list_pop ⟨_, g, rfl⟩ F.entry_list_pop (F.args_list_pop_2 _ _) (PySem.MeetsSeq.list_pop_at a vs n 0 _ 0 v (by decide) (by rw [e]; unfold seqIndex?; simp) hv0 (by omega)) ⟨g, ?_⟩
  have hws : (vs.eraseIdxIfInBounds 0).toList = ws := by
    simp [Array.eraseIdxIfInBounds, e, hvs]
  obtain ⟨S₉, E₉⟩ := S.setCell (h' := s.heap.update a (Obj.mapSeq fun xs => xs.eraseIdxIfInBounds 0)) u (Heap.SameBut.update ..) ⟨_, _, get?_update_seq g _, by rw [hws]; exact rws⟩
  exact ⟨x, _, b, E₉, S₉, rv, p⟩
theorem mem_head {p : Addr × C} {r : Om} : p ∈ p :: r := .head _
end Mine

namespace Mine
open PySem PySem.W PySem.Calls PyProof.Rows
variable {X : Cx} {A : Around} {env : Env} {σ : Sg} {P : D → Sg → Prop} {Q : Fl → Sg → Prop}

theorem ite_t {c : Bool} {p q : Prop} (hc : c = true) (h : p) : if c = true then p else q := by rw [if_pos hc]; exact h
theorem ite_f {c : Bool} {p q : Prop} (hc : c = false) (h : q) : if c = true then p else q := by rw [if_neg (by rw [hc]; simp)]; exact h
theorem ite_b {c : Bool} {p q : Prop} (h1 : c = true → p) (h2 : c = false → q) : if c = true then p else q := by
  cases c
  · exact ite_f rfl (h2 rfl)
  · exact ite_t rfl (h1 rfl)

/-- ρ' says no more than ρ -/
inductive Sub (ρ : List (Str × D)) : List (Str × D) → Prop
  | nil : Sub ρ []
  | cons {x : Str} {d : D} {r : List (Str × D)} : ρ.lookup x = some d → Sub ρ r → Sub ρ ((x, d) :: r)
theorem Sub.look {ρ : List (Str × D)} : ∀ {ρ' : List (Str × D)}, Sub ρ ρ' → ∀ {x : Str} {d : D}, ρ'.lookup x = some d → ρ.lookup x = some d
  | _, .nil, x, d, h => by cases h
  | _, .cons (x := y) e q, x, d, h => by
    rw [List.lookup_cons] at h
    cases z : (x == y) with
    | true => rw [z] at h; cases h; rw [beq_iff_eq.mp z]; exact e
    | false => rw [z] at h; exact q.look h
theorem St.sub {ρ ρ' : List (Str × D)} {ω : Om} {b : Heap} {s : Shared} (S : St X env ⟨ρ, ω⟩ b s) (h : Sub ρ ρ') : St X env ⟨ρ', ω⟩ b s := by
  obtain ⟨⟨m, hm, hv⟩, cl, cx⟩ := S.fm
  exact ⟨S.ok, S.hp, ⟨⟨m, hm, fun x d k e => hv x d k (h.look e)⟩, fun x d k e => cl x d k (h.look e), cx⟩, S.fa, S.fr⟩
theorem TrF.sub {ρ ρ' : List (Str × D)} {ω : Om} {t : Sem Flow} (h : Sub ρ ρ') (x : TrF X A env ⟨ρ', ω⟩ t Q) : TrF X A env ⟨ρ, ω⟩ t Q := fun s b S =>
  wpAny_mono (x s b (S.sub h)) (fun f s' ⟨fl, σ', b', E, S', r, p⟩ => ⟨fl, σ', b', ⟨E.ext, E.dom⟩, S', r, p⟩) fun _ _ x => x
theorem Asg.sub {ρ ρ' : List (Str × D)} {ω : Om} {target : Expr} {d : D} {R : Sg → Prop} (h : Sub ρ ρ') (x : Asg X A env ⟨ρ', ω⟩ target d R) : Asg X A env ⟨ρ, ω⟩ target d R := fun s b v S r =>
  wpAny_mono (x s b v (S.sub h) r) (fun f s' ⟨σ', b', E, S', p⟩ => ⟨σ', b', ⟨E.ext, E.dom⟩, S', p⟩) fun _ _ x => x
theorem Asg.mono {target : Expr} {d : D} {R R' : Sg → Prop} (x : Asg X A env σ target d R) (h : ∀ σ', R σ' → R' σ') : Asg X A env σ target d R' := fun s b v S r =>
  wpAny_mono (x s b v S r) (fun f s' ⟨σ', b', E, S', p⟩ => ⟨σ', b', E, S', h _ p⟩) fun _ _ x => x

theorem split_at {α : Type} {l : List α} {i : Nat} {x : α} (h : l[i]? = some x) : l = l.take i ++ x :: l.drop (i + 1) := by
  obtain ⟨hl, he⟩ := List.getElem?_eq_some_iff.mp h
  rw [← he, ← List.drop_eq_getElem_cons hl, List.take_append_drop]
theorem take_at {α : Type} {l : List α} {i : Nat} {x : α} (h : l[i]? = some x) : l.take (i + 1) = l.take i ++ [x] := by
  obtain ⟨hl, he⟩ := List.getElem?_eq_some_iff.mp h
  rw [List.take_add_one, h]; rfl

/-- what a loop's turn must leave -/
def Turn (Q : Fl → Sg → Prop) (ρ : List (Str × D)) (ω : Om) : Fl → Sg → Prop := fun fl σ => match fl with
  | .next | .cont => Sub σ.ρ ρ ∧ σ.ω = ω
  | .brk => Q .next σ
  | .ret r => Q (.ret r) σ

/-- a loop over data: the state is told by what has been taken -/
theorem ex_forL {α : Type} {target iter : Expr} {body orelse : List Stmt} {pos : Pos} (l : List α) (f : α → D) (ρI : List α → List (Str × D)) (ωI : List α → Om)
    (hiter : Src X A env σ iter target (fun _ => some (l.map f)) (fun σ₁ => Sub σ₁.ρ (ρI []) ∧ σ₁.ω = ωI []))
    (step : ∀ pre x post, l = pre ++ x :: post → Asg X A env ⟨ρI pre, ωI pre⟩ target (f x) (fun σ' => Exs X A env σ' body (Turn Q (ρI (pre ++ [x])) (ωI (pre ++ [x])))))
    (stop : Exs X A env ⟨ρI l, ωI l⟩ orelse Q)
    (hs : ∀ x, foldedSetIterable iter env x = pure x) : Ex X A env σ (.For target iter body orelse pos) Q := by
  refine ex_for (fun i σ => i ≤ l.length ∧ Sub σ.ρ (ρI (l.take i)) ∧ σ.ω = ωI (l.take i)) (fun _ => some (l.map f)) l.length ?_ ?_ ?_ ?_ hs
  · refine fun s b S => wpAny_mono (hiter s b S) (fun x s₁ h₁ => wpAny_mono h₁ ?_ fun _ _ x => x) fun _ _ x => x
    rintro it s₂ ⟨σ₁, b₁, own, J, h1, h2, h3, h4, h5, h6, h7⟩
    exact ⟨σ₁, b₁, own, J, h1, h2, h3, h4, h5, h6, Nat.zero_le _, h7.1, h7.2⟩
  · intro i σ _; exact ⟨_, rfl, by simp⟩
  · rintro i ⟨ρ, ω⟩ ds d ⟨hi, hsub, hω⟩ e hd
    cases e
    obtain ⟨x, hx, rfl⟩ : ∃ x, l[i]? = some x ∧ d = f x := by
      rw [List.getElem?_map] at hd
      cases q : l[i]? with
      | none => rw [q] at hd; cases hd
      | some x => rw [q] at hd; cases hd; exact ⟨x, rfl, rfl⟩
    dsimp only at hω hsub; subst hω
    refine Asg.sub hsub (Asg.mono (step _ x _ (split_at hx)) fun σ' h => TrF.mono h fun fl σ'' h2 => ?_)
    have hlt := (List.getElem?_eq_some_iff.mp hx).1
    rw [← take_at hx] at h2
    cases fl with
    | next => exact ⟨hlt, h2⟩
    | cont => exact ⟨hlt, h2⟩
    | brk => exact h2
    | ret r => exact h2
  · rintro i ⟨ρ, ω⟩ ds ⟨hi, hsub, hω⟩ e hd
    cases e
    have : i = l.length := Nat.le_antisymm hi (by simpa using hd)
    subst this
    rw [List.take_length] at hsub hω
    dsimp only at hω hsub; subst hω
    exact TrF.sub hsub stop

/-- a comprehension over data -/
theorem compL {α : Type} {elt target iter : Expr} {ifs : List Expr} {scope : Scope} (l : List α) (f : α → D) (outI : List α → List D) (ωI : List α → Om)
    (hsrc : Src X A env σ iter target (fun _ => some (l.map f)) (fun σ₁ => σ₁.ρ = σ.ρ ∧ σ₁.ω = ωI []))
    (h0 : outI [] = []) (hlen : ∀ pre, pre.length ≤ l.length → (outI pre).length ≤ sizeLine)
    (step : ∀ cl C acc pre x post, l = pre ++ x :: post → Asg X A (compEnvC scope cl C env) ⟨pick (freesOf scope) σ.ρ, (acc, .lst (outI pre)) :: ωI pre⟩ target (f x) (fun σ₁ => TsB X A (compEnvC scope cl C env) σ₁ ifs (fun c σ₂ =>
        if c = true then Ev X A (compEnvC scope cl C env) σ₂ elt (fun r σ₃ => σ₃.ω = (acc, .lst (outI pre)) :: ωI (pre ++ [x]) ∧ outI (pre ++ [x]) = outI pre ++ [r])
        else σ₂.ω = (acc, .lst (outI pre)) :: ωI (pre ++ [x]) ∧ outI (pre ++ [x]) = outI pre)))
    (fin : P (.list (outI l)) ⟨σ.ρ, ωI l⟩) :
    CompPre X A env σ elt target iter ifs scope P (fun _ => some (l.map f)) l.length (fun i out ω => i ≤ l.length ∧ out = outI (l.take i) ∧ ω = ωI (l.take i)) where
  src := fun s b S => wpAny_mono (hsrc s b S) (fun x s₁ h₁ => wpAny_mono h₁ (by
    rintro it s₂ ⟨σ₁, b₁, own, J, g1, g2, g3, g4, g5, g6, g7⟩
    exact ⟨σ₁, b₁, own, J, g1, g2, g3, g4, g5, g6, g7.1, Nat.zero_le _, by rw [List.take_zero, h0], by rw [List.take_zero]; exact g7.2⟩) fun _ _ x => x) fun _ _ x => x
  len := fun i out ω acc _ => ⟨_, rfl, by simp⟩
  outLen := fun i out ω h => by rw [h.2.1]; exact hlen _ (by rw [List.length_take]; exact Nat.min_le_right _ _)
  step := fun cl C acc i out ω ds d ⟨hi, ho, hω⟩ e hd => by
    cases e
    obtain ⟨x, hx, rfl⟩ : ∃ x, l[i]? = some x ∧ d = f x := by
      rw [List.getElem?_map] at hd
      cases q : l[i]? with
      | none => rw [q] at hd; cases hd
      | some x => rw [q] at hd; cases hd; exact ⟨x, rfl, rfl⟩
    subst ho hω
    have hlt := (List.getElem?_eq_some_iff.mp hx).1
    refine Asg.mono (step cl C acc _ x _ (split_at hx)) fun σ₁ h => TrB.mono h fun c σ₂ h2 => ?_
    rw [← take_at hx] at h2
    cases c with
    | true =>
      simp only [if_true] at h2 ⊢
      exact Tr.mono h2 fun r σ₃ h3 => ⟨_, h3.1, hlt, h3.2.symm, rfl⟩
    | false =>
      simp only [Bool.false_eq_true, if_false] at h2 ⊢
      exact ⟨_, h2.1, hlt, h2.2.symm, rfl⟩
  fin := fun i out ω ds acc ⟨hi, ho, hω⟩ e hd => by
    cases e
    have : i = l.length := Nat.le_antisymm hi (by simpa using hd)
    subst this
    rw [List.take_length] at ho hω
    subst ho hω
    exact fin
end Mine

namespace Mine
open PySem PySem.W PySem.Calls PyProof.Rows
variable {X : Cx} {A : Around} {env : Env} {σ : Sg} {P : D → Sg → Prop} {Q : Fl → Sg → Prop}

theorem ev_callT {func : Expr} {e : Expr} {rest : List Expr} {pos : Pos} {T : String} (h : Ev X A env σ func (QCall X A env (.type T) pos (e :: rest) (fun vs => call (.type T) vs) P))
    (he : eval (.Call func (e :: rest) [] pos) env = (do callWith pos (← eval func env) [] (backTo pos (starEach (e :: rest) env)) (backToKw pos (keywordEach [] env))))
    (hst : starEach (e :: rest) env = (false, eval e env) :: starEach rest env) (hpl : (backTo pos (starEach rest env)).any (·.1) = false) : Ev X A env σ (.Call func (e :: rest) [] pos) P := fun s b S => by
  refine Call_ (wpAny_mono (h s b S) ?_ (fun _ _ x => x)) he
  rintro v₁ s₁ ⟨d₁, σ₁, b₁, E₁, S₁, r₁, rfl, h₁⟩
  cases r₁
  refine PySem.Pv.callWith_type1 (wpAny_mono (h₁ s₁ b₁ S₁) ?_ (fun _ _ x => x)) hst hpl
  rintro vs s₂ ⟨ds, σ₂, b₂, E₂, S₂, r₂, h₂⟩
  exact wpAny_mono (h₂ s₂ b₂ vs S₂ r₂) (fun v s' q => (q.after E₂).after E₁) (fun _ _ x => x)

theorem Po.alloc {s : Shared} {b : Heap} {o : Obj} {d : D} {tk : Nat} (S : St X env σ b s) (hf : o.isFreed = false) (r : ∀ b', Le b b' → b'.get? s.heap.objs.size = some o → Rp X b' (.ref s.heap.objs.size) d) (p : P d σ) :
    Po X env σ s b P (.ref s.heap.objs.size) { s with heap := s.heap.push o, toks := tk } := by
  obtain ⟨b₂, l₂, g₂, S₂, E₂⟩ := S.allocD o hf tk
  exact ⟨d, σ, b₂, E₂, S₂, r b₂ l₂ g₂, p⟩

/-- a list of one's own handed on: it turns no more -/
theorem tr_freeze {t : Sem Value} (h : Tr X A env σ t (fun d σ₁ => ∃ a ds ω', d = .raw (.ref a) ∧ σ₁.ω = (a, .lst ds) :: ω' ∧ P (.list ds) ⟨σ₁.ρ, ω'⟩)) : Tr X A env σ t P := fun s b S => by
  refine wpAny_mono (h s b S) ?_ (fun _ _ x => x)
  rintro v s₁ ⟨d, ⟨ρ₁, ω₁⟩, b₁, E₁, S₁, r₁, a, ds, ω', rfl, hω, p⟩
  dsimp only at hω p; subst hω
  cases r₁
  have hnd := S₁.hp.nod
  simp only [List.map_cons, List.nodup_cons] at hnd
  obtain ⟨b₂, l₂, S₂, E₂, r₂⟩ := S₁.freeze (a := a) (ds := ds) (ω' := ω') (ρ' := ρ₁) (.head _) (fun p hp => ⟨.tail _ hp, fun z => hnd.1 (z ▸ List.mem_map_of_mem hp)⟩) hnd.2 (fun x d e => .inl e)
  exact ⟨.list ds, _, b₂, E₁.trans E₂, S₂, r₂, p⟩
/-- .. under a name: from here on it is data -/
theorem trF_freeze {t : Sem Flow} {ρ ρ' : List (Str × D)} {a : Addr} {ds : List D} {ω' : Om} (hρ : ∀ x d, ρ'.lookup x = some d → ρ.lookup x = some d ∨ (ρ.lookup x = some (.raw (.ref a)) ∧ d = .list ds))
    (h : TrF X A env ⟨ρ', ω'⟩ t Q) : TrF X A env ⟨ρ, (a, .lst ds) :: ω'⟩ t Q := fun s b S => by
  have hnd := S.hp.nod
  simp only [List.map_cons, List.nodup_cons] at hnd
  obtain ⟨b₂, l₂, S₂, E₂, r₂⟩ := S.freeze (a := a) (ds := ds) (ω' := ω') (ρ' := ρ') (.head _) (fun p hp => ⟨.tail _ hp, fun z => hnd.1 (z ▸ List.mem_map_of_mem hp)⟩) hnd.2 hρ
  exact wpAny_mono (h s b₂ S₂) (fun f s' q => q.after E₂) (fun _ _ x => x)

theorem St.drop {ρ : List (Str × D)} {ω ω' : Om} {b : Heap} {s : Shared} (S : St X env ⟨ρ, ω⟩ b s) (h : ω'.Sublist ω) : St X env ⟨ρ, ω'⟩ b s ∧ Evo X env ⟨ρ, ω⟩ ⟨ρ, ω'⟩ s b s b := by
  have hm : (ω'.map (·.1)).Sublist (ω.map (·.1)) := h.map _
  exact ⟨⟨S.ok, ⟨S.hp.le, fun p hp => S.hp.cell p (h.subset hp), fun p hp => S.hp.out p (h.subset hp), S.hp.nod.sublist hm, S.hp.top⟩, S.fm, ⟨S.fa.lb, fun z => S.fa.lw (hm.subset z), S.fa.cb, fun x c e z => S.fa.cw x c e (hm.subset z), S.fa.cl, S.fa.inj⟩, S.fr.mono (fun _ _ _ _ z => z) (fun a o l z w => z (hm.subset w)) (fun a o es ep _ _ e q => ⟨o, es, ep, e, q⟩)⟩,
    ⟨Ext.refl .., fun a z => .inl (hm.subset z)⟩⟩
/-- cells that are not needed any more -/
theorem tr_drop {t : Sem Value} (h : Tr X A env σ t (fun d σ₁ => ∃ ω', ω'.Sublist σ₁.ω ∧ P d ⟨σ₁.ρ, ω'⟩)) : Tr X A env σ t P := fun s b S => by
  refine wpAny_mono (h s b S) ?_ (fun _ _ x => x)
  rintro v s₁ ⟨d, ⟨ρ₁, ω₁⟩, b₁, E₁, S₁, r₁, ω', hs, p⟩
  obtain ⟨S₂, E₂⟩ := S₁.drop hs
  exact ⟨d, _, b₁, E₁.trans E₂, S₂, r₁, p⟩
theorem trF_drop {t : Sem Flow} {ρ : List (Str × D)} {ω ω' : Om} (hs : ω'.Sublist ω) (h : TrF X A env ⟨ρ, ω'⟩ t Q) : TrF X A env ⟨ρ, ω⟩ t Q := fun s b S => by
  obtain ⟨S₂, E₂⟩ := S.drop hs
  exact wpAny_mono (h s b S₂) (fun f s' q => q.after E₂) (fun _ _ x => x)

theorem ol_range {n : Nat} (p : P (.rng n) σ) : OpL X A env σ (fun vs => call (.type "range") vs) [.int (n : Int)] P := fun s b vs S r => by
  cases r with
  | cons r q =>
  cases q
  cases r
  exact call_range_1 (Po.alloc S rfl (fun b' l g => .rng g) p)

theorem all_list {x : Value} {s : Shared} {QQ : Value → Shared → Prop} {E : Value → Shared → Prop} {a : Addr} {vs : Array Value} {bs : List Bool} (hh : A.handled = none) (hl : s.heap.IsList a vs) (hb : vs.toList = bs.map Value.bool)
    (h : ∀ h' tk, Le s.heap h' → QQ (.bool (bs.all id)) { s with heap := h', toks := tk }) : wpAny X.M A (call (.builtin "all") [.ref a]) QQ E s := by
  have hlt : a < s.heap.objs.size := by obtain ⟨_, e, _⟩ := hl; exact Heap.lt_size e
  refine call_all_walk (wpAny_pyIter_list hl ⟨_, _, _, _, _, _, fun i => bs.getD i true, rfl, Walks.list (A := A.in1) hh _ a (Nat.ne_of_lt hlt) vs, ⟨⟨_, Heap.get?_push_size _ rfl, rfl, rfl⟩, hl.push _⟩, ?_, fun h' tk hk => ?_⟩)
  · intro i v s' Q' E' hv hq
    have : vs.toList[i]? = some v := by simpa using hv
    rw [hb, List.getElem?_map] at this
    cases q : bs[i]? with
    | none => rw [q] at this; cases this
    | some c =>
      rw [q] at this; cases this
      have : bs.getD i true = c := by simp [List.getD, q]
      dsimp only at hq; rw [this] at hq
      exact wpAny_truthy_bool hq
  · have hn : vs.size = bs.length := by rw [← Array.length_toList, hb]; simp
    have e : (List.range vs.size).all (fun i => bs.getD i true) = bs.all id := by
      rw [hn]
      rw [Bool.eq_iff_iff]
      simp only [List.all_eq_true, List.mem_range, id]
      constructor
      · intro h x hx
        obtain ⟨i, hi, rfl⟩ := List.getElem_of_mem hx
        have := h i hi
        simpa [List.getD, hi] using this
      · intro h i hi
        have := h bs[i] (List.getElem_mem hi)
        simpa [List.getD, hi] using this
    rw [e]
    exact h h' tk fun b o e => hk b o (fun z => by rw [List.mem_singleton.mp z] at e; exact absurd (Heap.lt_size e) (Nat.lt_irrefl _)) (Heap.get?_push_of_some _ e)
theorem any_list {x : Value} {s : Shared} {QQ : Value → Shared → Prop} {E : Value → Shared → Prop} {a : Addr} {vs : Array Value} {bs : List Bool} (hh : A.handled = none) (hl : s.heap.IsList a vs) (hb : vs.toList = bs.map Value.bool)
    (h : ∀ h' tk, Le s.heap h' → QQ (.bool (bs.any id)) { s with heap := h', toks := tk }) : wpAny X.M A (call (.builtin "any") [.ref a]) QQ E s := by
  have hlt : a < s.heap.objs.size := by obtain ⟨_, e, _⟩ := hl; exact Heap.lt_size e
  refine call_any_walk (wpAny_pyIter_list hl ⟨_, _, _, _, _, _, fun i => bs.getD i true, rfl, Walks.list (A := A.in1) hh _ a (Nat.ne_of_lt hlt) vs, ⟨⟨_, Heap.get?_push_size _ rfl, rfl, rfl⟩, hl.push _⟩, ?_, fun h' tk hk => ?_⟩)
  · intro i v s' Q' E' hv hq
    have : vs.toList[i]? = some v := by simpa using hv
    rw [hb, List.getElem?_map] at this
    cases q : bs[i]? with
    | none => rw [q] at this; cases this
    | some c =>
      rw [q] at this; cases this
      have : bs.getD i true = c := by simp [List.getD, q]
      dsimp only at hq; rw [this] at hq
      exact wpAny_truthy_bool hq
  · have hn : vs.size = bs.length := by rw [← Array.length_toList, hb]; simp
    have e : (List.range vs.size).any (fun i => bs.getD i true) = bs.any id := by
      rw [hn]
      rw [Bool.eq_iff_iff]
      simp only [List.any_eq_true, List.mem_range, id]
      constructor
      · rintro ⟨i, hi, h⟩
        exact ⟨bs[i], List.getElem_mem hi, by simpa [List.getD, hi] using h⟩
      · rintro ⟨x, hx, h⟩
        obtain ⟨i, hi, rfl⟩ := List.getElem_of_mem hx
        exact ⟨i, hi, by simpa [List.getD, hi] using h⟩
    rw [e]
    exact h h' tk fun b o e => hk b o (fun z => by rw [List.mem_singleton.mp z] at e; exact absurd (Heap.lt_size e) (Nat.lt_irrefl _)) (Heap.get?_push_of_some _ e)

theorem rpAll_bools {b : Heap} : ∀ {vs : List Value} {bs : List Bool}, RpAll X b vs (bs.map D.bool) → vs = bs.map Value.bool
  | vs, [], h => by cases h; rfl
  | vs, c :: r, h => by
    cases h with
    | cons h q => cases h; rw [rpAll_bools q]; rfl

theorem ol_all {d : D} {bs : List Bool} (hh : A.handled = none) (l : Lst X σ d (bs.map D.bool)) (p : P (.bool (bs.all id)) σ) : OpL X A env σ (fun vs => call (.builtin "all") vs) [d] P := fun s b vs S r => by
  cases r with
  | cons r q =>
  cases q
  obtain ⟨a, vs, k, rfl, g, ra⟩ := l.at S r
  refine all_list (x := .none) hh (isList_of g) (rpAll_bools ra) fun h' tk hle => ?_
  obtain ⟨S₁, E₁⟩ := S.extend (h' := h') (b' := b) (tk := tk) hle (Le.refl _) (S.hp.le.trans hle) (fun a o e => .inl ⟨o, e⟩)
  exact ⟨_, σ, b, E₁, S₁, .bool _, p⟩
theorem ol_any {d : D} {bs : List Bool} (hh : A.handled = none) (l : Lst X σ d (bs.map D.bool)) (p : P (.bool (bs.any id)) σ) : OpL X A env σ (fun vs => call (.builtin "any") vs) [d] P := fun s b vs S r => by
  cases r with
  | cons r q =>
  cases q
  obtain ⟨a, vs, k, rfl, g, ra⟩ := l.at S r
  refine any_list (x := .none) hh (isList_of g) (rpAll_bools ra) fun h' tk hle => ?_
  obtain ⟨S₁, E₁⟩ := S.extend (h' := h') (b' := b) (tk := tk) hle (Le.refl _) (S.hp.le.trans hle) (fun a o e => .inl ⟨o, e⟩)
  exact ⟨_, σ, b, E₁, S₁, .bool _, p⟩
end Mine

namespace Mine
open PySem PySem.W PySem.Calls PyProof.Rows
variable {X : Cx} {A : Around} {env : Env} {σ : Sg} {P : D → Sg → Prop} {Q : Fl → Sg → Prop}

def TurnI (Q : Fl → Sg → Prop) (ρ : List (Str × D)) (ω : Om) (I : Prop) : Fl → Sg → Prop := fun fl σ => match fl with
  | .next | .cont => Sub σ.ρ ρ ∧ σ.ω = ω ∧ I
  | .brk => Q .next σ
  | .ret r => Q (.ret r) σ

/-- a loop over data with a word that holds of what has been taken -/
theorem ex_forLI {α : Type} {target iter : Expr} {body orelse : List Stmt} {pos : Pos} (l : List α) (f : α → D) (ρI : List α → List (Str × D)) (ωI : List α → Om) (I : List α → Prop)
    (hiter : Src X A env σ iter target (fun _ => some (l.map f)) (fun σ₁ => Sub σ₁.ρ (ρI []) ∧ σ₁.ω = ωI [])) (h0 : I [])
    (step : ∀ pre x post, l = pre ++ x :: post → I pre → Asg X A env ⟨ρI pre, ωI pre⟩ target (f x) (fun σ' => Exs X A env σ' body (TurnI Q (ρI (pre ++ [x])) (ωI (pre ++ [x])) (I (pre ++ [x])))))
    (stop : I l → Exs X A env ⟨ρI l, ωI l⟩ orelse Q)
    (hs : ∀ x, foldedSetIterable iter env x = pure x) : Ex X A env σ (.For target iter body orelse pos) Q := by
  refine ex_for (fun i σ => i ≤ l.length ∧ Sub σ.ρ (ρI (l.take i)) ∧ σ.ω = ωI (l.take i) ∧ I (l.take i)) (fun _ => some (l.map f)) l.length ?_ ?_ ?_ ?_ hs
  · refine fun s b S => wpAny_mono (hiter s b S) (fun x s₁ h₁ => wpAny_mono h₁ ?_ fun _ _ x => x) fun _ _ x => x
    rintro it s₂ ⟨σ₁, b₁, own, J, h1, h2, h3, h4, h5, h6, h7⟩
    exact ⟨σ₁, b₁, own, J, h1, h2, h3, h4, h5, h6, Nat.zero_le _, h7.1, h7.2, h0⟩
  · intro i σ _; exact ⟨_, rfl, by simp⟩
  · rintro i ⟨ρ, ω⟩ ds d ⟨hi, hsub, hω, hI⟩ e hd
    cases e
    obtain ⟨x, hx, rfl⟩ : ∃ x, l[i]? = some x ∧ d = f x := by
      rw [List.getElem?_map] at hd
      cases q : l[i]? with
      | none => rw [q] at hd; cases hd
      | some x => rw [q] at hd; cases hd; exact ⟨x, rfl, rfl⟩
    dsimp only at hω hsub; subst hω
    refine Asg.sub hsub (Asg.mono (step _ x _ (split_at hx) hI) fun σ' h => TrF.mono h fun fl σ'' h2 => ?_)
    have hlt := (List.getElem?_eq_some_iff.mp hx).1
    rw [← take_at hx] at h2
    cases fl with
    | next => exact ⟨hlt, h2⟩
    | cont => exact ⟨hlt, h2⟩
    | brk => exact h2
    | ret r => exact h2
  · rintro i ⟨ρ, ω⟩ ds ⟨hi, hsub, hω, hI⟩ e hd
    cases e
    have : i = l.length := Nat.le_antisymm hi (by simpa using hd)
    subst this
    rw [List.take_length] at hsub hω hI
    dsimp only at hω hsub; subst hω
    exact TrF.sub hsub (stop hI)

/-! and, or as values -/
theorem ev_one {op : BoolOp} {e : Expr} {pos : Pos} (h : Ev X A env σ e P) : Ev X A env σ (.BoolOp op [e] pos) P := fun s b S => BoolOp_one (h s b S)
theorem ev_and {e₁ e₂ : Expr} {rest : List Expr} {pos : Pos} (h : Ev X A env σ e₁ (fun d σ₁ => OpB X A env σ₁ truthy d (fun c σ₂ => if c = true then Ev X A env σ₂ (.BoolOp .And (e₂ :: rest) pos) P else P d σ₂))) :
    Ev X A env σ (.BoolOp .And (e₁ :: e₂ :: rest) pos) P := fun s b S => by
  refine BoolOp_and (wpAny_mono (h s b S) ?_ fun _ _ x => x)
  rintro v s₁ ⟨d, σ₁, b₁, E₁, S₁, r₁, h₁⟩
  refine wpAny_mono (h₁ s₁ b₁ v S₁ r₁) ?_ fun _ _ x => x
  rintro c s₂ ⟨σ₂, b₂, E₂, S₂, h₂⟩
  cases c with
  | true => simp only [if_true] at h₂ ⊢; exact wpAny_mono (h₂ s₂ b₂ S₂) (fun v s' q => (q.after E₂).after E₁) (fun _ _ x => x)
  | false => simp only [Bool.false_eq_true, if_false] at h₂ ⊢; exact ⟨d, σ₂, b₂, E₁.trans E₂, S₂, r₁.mono E₂.ext.le, h₂⟩
/-! slices of lists -/
/-! enumerate -/
def enumD (ds : List D) : List D := ds.zipIdx.map fun p => .tup [.int (p.2 : Nat), p.1]
theorem enumD_get {ds : List D} {i : Nat} {d : D} (h : (enumD ds)[i]? = some d) : ∃ x, ds[i]? = some x ∧ d = .tup [.int (i : Nat), x] := by
  unfold enumD at h
  rw [List.getElem?_map, List.getElem?_zipIdx] at h
  cases q : ds[i]? with
  | none => rw [q] at h; cases h
  | some x => rw [q] at h; simp at h; exact ⟨x, rfl, h.symm⟩
theorem enumD_none {ds : List D} {i : Nat} (h : (enumD ds)[i]? = none) : ds[i]? = none := by
  unfold enumD at h
  rw [List.getElem?_map, List.getElem?_zipIdx] at h
  cases q : ds[i]? with
  | none => rfl
  | some x => rw [q] at h; cases h

theorem itr_enum {elts : List Expr} {x1 : Nat} {tpos : Pos} {e I a : Addr} {b₀ : Heap} {vs : Array Value} {n : Nat} {ds : List D} (hh : A.handled = none) (hne : e ≠ I) (hg : b₀.get? a = some (seqObj "list" vs n)) (ra : RpAll X b₀ vs.toList ds) :
    Itr X A (.Tuple elts x1 tpos) (.ref e) b₀ [e, I] (fun i h => (∃ old, IsEnum h e I (i : Nat) old) ∧ h.IsListIter I a i) (fun _ => some (enumD ds)) where
  frame := fun i h h' ⟨⟨old, j1⟩, j2⟩ k => ⟨⟨old, k e (by simp) _ j1⟩, j2.at fun o q => k I (by simp) o q⟩
  live := fun i h ⟨⟨old, j1⟩, ⟨o, j2, _⟩⟩ x hx => by
    rcases List.mem_cons.mp hx with rfl | hx
    · exact ⟨_, j1⟩
    · rw [List.mem_singleton.mp hx]; exact ⟨o, j2⟩
  item := fun env σ i ds' d s b S hb ⟨⟨old, j1⟩, j2⟩ q g ap => by
    cases q
    obtain ⟨x, hx, rfl⟩ := enumD_get g
    obtain ⟨v, hv, r⟩ := (ra.mono hb).getD hx
    refine wpAny_pyNext_enum_item j1 j2 (isList_of (S.hp.le _ _ (hb _ _ hg))) (x := v) (by simpa using hv) hne fun h' k1 k2 k3 k4 k5 => ⟨_, rfl, ?_⟩
    refine wpAny_letOwnedTupleGo_enum (s := { s with heap := h', toks := s.toks + 1 }) k1 fun h₂ m1 m2 => ?_
    have hT : ∀ y ∈ [e, I], s.heap.objs.size ≠ y := fun y hy z => by
      have : ∃ o, s.heap.get? y = some o := by
        rcases List.mem_cons.mp hy with rfl | hy
        · exact ⟨_, j1⟩
        · rw [List.mem_singleton.mp hy]; obtain ⟨o, j3, _⟩ := j2; exact ⟨o, j3⟩
      obtain ⟨o, ho⟩ := this
      rw [← z, fresh_none] at ho; cases ho
    have k5' : ∀ y o, y ∉ [e, I] → s.heap.get? y = some o → h₂.get? y = some o := fun y o hy q => (m2.2 y (fun z => hy (by simp [z]))).trans (k5 y o (fun z => hy (by simp [z])) (fun z => hy (by simp [z])) q)
    have hTg : h₂.get? s.heap.objs.size = some (seqObj "tuple" #[.int (i : Nat) s.toks, v] 0) := (m2.2 _ (hT e (by simp))).trans k3
    have hbh : Le b h₂ := fun y o q => k5' y o (fun z => by rw [ap.b y z] at q; cases q) (S.hp.le _ _ q)
    refine ⟨h₂, grow b h₂ (· == s.heap.objs.size), s.toks + 1, rfl, ⟨⟨v, ?_⟩, k2.at fun o q => (m2.2 _ (Ne.symm hne)).trans q⟩, k5', grow_le hbh, grow_in, fun y o q => ?_, ?_⟩
    · have e1 : ((i : Nat) : Int) + 1 = ((i + 1 : Nat) : Int) := by omega
      rw [← e1]; exact m1
    · rcases grow_new q with z | z
      · exact .inl z
      · exact .inr (by rw [beq_iff_eq.mp z]; exact fresh_none _)
    · exact .tup (grow_get (by simp) hTg) (.cons (.int ..) (.cons (r.mono (grow_le hbh)) .nil))
  done := fun env σ i ds' s b S hb ⟨⟨old, j1⟩, j2⟩ q g ap => by
    cases q
    have hx := enumD_none g
    refine wpAny_pyNext_enum_end hh j1 j2 (isList_of (S.hp.le _ _ (hb _ _ hg))) ?_ fun h' he => ⟨rfl, h', s.toks, rfl, fun x o hx e => he x o (fun z => hx (by simp [z])) e⟩
    have := ra.length
    have hg : ds.length ≤ i := by simpa using hx
    simp; have : vs.size = ds.length := by rw [← this]; simp
    omega
  self := fun i s QQ E j h => by obtain ⟨⟨old, j1⟩, j2⟩ := j; exact wpAny_pyIter_enum j1 h

theorem src_enum {func e : Expr} {pos tpos : Pos} {elts : List Expr} {x1 : Nat} {ds : List D} {R : Sg → Prop} (hh : A.handled = none)
    (h : Ev X A env σ func (fun f σ₁ => f = .raw (.type "enumerate") ∧ Ev X A env σ₁ e (fun d σ₂ => d = .list ds ∧ R σ₂)))
    (he : eval (.Call func [e] [] pos) env = (do callWith pos (← eval func env) [] (backTo pos (starEach [e] env)) (backToKw pos (keywordEach [] env))))
    (hst : starEach [e] env = (false, eval e env) :: starEach [] env) :
    Src X A env σ (.Call func [e] [] pos) (.Tuple elts x1 tpos) (fun _ => some (enumD ds)) R := fun s b S => by
  refine Call_ (wpAny_mono (h s b S) ?_ (fun _ _ x => x)) he
  rintro v₁ s₁ ⟨d₁, σ₁, b₁, E₁, S₁, r₁, rfl, h₁⟩
  cases r₁
  refine PySem.Pv.callWith_type1 (args_cons (wpAny_mono (h₁ s₁ b₁ S₁) ?_ (fun _ _ x => x)) hst) hst rfl
  rintro v₂ s₂ ⟨d₂, σ₂, b₂, E₂, S₂, r₂, rfl, hR⟩
  refine args_nil ?_
  cases r₂ with
  | list g ra =>
  rename_i a vs n
  refine call_enumerate_list (isList_of (S₂.hp.le _ _ g)) fun h' k1 k2 k3 k4 => ?_
  refine wpAny_pyIter_enum k1 ?_
  obtain ⟨S₃, E₃⟩ := S₂.extend (h' := h') (b' := b₂) (tk := s₂.toks) k4 (Le.refl _) (S₂.hp.le.trans k4) (fun a o e => .inl ⟨o, e⟩)
  have fr : ∀ y ∈ [s₂.heap.objs.size + 1, s₂.heap.objs.size], s₂.heap.get? y = none := fun y hy => by
    cases q : s₂.heap.get? y with
    | none => rfl
    | some o =>
      have := Heap.lt_size q
      rcases List.mem_cons.mp hy with rfl | hy
      · exact absurd this (Nat.not_lt.mpr (Nat.le_succ _))
      · rw [List.mem_singleton.mp hy] at this; exact absurd this (Nat.lt_irrefl _)
  exact ⟨σ₂, b₂, [s₂.heap.objs.size + 1, s₂.heap.objs.size], _, (E₁.trans E₂).trans E₃, S₃, apart_new S₂ fr, fun y hy => E₁.ext.none (E₂.ext.none (fr y hy)), itr_enum hh (Nat.succ_ne_self _) g ra, ⟨⟨_, k1⟩, k2⟩, hR⟩
end Mine

namespace Mine
open PySem PySem.W PySem.Calls PyProof.Rows
variable {X : Cx} {A : Around} {env : Env} {σ : Sg} {P : D → Sg → Prop} {Q : Fl → Sg → Prop}

/-! while -/
abbrev QWhb (Inv : Nat → Sg → Prop) (n : Nat) (Q : Fl → Sg → Prop) : Fl → Sg → Prop := fun fl σ₂ => match fl with | .next | .cont => ∃ m, m < n ∧ Inv m σ₂ | .brk => Q .next σ₂ | .ret r => Q (.ret r) σ₂
abbrev QWh (X : Cx) (A : Around) (env : Env) (body orelse : List Stmt) (Inv : Nat → Sg → Prop) (n : Nat) (Q : Fl → Sg → Prop) : Bool → Sg → Prop := fun c σ₁ => if c = true then Exs X A env σ₁ body (QWhb Inv n Q) else Exs X A env σ₁ orelse Q
theorem ex_while {test : Expr} {body orelse : List Stmt} {pos : Pos} (Inv : Nat → Sg → Prop) (n : Nat) (h0 : Inv n σ)
    (turn : ∀ n σ, Inv n σ → Te X A env σ test (QWh X A env body orelse Inv n Q)) :
    Ex X A env σ (.While test body orelse pos) Q := fun s b S => by
  refine wpAny_While (codeAny_whileLoop (fun n s' => ∃ σ' b', Inv n σ' ∧ St X env σ' b' s' ∧ Evo X env σ σ' s b s' b') ?_ n ⟨σ, b, h0, S, Evo.refl ..⟩)
  rintro n s' ⟨σ', b', hI, S', E'⟩
  refine wpAny_mono (turn n σ' hI s' b' S') ?_ (fun _ _ x => x.elim)
  rintro c s₁ ⟨σ₁, b₁, E₁, S₁, h₁⟩
  cases c with
  | true =>
    simp only [if_true] at h₁ ⊢
    refine wpAny_mono (h₁ s₁ b₁ S₁) ?_ (fun _ _ x => x.elim)
    rintro f s₂ ⟨fl, σ₂, b₂, E₂, S₂, r₂, h₂⟩
    have E := (E'.trans E₁).trans E₂
    cases f with
    | next => cases fl with
      | next => obtain ⟨m, hm, hi⟩ := h₂; exact ⟨m, hm, σ₂, b₂, hi, S₂, E⟩
      | _ => exact r₂.elim
    | cont => cases fl with
      | cont => obtain ⟨m, hm, hi⟩ := h₂; exact ⟨m, hm, σ₂, b₂, hi, S₂, E⟩
      | _ => exact r₂.elim
    | brk => cases fl with
      | brk => exact ⟨.next, σ₂, b₂, E, S₂, trivial, h₂⟩
      | _ => exact r₂.elim
    | ret v => cases fl with
      | ret d => exact ⟨.ret d, σ₂, b₂, E, S₂, r₂, h₂⟩
      | _ => exact r₂.elim
  | false =>
    simp only [Bool.false_eq_true, if_false] at h₁ ⊢
    exact wpAny_mono (h₁ s₁ b₁ S₁) (fun f s₂ q => q.after (E'.trans E₁)) (fun _ _ x => x.elim)

/-- a loop over data, an invariant over what has been taken and the state -/
def TurnP (Q : Fl → Sg → Prop) (I : Sg → Prop) : Fl → Sg → Prop := fun fl σ => match fl with
  | .next | .cont => I σ
  | .brk => Q .next σ
  | .ret r => Q (.ret r) σ
theorem ex_forS {α : Type} {target iter : Expr} {body orelse : List Stmt} {pos : Pos} (l : List α) (f : α → D) (seq : Sg → Option (List D)) (Inv : List α → Sg → Prop)
    (hiter : Src X A env σ iter target seq (Inv []))
    (hseq : ∀ pre σ, Inv pre σ → seq σ = some (l.map f))
    (step : ∀ pre x post σ, l = pre ++ x :: post → Inv pre σ → Asg X A env σ target (f x) (fun σ' => Exs X A env σ' body (TurnP Q (Inv (pre ++ [x])))))
    (stop : ∀ σ, Inv l σ → Exs X A env σ orelse Q)
    (hs : ∀ x, foldedSetIterable iter env x = pure x) : Ex X A env σ (.For target iter body orelse pos) Q := by
  refine ex_for (fun i σ => i ≤ l.length ∧ Inv (l.take i) σ) seq l.length ?_ ?_ ?_ ?_ hs
  · refine fun s b S => wpAny_mono (hiter s b S) (fun x s₁ h₁ => wpAny_mono h₁ ?_ fun _ _ x => x) fun _ _ x => x
    rintro it s₂ ⟨σ₁, b₁, own, J, h1, h2, h3, h4, h5, h6, h7⟩
    exact ⟨σ₁, b₁, own, J, h1, h2, h3, h4, h5, h6, Nat.zero_le _, h7⟩
  · intro i σ h; exact ⟨_, hseq _ _ h.2, by simp⟩
  · rintro i σ ds d ⟨hi, hI⟩ e hd
    rw [hseq _ _ hI] at e
    cases e
    obtain ⟨x, hx, rfl⟩ : ∃ x, l[i]? = some x ∧ d = f x := by
      rw [List.getElem?_map] at hd
      cases q : l[i]? with
      | none => rw [q] at hd; cases hd
      | some x => rw [q] at hd; cases hd; exact ⟨x, rfl, rfl⟩
    refine Asg.mono (step _ x _ σ (split_at hx) hI) fun σ' h => TrF.mono h fun fl σ'' h2 => ?_
    have hlt := (List.getElem?_eq_some_iff.mp hx).1
    rw [← take_at hx] at h2
    cases fl with
    | next => exact ⟨hlt, h2⟩
    | cont => exact ⟨hlt, h2⟩
    | brk => exact h2
    | ret r => exact h2
  · rintro i σ ds ⟨hi, hI⟩ e hd
    rw [hseq _ _ hI] at e
    cases e
    have : i = l.length := Nat.le_antisymm hi (by simpa using hd)
    subst this
    rw [List.take_length] at hI
    exact stop σ hI
theorem ex_forP {α : Type} {target iter : Expr} {body orelse : List Stmt} {pos : Pos} (l : List α) (f : α → D) (Inv : List α → Sg → Prop)
    (hiter : Src X A env σ iter target (fun _ => some (l.map f)) (Inv []))
    (step : ∀ pre x post σ, l = pre ++ x :: post → Inv pre σ → Asg X A env σ target (f x) (fun σ' => Exs X A env σ' body (TurnP Q (Inv (pre ++ [x])))))
    (stop : ∀ σ, Inv l σ → Exs X A env σ orelse Q)
    (hs : ∀ x, foldedSetIterable iter env x = pure x) : Ex X A env σ (.For target iter body orelse pos) Q :=
  ex_forS l f _ Inv hiter (fun _ _ _ => rfl) step stop hs

abbrev PI {α : Type} (_ : List α) : Type := List α → Sg → Prop
/-! the order of the cells is nothing -/
theorem St.perm {ρ : List (Str × D)} {ω ω' : Om} {b : Heap} {s : Shared} (S : St X env ⟨ρ, ω⟩ b s) (h : ω'.Perm ω) : St X env ⟨ρ, ω'⟩ b s ∧ Evo X env ⟨ρ, ω⟩ ⟨ρ, ω'⟩ s b s b := by
  have hm : (ω'.map (·.1)).Perm (ω.map (·.1)) := h.map _
  exact ⟨⟨S.ok, ⟨S.hp.le, fun p hp => S.hp.cell p (h.subset hp), fun p hp => S.hp.out p (h.subset hp), hm.nodup_iff.mpr S.hp.nod, S.hp.top⟩, S.fm, ⟨S.fa.lb, fun z => S.fa.lw (hm.subset z), S.fa.cb, fun x c e z => S.fa.cw x c e (hm.subset z), S.fa.cl, S.fa.inj⟩, S.fr.mono (fun _ _ _ _ z => z) (fun a o l z w => z (hm.subset w)) (fun a o es ep _ _ e q => ⟨o, es, ep, e, q⟩)⟩,
    ⟨Ext.refl .., fun a z => .inl (hm.subset z)⟩⟩
theorem trF_perm {t : Sem Flow} {ρ : List (Str × D)} {ω ω' : Om} (hs : ω'.Perm ω) (h : TrF X A env ⟨ρ, ω'⟩ t Q) : TrF X A env ⟨ρ, ω⟩ t Q := fun s b S => by
  obtain ⟨S₂, E₂⟩ := S.perm hs
  exact wpAny_mono (h s b S₂) (fun f s' q => q.after E₂) (fun _ _ x => x)
/-! dicts -/
theorem valueAt_lookup {V : Type} (kvs : List (Str × Value)) (k : Str) : valueAt kvs k = kvs.lookup k := by
  unfold valueAt
  induction kvs with
  | nil => rfl
  | cons p r ih =>
    obtain ⟨x, v⟩ := p
    rw [List.find?_cons, List.lookup_cons]
    by_cases h : x = k
    · subst h; simp
    · have h1 : decide (x = k) = false := by simpa using h
      have h2 : (k == x) = false := by simpa using fun e : k = x => h e.symm
      simp only [h1, h2]; exact ih
/-- the dict that a value stands for -/
def Dct (X : Cx) (σ : Sg) (d : D) (kds : List (Str × D)) : Prop := d = .dct kds ∨ ∃ a, d = .raw (.ref a) ∧ (a, C.dct kds) ∈ σ.ω
theorem Dct.data {kds : List (Str × D)} : Dct X σ (.dct kds) kds := .inl rfl
theorem Dct.cell {a : Addr} {kds : List (Str × D)} (h : (a, C.dct kds) ∈ σ.ω) : Dct X σ (.raw (.ref a)) kds := .inr ⟨a, rfl, h⟩
theorem Dct.at {s : Shared} {b : Heap} {d : D} {kds : List (Str × D)} (l : Dct X σ d kds) (S : St X env σ b s) {v : Value} (r : Rp X b v d) :
    ∃ a kvs ep, v = .ref a ∧ (a == sysModules) = false ∧ s.heap.DictAt X.kd a kvs ep ∧ RpKv X b kvs kds := by
  rcases l with rfl | ⟨a, rfl, h⟩
  · cases r with
    | dct n g ra => exact ⟨_, _, _, rfl, n, g.keep S.hp.le, ra⟩
  · cases r
    obtain ⟨n, kvs, ep, g, ra⟩ := S.hp.cell _ h
    exact ⟨a, kvs, ep, rfl, n, g, ra⟩

theorem kdIs (k : Str) (t : Tok) : X.kd.is k (.str k t) = true := strKind_is X.prog X.w k t

theorem op_dget {vl sl : Expr} {d x : D} {k : Str} {kds : List (Str × D)} (l : Dct X σ d kds) (hx : kds.lookup k = some x) (p : P x σ)
    (hs : ∀ v u, subscripted sl false v (.str k u) = operate [v, .str k u] (getItem v (.str k u))) : Op X A env σ (subscriptTail vl sl) d (.str k) P := fun s b v w S rx ry => by
  cases ry
  rename_i tk
  obtain ⟨a, kvs, ep, rfl, n, g, ra⟩ := l.at S rx
  obtain ⟨v, hv, r⟩ := ra.lookup hx
  exact tail_any g.dictOf.typeIs slot_dict_getitem.lookup (wpAny_getItem_of (knd := X.kd) (kdIs k tk) g.dictOf.mapOf (by rw [valueAt_lookup (V := Value)]; exact hv) (Po.tok S r p)) (hs _ _)
theorem RpKv.isSome {b : Heap} {x : Str} {kvs : List (Str × Value)} {kds : List (Str × D)} (h : RpKv X b kvs kds) : (kvs.lookup x).isSome = (kds.lookup x).isSome := by
  cases q : kds.lookup x with
  | none => rw [h.lookup_none q]; rfl
  | some d => obtain ⟨v, e, _⟩ := h.lookup q; rw [e]; rfl
theorem op_din {d : D} {k : Str} {kds : List (Str × D)} (l : Dct X σ d kds) (p : P (.bool (kds.lookup k).isSome) σ) : Op X A env σ (compareOp .In) (.str k) d P := fun s b v w S rx ry => by
  cases rx
  rename_i tk
  obtain ⟨a, kvs, ep, rfl, n, g, ra⟩ := l.at S ry
  refine wpAny_in_of (knd := X.kd) (kdIs k tk) n g.dictOf.mapOf ?_
  rw [valueAt_lookup (V := Value), ra.isSome]
  exact Po.tok S (.bool _) p
theorem op_dnotin {d : D} {k : Str} {kds : List (Str × D)} (l : Dct X σ d kds) (p : P (.bool (!(kds.lookup k).isSome)) σ) : Op X A env σ (compareOp .NotIn) (.str k) d P := fun s b v w S rx ry => by
  cases rx
  rename_i tk
  obtain ⟨a, kvs, ep, rfl, n, g, ra⟩ := l.at S ry
  refine wpAny_notIn_of (knd := X.kd) (kdIs k tk) n g.dictOf.mapOf ?_
  rw [valueAt_lookup (V := Value), ra.isSome]
  exact Po.tok S (.bool _) p
theorem ob_dict {PB : Bool → Sg → Prop} {d : D} {kds : List (Str × D)} (l : Dct X σ d kds) (hz : kds.length ≤ sizeLine) (p : PB (!kds.isEmpty) σ) : OpB X A env σ truthy d PB := fun s b v S r => by
  obtain ⟨a, kvs, ep, rfl, n, g, ra⟩ := l.at S r
  have e := ra.length
  refine wpAny_truthy_dict n g.dictOf (by have : sizeLine = 2 ^ 24 := rfl; omega) ?_
  have : (!kvs.isEmpty) = !kds.isEmpty := by
    cases kvs <;> cases kds <;> first | rfl | (simp at e)
  exact PoB.tok S (this ▸ p)
theorem ob_str {PB : Bool → Sg → Prop} {x : Str} (hz : x.length ≤ sizeLine) (p : PB ((x.length : Int) != 0) σ) : OpB X A env σ truthy (.str x) PB := fun s b v S r => by
  cases r
  exact PySem.P.truthy_str (by have : sizeLine = 2 ^ 24 := rfl; omega) (PoB.tok S p)

/-- a store into a dict -/
def put (kds : List (Str × D)) (k : Str) (d : D) : List (Str × D) := if kds.any (fun kv => kv.1 = k) then kds.map (fun kv => if kv.1 = k then (kv.1, d) else kv) else kds ++ [(k, d)]
theorem RpKv.append {b : Heap} : ∀ {vs ws : List (Str × Value)} {ds es : List (Str × D)}, RpKv X b vs ds → RpKv X b ws es → RpKv X b (vs ++ ws) (ds ++ es)
  | _, _, _, _, .nil, q => q
  | _, _, _, _, .cons r p, q => .cons r (p.append q)
theorem RpKv.any {b : Heap} {k : Str} : ∀ {kvs : List (Str × Value)} {kds : List (Str × D)}, RpKv X b kvs kds → (kvs.any fun kv => kv.1 = k) = kds.any fun kv => kv.1 = k
  | _, _, .nil => rfl
  | _, _, .cons _ q => by simp only [List.any_cons, q.any]
theorem RpKv.subst {b : Heap} {k : Str} {v : Value} {d : D} (r : Rp X b v d) : ∀ {kvs : List (Str × Value)} {kds : List (Str × D)}, RpKv X b kvs kds → RpKv X b (kvs.map fun kv => if kv.1 = k then (kv.1, v) else kv) (kds.map fun kv => if kv.1 = k then (kv.1, d) else kv)
  | _, _, .nil => .nil
  | _, _, .cons r' q => by
    simp only [List.map_cons]
    split
    · exact .cons r (q.subst r)
    · exact .cons r' (q.subst r)
theorem RpKv.put {b : Heap} {kvs : List (Str × Value)} {kds : List (Str × D)} (h : RpKv X b kvs kds) {k : Str} {v : Value} {d : D} (r : Rp X b v d) : RpKv X b (stored kvs k v) (put kds k d) := by
  unfold stored Mine.put
  rw [h.any]
  split
  · exact h.subst r
  · exact h.append (.cons r .nil)
theorem put_new {kds : List (Str × D)} {k : Str} {d : D} (h : kds.lookup k = none) : put kds k d = kds ++ [(k, d)] := by
  unfold put
  have : (kds.any fun kv => decide (kv.1 = k)) = false := by
    rw [List.any_eq_false]
    rintro ⟨x, e⟩ hm
    induction kds with
    | nil => cases hm
    | cons p r ih =>
      obtain ⟨y, f⟩ := p
      rw [List.lookup_cons] at h
      cases z : (k == y) with
      | true => rw [z] at h; cases h
      | false =>
        rw [z] at h
        rcases List.mem_cons.mp hm with e' | e'
        · cases e'; simp; intro q; subst q; simp at z
        · exact ih h e'
  rw [this]; rfl

/-- d[k] = v into a cell -/
inductive QDs3 (v d : D) (Q : Fl → Sg → Prop) (k : D) (σ₃ : Sg) : Prop
  | mk (a : Addr) (x : Str) (kds : List (Str × D)) (ω' : Om) (e : d = .raw (.ref a)) (e2 : k = .str x) (u : Upd a (.dct kds) (.dct (put kds x v)) σ₃.ω ω') (z : kds.length ≤ sizeLine) (p : Q .next ⟨σ₃.ρ, ω'⟩)
abbrev QDs2 (X : Cx) (A : Around) (env : Env) (i : Expr) (v : D) (Q : Fl → Sg → Prop) : D → Sg → Prop := fun d σ₂ => Ev X A env σ₂ i (QDs3 v d Q)
abbrev QDs (X : Cx) (A : Around) (env : Env) (o i : Expr) (Q : Fl → Sg → Prop) : D → Sg → Prop := fun v σ₁ => Ev X A env σ₁ o (QDs2 X A env i v Q)
theorem ex_dset {o i value : Expr} {pos' pos : Pos}
    (h : Ev X A env σ value (QDs X A env o i Q))
    (hs : swapsWith value (some (.Subscript o i pos')) pos.line env = pure false) : Ex X A env σ (.Assign [.Subscript o i pos'] value pos) Q := fun s b S => by
  refine wpAny_Assign_Subscript (wpAny_mono (h s b S) ?_ fun _ _ x => x) hs
  rintro v s₁ ⟨dv, σ₁, b₁, E₁, S₁, r₁, h₁⟩
  refine wpAny_mono (h₁ s₁ b₁ S₁) ?_ fun _ _ x => x
  rintro ov s₂ ⟨d, σ₂, b₂, E₂, S₂, r₂, h₂⟩
  refine wpAny_mono (h₂ s₂ b₂ S₂) ?_ fun _ _ x => x
  rintro iv s₃ ⟨k, σ₃, b₃, E₃, S₃, r₃, a, x, kds, ω', rfl, rfl, u, hz, p⟩
  cases r₂
  cases r₃
  rename_i tk
  obtain ⟨n, kvs, ep, g, ra⟩ := S₃.hp.cell _ u.mem
  have e := ra.length
  refine wpAny_setItem_pairs (knd := X.kd) (hsz := by omega) (kdIs x tk) g.dictOf fun h' hm hs => ?_
  obtain ⟨ep', hm'⟩ := hm.dictAt
  have rv : Rp X b₃ v dv := (r₁.mono E₂.ext.le).mono E₃.ext.le
  obtain ⟨S₄, E₄⟩ := S₃.setCell (h' := h') u hs ⟨n, _, ep', hm', ra.put rv⟩ (s₃.toks + 1)
  exact ⟨.next, _, b₃, ((E₁.trans E₂).trans E₃).trans E₄, S₄, trivial, p⟩

/-! sorted -/
theorem rpAll_strs {b : Heap} : ∀ {vs : List Value} {ss : List Str}, RpAll X b vs (ss.map D.str) → StrsAre vs ss
  | vs, [], h => by cases h; exact .nil
  | vs, c :: r, h => by
    cases h with
    | cons h q => cases h; exact .cons _ _ (rpAll_strs q)
theorem strs_rpAll {b : Heap} : ∀ {vs : List Value} {ss : List Str}, StrsAre vs ss → RpAll X b vs (ss.map D.str)
  | _, _, .nil => .nil
  | _, _, .cons _ _ q => .cons (.str ..) (strs_rpAll q)
theorem ol_sorted {d : D} {ss : List Str} (l : Lst X σ d (ss.map D.str)) (h64 : ss.length < 64) (p : ∀ ss' : List Str, ss'.Perm ss → sortedS ss' = true → P (.list (ss'.map D.str)) σ) : OpL X A env σ (fun vs => call (.builtin "sorted") vs) [d] P := fun s b vs S r => by
  cases r with
  | cons r q =>
  cases q
  obtain ⟨a, vs, k, rfl, g, ra⟩ := l.at S r
  have hl : s.heap.IsList a vs.toList.toArray := by simpa using isList_of g
  have hlen := ra.length
  refine sorted_strs hl (rpAll_strs ra) (by rw [hlen]; simpa using h64) fun out ss' h1 h2 h3 => ?_
  obtain ⟨e, he⟩ := sortedAll_at s.heap vs.toList out
  have hle : Le s.heap (sortedAll s.heap vs.toList out) := fun _ _ => sortedAll_old
  obtain ⟨S₁, E₁⟩ := S.extend (h' := sortedAll s.heap vs.toList out) (b' := grow b (sortedAll s.heap vs.toList out) (· == s.heap.objs.size + 1)) (tk := s.toks) hle (grow_le (S.hp.le.trans hle)) grow_in (fun y o q => by
    rcases grow_new q with z | z
    · exact .inl z
    · refine .inr ?_
      rw [beq_iff_eq.mp z]
      cases q : s.heap.get? (s.heap.objs.size + 1) with
      | none => rfl
      | some o => exact absurd (Heap.lt_size q) (Nat.not_lt.mpr (Nat.le_succ _)))
  exact ⟨.list (ss'.map D.str), σ, _, E₁, S₁, .list (grow_get (by simp) he) (strs_rpAll h1), p ss' h2 h3⟩
end Mine

namespace Mine
open PySem PySem.W PySem.Calls PyProof.Rows
variable {X : Cx} {A : Around} {env : Env} {σ : Sg} {P : D → Sg → Prop} {Q : Fl → Sg → Prop}

/-! freezing, in general: the objects at fz turn no more; what the names and cells say of them may be told anew -/
def Ret (X : Cx) (ω : Om) (fz : List Addr) (d d' : D) : Prop := ∀ (h b b' : Heap), (∀ p ∈ ω, CellAt X b h p.1 p.2) → Le b b' → (∀ a ∈ fz, ∀ o, h.get? a = some o → b'.get? a = some o) → ∀ v, Rp X b v d → Rp X b' v d'
inductive RetAll (X : Cx) (ω : Om) (fz : List Addr) : List D → List D → Prop
  | nil : RetAll X ω fz [] []
  | cons {d d' r r'} : Ret X ω fz d d' → RetAll X ω fz r r' → RetAll X ω fz (d :: r) (d' :: r')
inductive RetKv (X : Cx) (ω : Om) (fz : List Addr) : List (Str × D) → List (Str × D) → Prop
  | nil : RetKv X ω fz [] []
  | cons {k d d' r r'} : Ret X ω fz d d' → RetKv X ω fz r r' → RetKv X ω fz ((k, d) :: r) ((k, d') :: r')
variable {ω : Om} {fz : List Addr}
theorem Ret.same (d : D) : Ret X ω fz d d := fun h b b' hc hb hf v r => r.mono hb
theorem RetAll.same : ∀ ds : List D, RetAll X ω fz ds ds
  | [] => .nil
  | d :: r => .cons (.same d) (RetAll.same r)
theorem RetKv.same : ∀ ds : List (Str × D), RetKv X ω fz ds ds
  | [] => .nil
  | (k, d) :: r => .cons (.same d) (RetKv.same r)
theorem RetAll.rp {ds ds' : List D} (x : RetAll X ω fz ds ds') {h b b' : Heap} (hc : ∀ p ∈ ω, CellAt X b h p.1 p.2) (hb : Le b b') (hf : ∀ a ∈ fz, ∀ o, h.get? a = some o → b'.get? a = some o) : ∀ {vs : List Value}, RpAll X b vs ds → RpAll X b' vs ds' := by
  induction x with
  | nil => intro vs r; cases r; exact .nil
  | cons x _ ih => intro vs r; cases r with | cons r q => exact .cons (x h b b' hc hb hf _ r) (ih q)
theorem RetKv.rp {ds ds' : List (Str × D)} (x : RetKv X ω fz ds ds') {h b b' : Heap} (hc : ∀ p ∈ ω, CellAt X b h p.1 p.2) (hb : Le b b') (hf : ∀ a ∈ fz, ∀ o, h.get? a = some o → b'.get? a = some o) : ∀ {vs : List (Str × Value)}, RpKv X b vs ds → RpKv X b' vs ds' := by
  induction x with
  | nil => intro vs r; cases r; exact .nil
  | cons x _ ih => intro vs r; cases r with | cons r q => exact .cons (x h b b' hc hb hf _ r) (ih q)
theorem Ret.lst {a : Addr} {ds ds' : List D} (hm : (a, C.lst ds) ∈ ω) (ha : a ∈ fz) (x : RetAll X ω fz ds ds') : Ret X ω fz (.raw (.ref a)) (.list ds') := fun h b b' hc hb hf v r => by
  cases r
  obtain ⟨vs, n, g, ra⟩ := hc _ hm
  exact .list (hf a ha _ g) (x.rp hc hb hf ra)
theorem Ret.dct {a : Addr} {ds ds' : List (Str × D)} (hm : (a, C.dct ds) ∈ ω) (ha : a ∈ fz) (x : RetKv X ω fz ds ds') : Ret X ω fz (.raw (.ref a)) (.dct ds') := fun h b b' hc hb hf v r => by
  cases r
  obtain ⟨n, kvs, ep, g, ra⟩ := hc _ hm
  exact .dct n (g.at' fun o e => hf a ha o e) (x.rp hc hb hf ra)
theorem Ret.inst {c d : Addr} {ds ds' : List (Str × D)} (hm : (d, C.dct ds) ∈ ω) (ha : d ∈ fz) (x : RetKv X ω fz ds ds') : Ret X ω fz (.obj c d) (.inst c ds') := fun h b b' hc hb hf v r => by
  cases r with
  | obj g0 =>
  obtain ⟨n, kvs, ep, g, ra⟩ := hc _ hm
  exact .inst (hb _ _ g0) n (g.at' fun o e => hf d ha o e) (x.rp hc hb hf ra)
theorem Ret.tup2 {ds ds' : List D} (x : RetAll X ω fz ds ds') : Ret X ω fz (.tup ds) (.tup ds') := fun h b b' hc hb hf v r => by
  cases r with
  | tup g ra => exact .tup (hb _ _ g) (x.rp hc hb hf ra)
def RetC (X : Cx) (ω : Om) (fz : List Addr) : C → C → Prop
  | .lst ds, .lst ds' => RetAll X ω fz ds ds'
  | .dct ds, .dct ds' => RetKv X ω fz ds ds'
  | _, _ => False
theorem RetC.cell {c c' : C} (x : RetC X ω fz c c') {a : Addr} {h b b' : Heap} (hc : ∀ p ∈ ω, CellAt X b h p.1 p.2) (hb : Le b b') (hf : ∀ a ∈ fz, ∀ o, h.get? a = some o → b'.get? a = some o) (z : CellAt X b h a c) : CellAt X b' h a c' := by
  cases c with
  | lst ds => cases c' with
    | lst ds' => obtain ⟨vs, n, g, ra⟩ := z; exact ⟨vs, n, g, RetAll.rp x hc hb hf ra⟩
    | dct _ => exact x.elim
  | dct ds => cases c' with
    | lst ds' => exact x.elim
    | dct ds' => obtain ⟨n, kvs, ep, g, ra⟩ := z; exact ⟨n, kvs, ep, g, RetKv.rp x hc hb hf ra⟩

theorem St.refreeze {ρ ρ' : List (Str × D)} {ω ω' : Om} {s : Shared} {b : Heap} (S : St X env ⟨ρ, ω⟩ b s) (fz : List Addr) (hfz : ∀ a ∈ fz, a ∈ ω.map (·.1)) (hω : ∀ p ∈ ω', p.1 ∉ fz ∧ ∃ c, (p.1, c) ∈ ω ∧ RetC X ω fz c p.2) (hn : (ω'.map (·.1)).Nodup)
    (hρ : ∀ x d', ρ'.lookup x = some d' → ∃ d, ρ.lookup x = some d ∧ Ret X ω fz d d') :
    ∃ b', Le b b' ∧ St X env ⟨ρ', ω'⟩ b' s ∧ Evo X env ⟨ρ, ω⟩ ⟨ρ', ω'⟩ s b s b' ∧ (∀ a ∈ fz, ∀ o, s.heap.get? a = some o → b'.get? a = some o) := by
  have hle : Le b (grow b s.heap (fun a => fz.contains a)) := grow_le S.hp.le
  have hg : ∀ a ∈ fz, ∀ o, s.heap.get? a = some o → (grow b s.heap (fun a => fz.contains a)).get? a = some o := fun a ha o e => grow_get (by simpa using ha) e
  have hnone : ∀ x, x ∉ fz → b.get? x = none → (grow b s.heap (fun a => fz.contains a)).get? x = none := fun x hx e => grow_none (by simpa using hx) e
  have hmem : ∀ x, x ∈ ω'.map (·.1) → x ∈ ω.map (·.1) := fun x hx => by
    obtain ⟨p, hp, rfl⟩ := List.mem_map.mp hx
    obtain ⟨_, c, hc, _⟩ := hω p hp
    exact List.mem_map_of_mem (f := (·.1)) hc
  refine ⟨_, hle, ⟨S.ok, ⟨grow_in, fun p hp => ?_, fun p hp => ?_, hn, S.hp.top.mono hle⟩, ?_, ?_, S.fr.mono (fun x o z l e => hnone x (fun w => z (hfz x w)) e) (fun x o l z w => z (hmem x w)) (fun x o es ep _ _ e q => ⟨o, es, ep, e, q⟩)⟩, ?_, hg⟩
  · obtain ⟨_, c, hc, hr⟩ := hω p hp
    exact hr.cell S.hp.cell hle hg (S.hp.cell _ hc)
  · obtain ⟨h1, c, hc, hr⟩ := hω p hp
    exact hnone _ h1 (S.hp.out (p.1, c) hc)
  · obtain ⟨⟨m, hm, hv'⟩, cl, cx⟩ := S.fm
    refine ⟨⟨m, hm, fun x d k e => ?_⟩, fun x d k e => ?_, cx⟩
    · obtain ⟨d₀, e', r⟩ := hρ x d e
      obtain ⟨v, h1, h2⟩ := hv' x d₀ k e'; exact ⟨v, h1, r _ _ _ S.hp.cell hle hg v h2⟩
    · obtain ⟨d₀, e', r⟩ := hρ x d e
      obtain ⟨c, v, h1, h2, h3⟩ := cl x d₀ k e'; exact ⟨c, v, h1, h2, r _ _ _ S.hp.cell hle hg v h3⟩
  · refine ⟨hnone _ (fun z => S.fa.lw (hfz _ z)) S.fa.lb, fun h => S.fa.lw (hmem _ h), fun x c e => hnone _ (fun z => S.fa.cw x c e (hfz _ z)) (S.fa.cb x c e), fun x c e h => S.fa.cw x c e (hmem _ h), S.fa.cl, S.fa.inj⟩
  · refine ⟨⟨fun _ _ _ e => kept e, hle, fun x o e => ?_, fun x o e => ⟨o, e⟩, rfl, rfl⟩, fun x h => .inl (hmem x h)⟩
    rcases grow_new e with q | q
    · exact .inl q
    · exact .inr (.inr (.inr (.inr (hfz _ (by simpa using q)))))
theorem trF_refreeze {t : Sem Flow} {ρ ρ' : List (Str × D)} {ω ω' : Om} (fz : List Addr) (hfz : ∀ a ∈ fz, a ∈ ω.map (·.1)) (hω : (ω.map (·.1)).Nodup → (∀ p ∈ ω', p.1 ∉ fz ∧ ∃ c, (p.1, c) ∈ ω ∧ RetC X ω fz c p.2) ∧ (ω'.map (·.1)).Nodup)
    (hρ : ∀ x d', ρ'.lookup x = some d' → ∃ d, ρ.lookup x = some d ∧ Ret X ω fz d d') (h : TrF X A env ⟨ρ', ω'⟩ t Q) : TrF X A env ⟨ρ, ω⟩ t Q := fun s b S => by
  obtain ⟨b₂, l₂, S₂, E₂, _⟩ := S.refreeze (ρ' := ρ') fz hfz (hω S.hp.nod).1 (hω S.hp.nod).2 hρ
  exact wpAny_mono (h s b₂ S₂) (fun f s' q => q.after E₂) (fun _ _ x => x)
theorem tr_refreeze {t : Sem Value} (h : Tr X A env σ t (fun d σ₁ => ∃ fz d' ω', (∀ a ∈ fz, a ∈ σ₁.ω.map (·.1)) ∧ ((σ₁.ω.map (·.1)).Nodup → (∀ p ∈ ω', p.1 ∉ fz ∧ ∃ c, (p.1, c) ∈ σ₁.ω ∧ RetC X σ₁.ω fz c p.2) ∧ (ω'.map (·.1)).Nodup) ∧ Ret X σ₁.ω fz d d' ∧ P d' ⟨σ₁.ρ, ω'⟩)) : Tr X A env σ t P := fun s b S => by
  refine wpAny_mono (h s b S) ?_ (fun _ _ x => x)
  rintro v s₁ ⟨d, ⟨ρ₁, ω₁⟩, b₁, E₁, S₁, r₁, fz, d', ω', hfz, hω, hr, p⟩
  obtain ⟨b₂, l₂, S₂, E₂, g₂⟩ := S₁.refreeze (ρ' := ρ₁) fz hfz (hω S₁.hp.nod).1 (hω S₁.hp.nod).2 (fun x d e => ⟨d, e, .same d⟩)
  exact ⟨d', _, b₂, E₁.trans E₂, S₂, hr _ _ _ S₁.hp.cell l₂ g₂ v r₁, p⟩

theorem St.freezeD {s : Shared} {b : Heap} (S : St X env σ b s) {a : Addr} {kds : List (Str × D)} {ω' : Om} {ρ' : List (Str × D)} (ha : (a, C.dct kds) ∈ σ.ω) (hω : ∀ p ∈ ω', p ∈ σ.ω ∧ p.1 ≠ a) (hn : (ω'.map (·.1)).Nodup)
    (hρ : ∀ x d, ρ'.lookup x = some d → σ.ρ.lookup x = some d ∨ False) :
    ∃ b', Le b b' ∧ St X env ⟨ρ', ω'⟩ b' s ∧ Evo X env σ ⟨ρ', ω'⟩ s b s b' ∧ Rp X b' (.ref a) (.dct kds) := by
  obtain ⟨b', h1, h2, h3, h4⟩ := S.refreeze (ρ := σ.ρ) (ω := σ.ω) (ρ' := ρ') (ω' := ω') [a] (fun x hx => by rw [List.mem_singleton.mp hx]; exact List.mem_map_of_mem (f := (·.1)) ha)
    (fun p hp => ⟨by simpa using (hω p hp).2, p.2, (hω p hp).1, by cases p.2 with | lst ds => exact RetAll.same ds | dct ds => exact RetKv.same ds⟩) hn (fun x d e => ⟨d, (hρ x d e).elim id False.elim, .same d⟩)
  exact ⟨b', h1, h2, h3, Ret.dct ha (.head _) (.same _) _ _ _ S.hp.cell h1 h4 _ (.raw _)⟩

theorem cell_new {s : Shared} {b : Heap} (S : St X env σ b s) : CellAt X b (s.heap.push emptyDict) s.heap.objs.size (.dct []) := by
  refine ⟨?_, [], 0, ⟨_, #[], Heap.get?_push_size _ rfl, ⟨rfl, rfl, rfl⟩, rfl, ?_, .nil, .nil⟩, .nil⟩
  · have h1 : sysModules < s.heap.objs.size := by
      obtain ⟨o, _, _, e, _⟩ := S.hp.top.tr.g
      exact Nat.lt_of_le_of_lt (by decide) (Heap.lt_size (S.hp.le _ _ e))
    simpa using fun e : s.heap.objs.size = sysModules => absurd h1 (by rw [e]; exact Nat.lt_irrefl _)
  · intro e he; simp at he
inductive CompEndD (X : Cx) (env : Env) (σ : Sg) (s : Shared) (b : Heap) (P : D → Sg → Prop) (acc C : Addr) (s' : Shared) : Prop
  | mk (out : List (Str × D)) (ω' : Om) (b' : Heap) (E : Evo X env σ ⟨σ.ρ, ω'⟩ s b s' b') (S : St X env ⟨σ.ρ, ω'⟩ b' s') (r : Rp X b' (.ref acc) (.dct out)) (p : P (.dct out) ⟨σ.ρ, ω'⟩) (a : Apart X [C] env ω' b') (n : s.heap.get? C = none) (m : ∃ m, s'.heap.Ns C m)

theorem compLoop_anyD {kx vx target iter : Expr} {ifs : List Expr} {scope : Scope} {pos : Pos} {it : Value} {acc : Addr} {cenv : Env} {R : Result → Shared → Prop} (I : Nat → Shared → Prop) {s : Shared}
    (turn : ∀ n s, I n s → wpAny X.M A (pyNext it) (fun r s₁ => match r with
      | none => R (.ok .next) s₁
      | some v => wpAny X.M A (letOwnedTupleGo target it v) (fun _ s₂ => wpAny X.M A (assign target cenv v) (fun _ s₃ =>
          wpAny X.M A (forIn ifs true fun c r => if r = true then do let ok ← isTrue c cenv (eval c cenv); pure (ForInStep.yield ok) else pure (ForInStep.yield r)) (fun ok s₄ =>
            if ok = true then wpAny X.M A (eval kx cenv) (fun kv s₅ => wpAny X.M A (eval vx cenv) (fun x s₆ => wpAny X.M A (dictSet acc kv x) (fun _ s₇ => ∃ m, m < n ∧ I m s₇) Never s₆) Never s₅) Never s₄
            else ∃ m, m < n ∧ I m s₄) Never s₃) Never s₂) Never s₁) Never s)
    (n : Nat) (h : I n s) : codeAny X.M A (.compLoop (.DictComp kx vx [⟨target, iter, ifs, 0⟩] scope pos) 0 it (.ref acc) cenv) R s := by
  refine codeAny_loop rfl I (fun n s hI => ?_) n h
  show wpAny _ A ((compTurn (.DictComp kx vx [⟨target, iter, ifs, 0⟩] scope pos) 0 it (.ref acc) cenv).onRaise (fun x => do noteFrame x cenv; theTreesLotGoes x)) _ _ s
  refine wpAny_noted ?_
  rw [compTurn_dict]
  refine wpAny_bind (wpAny_standAt (wpAny_bind (wpAny_mono (turn n s hI) (fun r s₁ h₁ => ?_) fun _ _ h' => h'.elim)))
  cases r with
  | none => exact wpAny_pure h₁
  | some v =>
    refine wpAny_bind (wpAny_mono h₁ (fun _ s₂ h₂ => wpAny_bind (wpAny_mono h₂ (fun _ s₃ h₃ => wpAny_bind (wpAny_mono h₃ (fun ok s₄ h₄ => ?_) fun _ _ h' => h'.elim)) fun _ _ h' => h'.elim)) fun _ _ h' => h'.elim)
    cases ok with
    | false => exact wpAny_pure ⟨rfl, h₄⟩
    | true =>
      exact wpAny_bind (wpAny_bind (wpAny_mono h₄ (fun kv s₅ h₅ => wpAny_bind (wpAny_holding (wpAny_mono h₅ (fun vv s₆ h₆ => wpAny_bind (wpAny_standAt (wpAny_holding (wpAny_mono h₆ (fun _ s₇ h₇ => wpAny_pure ⟨rfl, h₇⟩) fun _ _ h' => h'.elim)))) fun _ _ h' => h'.elim))) fun _ _ h' => h'.elim))

theorem comp_coreD {kx vx target iter : Expr} {ifs : List Expr} {scope : Scope} {pos : Pos} (seq : Sg → Option (List D)) (N : Nat) (Inv : Nat → List (Str × D) → Om → Prop)
    (ok : CompOk scope env)
    (hsrc : Src X A env σ iter target seq (fun σ₁ => σ₁.ρ = σ.ρ ∧ Inv 0 [] σ₁.ω))
    (hN : ∀ i out ω acc, Inv i out ω → ∃ ds, seq ⟨pick (freesOf scope) σ.ρ, (acc, .dct out) :: ω⟩ = some ds ∧ ds.length ≤ N)
    (hout : ∀ i out ω, Inv i out ω → out.length ≤ sizeLine)
    (step : ∀ cl C acc i out ω ds d, Inv i out ω → seq ⟨pick (freesOf scope) σ.ρ, (acc, .dct out) :: ω⟩ = some ds → ds[i]? = some d →
      Asg X A (compEnvC scope cl C env) ⟨pick (freesOf scope) σ.ρ, (acc, .dct out) :: ω⟩ target d (fun σ₁ => TsB X A (compEnvC scope cl C env) σ₁ ifs (fun c σ₂ =>
        if c = true then Ev X A (compEnvC scope cl C env) σ₂ kx (fun kr σ₃ => Ev X A (compEnvC scope cl C env) σ₃ vx (fun r σ₄ => ∃ k ω', kr = .str k ∧ σ₄.ω = (acc, .dct out) :: ω' ∧ Inv (i + 1) (put out k r) ω'))
        else ∃ ω', σ₂.ω = (acc, .dct out) :: ω' ∧ Inv (i + 1) out ω')))
    (fin : ∀ i out ω ds acc, Inv i out ω → seq ⟨pick (freesOf scope) σ.ρ, (acc, .dct out) :: ω⟩ = some ds → ds[i]? = none → P (.dct out) ⟨σ.ρ, ω⟩) :
    ∀ s b, St X env σ b s → wpAny X.M A (eval iter env) (fun x s₁ => wpAny X.M A (pyIter x) (fun it s₂ => wpAny X.M A newDict (fun acc s₃ =>
      wpAny X.M A (newFunctionEnv scope env.globals (clo env.cells scope.names []) [] env.qual none .none (some env)) (fun cenv s₄ =>
        codeAny X.M A (.compStart (.DictComp kx vx [⟨target, iter, ifs, 0⟩] scope pos) 0 it acc { cenv with scope := relabel scope env }) (fun r s' => ∃ f a, r = .ok f ∧ acc = .ref a ∧ CompEndD X env σ s b P a cenv.locals s') s₄)
        Never s₃) Never s₂) Never s₁) Never s := by
  intro s b S
  refine wpAny_mono (hsrc s b S) ?_ (fun _ _ x => x)
  intro x s₁ hx
  refine wpAny_mono hx ?_ (fun _ _ x => x)
  rintro it s₂ ⟨σ₁, b₁, own, J, E₂, S₂, ap₂, hfr, I, hJ, hρ, hI0⟩
  obtain ⟨ρ₁, ω₁⟩ := σ₁
  dsimp only at hρ hI0 ap₂
  subst hρ
  -- the list that is filled
  have hacc := S₂.allocC emptyDict (.dct []) (cell_new S₂)
  obtain ⟨S₃, E₃⟩ := hacc
  refine wpAny_bind (wpAny_alloc (wpAny_pure ?_))
  generalize hacc : s₂.heap.objs.size = acc at S₃ E₃ ⊢
  have accNone : s₂.heap.get? acc = none := hacc ▸ fresh_none _
  generalize hs₃ : ({ s₂ with heap := s₂.heap.push (emptyDict) } : Shared) = s₃ at S₃ E₃ ⊢
  have S₃' : St X env ⟨σ.ρ, (acc, .dct []) :: ω₁⟩ b₁ s₃ := S₃
  have E₃' : Evo X env ⟨σ.ρ, ω₁⟩ ⟨σ.ρ, (acc, .dct []) :: ω₁⟩ s₂ b₁ s₃ b₁ := E₃
  have ap₃ : Apart X own env ((acc, C.dct []) :: ω₁) b₁ := ap₂.after (σ := ⟨σ.ρ, ω₁⟩) (σ' := ⟨σ.ρ, (acc, .dct []) :: ω₁⟩) E₃' (I.live _ _ hJ)
  have hJ₃ : J 0 s₃.heap := I.frame _ _ _ hJ fun a ha o e => ap₂.keep (σ := ⟨σ.ρ, ω₁⟩) E₃' ha e
  -- the block's own names
  refine wpAny_newFunctionEnv ok.noCell (by intro y hy; cases hy) (fun h₄ hns hsb => ?_) ok.kind
  obtain ⟨hv, CNone, CNone₀, hle₄, hvle, hvn, SV, EV, back, SC, apC⟩ := comp_setup ok S E₂ S₃' E₃' ap₃ hfr (I.live _ _ hJ₃) hns hsb
  have hJ₄ : J 0 h₄ := I.frame _ _ _ hJ₃ fun a ha o e => hle₄ _ _ e
  generalize hC : s₃.heap.objs.size = cA at hns hsb CNone CNone₀ back SC apC ⊢
  show codeAny X.M A (.compStart _ 0 it (.ref acc) (compEnvC scope (clo env.cells scope.names []) cA env)) _ _
  generalize hcl : clo env.cells scope.names [] = cl at back SC apC ⊢
  -- the turns
  let RR : Result → Shared → Prop := fun r s' => ∃ f a, r = .ok f ∧ Value.ref acc = .ref a ∧ CompEndD X env σ s b P a cA s'
  have loop : codeAny X.M A (.compLoop (.DictComp kx vx [⟨target, iter, ifs, 0⟩] scope pos) 0 it (.ref acc) (compEnvC scope cl cA env)) RR { s₃ with heap := h₄, toks := s₃.toks + 0 } := by
    let II : Nat → Shared → Prop := CmpI C.dct X (compEnvC scope cl cA env) own J Inv (pick (freesOf scope) σ.ρ) acc (.dct []) ω₁ { s₃ with heap := hv, toks := s₃.toks + 0 } b₁ N
    refine compLoop_anyD II ?_ (N + 1)
      ⟨0, [], ω₁, b₁, rfl, Nat.zero_le _, hI0, SC, ⟨⟨fun a o _ e => kept (hvle _ _ e), Le.refl _, fun a o e => .inl ⟨o, e⟩, fun a o e => ⟨o, hvle _ _ e⟩, rfl, rfl⟩, fun a h => .inl h⟩, hJ₄, apC⟩
    rintro n s' ⟨i, out, ω', b', rfl, hi, hinv, S', E', hJ', ap'⟩
    obtain ⟨ds, hds, hlen⟩ := hN i out ω' acc hinv
    cases hc : ds[i]? with
    | none =>
      refine wpAny_mono (I.done _ _ i ds s' b' S' E'.ext.le hJ' hds hc ap') ?_ (fun _ _ x => x.elim)
      rintro r s'' ⟨rfl, h₅, tk₅, rfl, hk₅⟩
      refine ⟨.next, acc, rfl, rfl, ?_⟩
      obtain ⟨L₆, F₆, AP, hNs⟩ := comp_done (tk₅ := tk₅) CNone CNone₀ S₃' ap₃ hfr SV EV S' E' ap' hk₅
      have hnd := L₆.hp.nod
      simp only [List.map_cons, List.nodup_cons] at hnd
      obtain ⟨b₇, l₇, S₇, E₇, r₇⟩ := L₆.freezeD (a := acc) (kds := out) (ω' := ω') (ρ' := σ.ρ) (.head _) (fun p hp => ⟨.tail _ hp, fun z => hnd.1 (z ▸ List.mem_map_of_mem hp)⟩) hnd.2 (fun x d e => .inl e)
      refine ⟨out, ω', b₇, F₆.trans E₇, S₇, r₇, fin i out ω' ds acc hinv hds hc, AP ω' b₇ (fun z => List.mem_cons_of_mem _ z) (fun o q => E₇.ext.new cA o q), CNone₀, hNs⟩
    | some d =>
      refine wpAny_mono (I.item _ _ i ds d s' b' S' E'.ext.le hJ' hds hc ap') ?_ (fun _ _ x => x.elim)
      rintro r s'' ⟨v', rfl, hw⟩
      refine wpAny_mono hw ?_ (fun _ _ x => x.elim)
      rintro _ s₅ ⟨h₅, b₅, tk₅, rfl, hJ₅, hk₅, hbb, hin, hnew, r₅⟩
      have S₅ := S'.other (h' := h₅) (b' := b₅) (tk := tk₅) ap' hk₅ hbb hin hnew
      have E₅ := E'.other (h' := h₅) (b' := b₅) (tk := tk₅) hvn hk₅ hbb hnew
      have ap₅b : ∀ a ∈ own, b₅.get? a = none := fun a ha => by
        cases q : b₅.get? a with
        | none => rfl
        | some o =>
          obtain ⟨oo, hoo⟩ := I.live _ _ hJ' a ha
          rcases hnew a o q with ⟨o', z⟩ | z
          · rw [ap'.b a ha] at z; cases z
          · rw [hoo] at z; cases z
      have ap₅ : Apart X own (compEnvC scope cl cA env) ((acc, .dct out) :: ω') b₅ := ⟨ap'.w, ap₅b, ap'.l, ap'.c, ap'.f⟩
      have hlt : i < N := Nat.lt_of_lt_of_le (by simpa using (List.getElem?_eq_some_iff.mp hc).1) hlen
      refine wpAny_mono (step cl cA acc i out ω' ds d hinv hds hc _ b₅ v' S₅ r₅) ?_ (fun _ _ x => x.elim)
      rintro _ s₆ ⟨σ₆, b₆, E₆, S₆, h₆⟩
      have ap₆ := ap₅.after E₆ (I.live _ _ hJ₅)
      have hJ₆ := I.frame _ _ s₆.heap hJ₅ (fun a ha o e => ap₅.keep E₆ ha e)
      refine wpAny_mono (h₆ s₆ b₆ S₆) ?_ (fun _ _ x => x.elim)
      rintro c s₇ ⟨σ₇, b₇, E₇, S₇, h₇⟩
      have ap₇ := ap₆.after E₇ (I.live _ _ hJ₆)
      have hJ₇ := I.frame _ _ s₇.heap hJ₆ (fun a ha o e => ap₆.keep E₇ ha e)
      cases c with
      | false =>
        simp only [Bool.false_eq_true, if_false] at h₇ ⊢
        obtain ⟨ω₇, hω₇, hinv₇⟩ := h₇
        obtain ⟨ρ₇, ω₇'⟩ := σ₇
        dsimp only at hω₇; subst hω₇
        have E₅₇ := (E₅.trans E₆).trans E₇
        refine ⟨N + 1 - (i + 1), by omega, i + 1, out, ω₇, b₇, rfl, hlt, hinv₇, back _ _ _ _ S₇ E₅₇, ⟨E₅₇.ext, E₅₇.dom⟩, hJ₇, ap₇⟩
      | true =>
        simp only [if_true] at h₇ ⊢
        refine wpAny_mono (h₇ s₇ b₇ S₇) ?_ (fun _ _ x => x.elim)
        rintro kv s₇' ⟨kr, σ₇', b₇', E₇', S₇', r₇', h₇'⟩
        have ap₇' := ap₇.after E₇' (I.live _ _ hJ₇)
        have hJ₇' := I.frame _ _ s₇'.heap hJ₇ (fun a ha o e => ap₇.keep E₇' ha e)
        refine wpAny_mono (h₇' s₇' b₇' S₇') ?_ (fun _ _ x => x.elim)
        rintro x s₈ ⟨dx, σ₈, b₈, E₈', S₈, r₈, kk, ω₈, rfl, hω₈, hinv₈⟩
        have ap₈ := ap₇'.after E₈' (I.live _ _ hJ₇')
        have hJ₈ := I.frame _ _ s₈.heap hJ₇' (fun a ha o e => ap₇'.keep E₈' ha e)
        have E₈ := E₇'.trans E₈'
        obtain ⟨ρ₈, ω₈'⟩ := σ₈
        dsimp only at hω₈; subst hω₈
        obtain ⟨hns, kvs, ep, hg, hr⟩ := S₈.hp.cell _ (.head _)
        have hz : kvs.length ≤ sizeLine := by
          have h1 := hr.length
          have h2 := hout _ _ _ hinv
          omega
        cases r₇'
        rename_i tk
        refine wpAny_dictSet_pairs (knd := X.kd) (hsz := hz) (kdIs kk tk) hg.dictOf fun h₉ hl₉ hs₉ => ?_
        obtain ⟨ep₉, g₉⟩ := hl₉.dictAt
        obtain ⟨S₉, E₉⟩ := S₈.setCell (c' := .dct (put out kk dx)) .head hs₉ ⟨hns, _, ep₉, g₉, hr.put r₈⟩ (s₈.toks + 1)
        have ap₉ := ap₈.after E₉ (I.live _ _ hJ₈)
        have hJ₉ := I.frame _ _ h₉ hJ₈ (fun a ha o e => ap₈.keep E₉ ha e)
        have E₅₉ := (((E₅.trans E₆).trans E₇).trans E₈).trans E₉
        refine ⟨N + 1 - (i + 1), by omega, i + 1, put out kk dx, ω₈, b₈, rfl, hlt, hinv₈, back _ _ _ _ S₉ E₅₉, ⟨E₅₉.ext, E₅₉.dom⟩, hJ₉, ap₉⟩
  refine codeAny_compStart_dict loop ?_
  refine wpAny_mono (I.self 0 _ (fun v s' => v = it ∧ s' = { s₃ with heap := h₄, toks := s₃.toks + 0 }) Never hJ₄ ⟨rfl, rfl⟩) ?_ (fun _ _ x => x.elim)
  rintro v s' ⟨rfl, rfl⟩
  exact loop
end Mine

namespace Mine
open PySem PySem.W PySem.Calls PyProof.Rows
variable {X : Cx} {A : Around} {env : Env} {σ : Sg} {P : D → Sg → Prop} {Q : Fl → Sg → Prop}

/-- what a comprehension over one clause asks -/
structure CompPreD (X : Cx) (A : Around) (env : Env) (σ : Sg) (kx vx target iter : Expr) (ifs : List Expr) (scope : Scope) (P : D → Sg → Prop) (seq : Sg → Option (List D)) (N : Nat) (Inv : Nat → List (Str × D) → Om → Prop) : Prop where
  src : Src X A env σ iter target seq (fun σ₁ => σ₁.ρ = σ.ρ ∧ Inv 0 [] σ₁.ω)
  len : ∀ i out ω acc, Inv i out ω → ∃ ds, seq ⟨pick (freesOf scope) σ.ρ, (acc, .dct out) :: ω⟩ = some ds ∧ ds.length ≤ N
  outLen : ∀ i out ω, Inv i out ω → out.length ≤ sizeLine
  step : ∀ cl C acc i out ω ds d, Inv i out ω → seq ⟨pick (freesOf scope) σ.ρ, (acc, .dct out) :: ω⟩ = some ds → ds[i]? = some d →
      Asg X A (compEnvC scope cl C env) ⟨pick (freesOf scope) σ.ρ, (acc, .dct out) :: ω⟩ target d (fun σ₁ => TsB X A (compEnvC scope cl C env) σ₁ ifs (fun c σ₂ =>
        if c = true then Ev X A (compEnvC scope cl C env) σ₂ kx (fun kr σ₃ => Ev X A (compEnvC scope cl C env) σ₃ vx (fun r σ₄ => ∃ k ω', kr = .str k ∧ σ₄.ω = (acc, .dct out) :: ω' ∧ Inv (i + 1) (put out k r) ω'))
        else ∃ ω', σ₂.ω = (acc, .dct out) :: ω' ∧ Inv (i + 1) out ω'))
  fin : ∀ i out ω ds acc, Inv i out ω → seq ⟨pick (freesOf scope) σ.ρ, (acc, .dct out) :: ω⟩ = some ds → ds[i]? = none → P (.dct out) ⟨σ.ρ, ω⟩

theorem ev_dcomp {kx vx target iter : Expr} {ifs : List Expr} {scope : Scope} {pos : Pos} {seq : Sg → Option (List D)} {N : Nat} {Inv : Nat → List (Str × D) → Om → Prop} (hok : compOk scope env = true)
    (hp : CompPreD X A env σ kx vx target iter ifs scope P seq N Inv) (hs : ∀ x, foldedSetIterable iter env x = pure x) : Ev X A env σ (.DictComp kx vx [⟨target, iter, ifs, 0⟩] scope pos) P := fun s b S => by
  have ok := compOk_of hok
  show wpAny X.M A (eval (.DictComp kx vx [⟨target, iter, ifs, 0⟩] scope pos) env) _ _ s
  rw [arm_eval_DictComp]
  refine wpAny_comprehension_free (use := none) rfl hs (closureFor_eq fun p hp hk => S.ok.cells _ (ok.free p hp hk).2) ok.kind ok.loc ?_
  refine wpAny_mono (comp_coreD (pos := pos) seq N Inv ok hp.src hp.len hp.outLen hp.step hp.fin s b S) ?_ (fun _ _ x => x)
  intro x s₁ h₁
  refine wpAny_mono h₁ (fun it s₂ h₂ => wpAny_mono h₂ (fun acc s₃ h₃ => wpAny_mono h₃ (fun cenv s₄ h₄ => codeAny_mono h₄ fun r s' hr => ?_) fun _ _ x => x) fun _ _ x => x) fun _ _ x => x
  obtain ⟨f, a, rfl, rfl, out, ω', b', E, S', r, p, ap, hn, m, hm⟩ := hr
  refine ⟨m, hm, fun h' hsb => ?_⟩
  have hk : ∀ x o, x ∉ [cenv.locals] → s'.heap.get? x = some o → h'.get? x = some o := fun x o hx e => (hsb.2 x (by simpa using hx)).trans e
  have hin : Le b' h' := fun x o e => hk x o (fun z => by rw [ap.b x z] at e; cases e) (S'.hp.le _ _ e)
  exact ⟨.dct out, _, b', E.other (own := [cenv.locals]) (fun x hx => by rw [List.mem_singleton.mp hx]; exact hn) hk (Le.refl _) (fun x o e => .inl ⟨o, e⟩), S'.other ap hk (Le.refl _) hin (fun x o e => .inl ⟨o, e⟩), r, p⟩

theorem ex_assign_dcomp {kx vx target iter : Expr} {ifs : List Expr} {scope : Scope} {pos pos' spos : Pos} {y : Str} {seq : Sg → Option (List D)} {N : Nat} {Inv : Nat → List (Str × D) → Om → Prop} (hok : compOk scope env = true)
    (hp : CompPreD X A env σ kx vx target iter ifs scope (fun d σ₁ => Q .next ⟨(y, d) :: σ₁.ρ, σ₁.ω⟩) seq N Inv) (hk : isLoc env y = true)
    (hsw : swapsWith (.DictComp kx vx [⟨target, iter, ifs, 0⟩] scope pos) (some (.Name y pos')) spos.line env = pure true)
    (hs : ∀ x, foldedSetIterable iter env x = pure x) : Ex X A env σ (.Assign [.Name y pos'] (.DictComp kx vx [⟨target, iter, ifs, 0⟩] scope pos) spos) Q := fun s b S => by
  have ok := compOk_of hok
  rw [exec_Assign_Name_used _ _ _ _ hsw]
  refine wpAny_bind (wpAny_standAt ?_)
  show wpAny X.M A ((comprehension (.DictComp kx vx [⟨target, iter, ifs, 0⟩] scope pos) scope env (firstIterPos [⟨target, iter, ifs, 0⟩] pos) newDict (firstAsync [⟨target, iter, ifs, 0⟩]) (firstIter [⟨target, iter, ifs, 0⟩] env) (some (assign (.Name y pos') env)) >>= fun _ => pure ()) >>= fun _ => pure Flow.next) _ _ s
  refine wpAny_bind (wpAny_bind (wpAny_comprehension_free (use := some (assign (.Name y pos') env)) rfl hs (closureFor_eq fun p hp hk => S.ok.cells _ (ok.free p hp hk).2) ok.kind ok.loc ?_))
  refine wpAny_mono (comp_coreD (pos := pos) (P := fun d σ₁ => Q .next ⟨(y, d) :: σ₁.ρ, σ₁.ω⟩) seq N Inv ok hp.src hp.len hp.outLen hp.step hp.fin s b S) ?_ (fun _ _ x => x)
  intro x s₁ h₁
  refine wpAny_mono h₁ (fun it s₂ h₂ => wpAny_mono h₂ (fun acc s₃ h₃ => wpAny_mono h₃ (fun cenv s₄ h₄ => codeAny_mono h₄ fun r s' hr => ?_) fun _ _ x => x) fun _ _ x => x) fun _ _ x => x
  obtain ⟨f, a, rfl, rfl, out, ω', b', E, S', r, p, ap, hn, m, hm⟩ := hr
  refine wpAny_assign_Name (store_var S' r hk fun s₅ S₅ E₅ => ?_)
  have ap₅ := ap.after (σ := ⟨σ.ρ, ω'⟩) E₅ (fun x hx => by rw [List.mem_singleton.mp hx]; obtain ⟨o, _, _, h, _⟩ := hm; exact ⟨o, h⟩)
  obtain ⟨o, es, ep, h1, h2⟩ := hm
  refine ⟨m, ⟨o, es, ep, ap.keep (σ := ⟨σ.ρ, ω'⟩) E₅ (.head _) h1, h2⟩, fun h' hsb => wpAny_pure (wpAny_pure ?_)⟩
  have hk' : ∀ x o, x ∉ [cenv.locals] → s₅.heap.get? x = some o → h'.get? x = some o := fun x o hx e => (hsb.2 x (by simpa using hx)).trans e
  have hin : Le b' h' := fun x o e => hk' x o (fun z => by rw [ap₅.b x z] at e; cases e) (S₅.hp.le _ _ e)
  exact ⟨.next, _, b', (E.trans E₅).other (own := [cenv.locals]) (fun x hx => by rw [List.mem_singleton.mp hx]; exact hn) hk' (Le.refl _) (fun x o e => .inl ⟨o, e⟩), S₅.other ap₅ hk' (Le.refl _) hin (fun x o e => .inl ⟨o, e⟩), trivial, p⟩
/-- a comprehension over data -/
theorem compLD {α : Type} {kx vx target iter : Expr} {ifs : List Expr} {scope : Scope} (l : List α) (f : α → D) (outI : List α → List (Str × D)) (ωI : List α → Om)
    (hsrc : Src X A env σ iter target (fun _ => some (l.map f)) (fun σ₁ => σ₁.ρ = σ.ρ ∧ σ₁.ω = ωI []))
    (h0 : outI [] = []) (hlen : ∀ pre, pre.length ≤ l.length → (outI pre).length ≤ sizeLine)
    (step : ∀ cl C acc pre x post, l = pre ++ x :: post → Asg X A (compEnvC scope cl C env) ⟨pick (freesOf scope) σ.ρ, (acc, .dct (outI pre)) :: ωI pre⟩ target (f x) (fun σ₁ => TsB X A (compEnvC scope cl C env) σ₁ ifs (fun c σ₂ =>
        if c = true then Ev X A (compEnvC scope cl C env) σ₂ kx (fun kr σ₃ => Ev X A (compEnvC scope cl C env) σ₃ vx (fun r σ₄ => ∃ k, kr = .str k ∧ σ₄.ω = (acc, .dct (outI pre)) :: ωI (pre ++ [x]) ∧ outI (pre ++ [x]) = put (outI pre) k r))
        else σ₂.ω = (acc, .dct (outI pre)) :: ωI (pre ++ [x]) ∧ outI (pre ++ [x]) = outI pre)))
    (fin : P (.dct (outI l)) ⟨σ.ρ, ωI l⟩) :
    CompPreD X A env σ kx vx target iter ifs scope P (fun _ => some (l.map f)) l.length (fun i out ω => i ≤ l.length ∧ out = outI (l.take i) ∧ ω = ωI (l.take i)) where
  src := fun s b S => wpAny_mono (hsrc s b S) (fun x s₁ h₁ => wpAny_mono h₁ (by
    rintro it s₂ ⟨σ₁, b₁, own, J, g1, g2, g3, g4, g5, g6, g7⟩
    exact ⟨σ₁, b₁, own, J, g1, g2, g3, g4, g5, g6, g7.1, Nat.zero_le _, by rw [List.take_zero, h0], by rw [List.take_zero]; exact g7.2⟩) fun _ _ x => x) fun _ _ x => x
  len := fun i out ω acc _ => ⟨_, rfl, by simp⟩
  outLen := fun i out ω h => by rw [h.2.1]; exact hlen _ (by rw [List.length_take]; exact Nat.min_le_right _ _)
  step := fun cl C acc i out ω ds d ⟨hi, ho, hω⟩ e hd => by
    cases e
    obtain ⟨x, hx, rfl⟩ : ∃ x, l[i]? = some x ∧ d = f x := by
      rw [List.getElem?_map] at hd
      cases q : l[i]? with
      | none => rw [q] at hd; cases hd
      | some x => rw [q] at hd; cases hd; exact ⟨x, rfl, rfl⟩
    subst ho hω
    have hlt := (List.getElem?_eq_some_iff.mp hx).1
    refine Asg.mono (step cl C acc _ x _ (split_at hx)) fun σ₁ h => TrB.mono h fun c σ₂ h2 => ?_
    rw [← take_at hx] at h2
    cases c with
    | true =>
      simp only [if_true] at h2 ⊢
      exact Tr.mono h2 fun kr σ₃ h3 => Tr.mono h3 fun r σ₄ h4 => by
        obtain ⟨k, e1, e2, e3⟩ := h4
        exact ⟨k, _, e1, e2, hlt, e3.symm, rfl⟩
    | false =>
      simp only [Bool.false_eq_true, if_false] at h2 ⊢
      exact ⟨_, h2.1, hlt, h2.2.symm, rfl⟩
  fin := fun i out ω ds acc ⟨hi, ho, hω⟩ e hd => by
    cases e
    have : i = l.length := Nat.le_antisymm hi (by simpa using hd)
    subst this
    rw [List.take_length] at ho hω
    subst ho hω
    exact fin

/-- {} -/
theorem ev_dictC {pos : Pos} (h : ∀ a, P (.raw (.ref a)) ⟨σ.ρ, (a, .dct []) :: σ.ω⟩) : Ev X A env σ (.Dict [] [] pos) P := fun s b S => by
  obtain ⟨S₂, E₂⟩ := S.allocC emptyDict (.dct []) (cell_new S)
  exact wpAny_Dict_empty ⟨_, _, b, E₂, S₂, .raw _, h _⟩
theorem ev_dict0 {pos : Pos} (h : P (.dct []) σ) : Ev X A env σ (.Dict [] [] pos) P := fun s b S => by
  obtain ⟨n, kvs, ep, g, r⟩ := cell_new S
  obtain ⟨b₂, l₂, g₂, S₂, E₂⟩ := S.allocD emptyDict
  cases r
  refine wpAny_Dict_empty ⟨_, _, b₂, E₂, S₂, .dct (ep := 0) n ?_ .nil, h⟩
  exact ⟨_, #[], g₂, ⟨rfl, rfl, rfl⟩, rfl, fun e he => by simp at he, .nil, .nil⟩
end Mine

namespace Mine
open PySem PySem.W PySem.Calls PyProof.Rows Builtin Builtin.ObjectAttr
variable {X : Cx} {A : Around} {env : Env} {σ : Sg} {P : D → Sg → Prop} {Q : Fl → Sg → Prop}

theorem isStr_eq (v : Value) (n : Str) : v.isStr n = Value.isStrOf n v := by cases v <;> rfl
theorem noRefKeys {es : Array DictEntry} (hk : PySem.KeysOf X.kd es) : es.toList.any (·.refKey) = false := by
  rw [List.any_eq_false]
  intro e he
  obtain ⟨k, h1, _⟩ := hk e (by simpa using he)
  obtain ⟨t, ht⟩ := Value.isStrOf_shape h1
  unfold DictEntry.refKey
  rw [ht]; simp
theorem lookIn_dict {h : Heap} {a : Addr} {kvs : List (Str × Value)} {ep : Nat} (g : h.DictAt X.kd a kvs ep) (name : Str) : ∃ o, h.get? a = some o ∧ lookIn name o = some (kvs.lookup name) := by
  obtain ⟨o, es, ho, hx, hd, hk, hp, hn⟩ := g
  refine ⟨o, ho, ?_⟩
  have hf := hp.find name
  rw [valueAt_lookup (V := Value)] at hf
  unfold lookIn
  rw [hd]
  dsimp only
  have e : (es.toList.find? fun e => e.key.isStr name) = es.toList.find? fun e => X.kd.is name e.key := by
    congr 1; funext e; exact isStr_eq _ _
  rw [e, ← hf]
  cases q : es.toList.find? (fun e => X.kd.is name e.key) with
  | some e => rfl
  | none => dsimp only [Option.map_none]; rw [noRefKeys hk]; rfl

theorem putName_dict {h : Heap} {a : Addr} {kvs : List (Str × Value)} {ep : Nat} (g : h.DictAt X.kd a kvs ep) (name : Str) (tk : Tok) (v : Value) (hz : kvs.length < sizeLine) :
    ∃ o es' ep', h.get? a = some o ∧ lookIn name o = some (kvs.lookup name) ∧ (h.update a (Obj.putName name (PyData.keyHash X.w.params name) (.str name tk) v)).DictAt X.kd a (stored kvs name v) ep' ∧
      (h.update a (Obj.putName name (PyData.keyHash X.w.params name) (.str name tk) v)).get? a = some (Obj.putName name (PyData.keyHash X.w.params name) (.str name tk) v o) ∧
      (Obj.putName name (PyData.keyHash X.w.params name) (.str name tk) v o).data = .dict es' ep' ∧ es'.size ≤ sizeLine := by
  obtain ⟨o, ho, hl⟩ := lookIn_dict g name
  obtain ⟨o', es, ho', hx, hd, hk, hp, hn⟩ := g
  rw [ho] at ho'; cases ho'
  have hidx : (es.findIdx? fun e => X.kd.is name e.key) = kvs.findIdx? fun kv => decide (kv.1 = name) := by
    rw [← hp.findIdx name]; obtain ⟨l⟩ := es; simp
  have eqf : (es.findIdx? fun e => e.key.isStr name) = es.findIdx? fun e => X.kd.is name e.key := by
    congr 1; funext e; exact isStr_eq _ _
  have hkey : X.kd.is name (.str name tk) = true := kdIs name tk
  have hes : es.size = kvs.length := by rw [← hp.length]; simp
  obtain ⟨oc, od, oda, osl⟩ := o
  dsimp only at hd
  subst hd
  have eput : Obj.putName name (PyData.keyHash X.w.params name) (.str name tk) v ⟨oc, od, .dict es ep, osl⟩ =
      (match es.findIdx? (·.key.isStr name) with
      | some i => ⟨oc, od, .dict (es.modify i fun e => { e with val := v }) ep, osl⟩
      | none => ⟨oc, od, .dict (es.push ⟨PyData.keyHash X.w.params name, .str name tk, v⟩) (ep + 1), osl⟩) := by
    rw [Obj.putName_eq]; rfl
  cases hi : es.findIdx? fun e => X.kd.is name e.key with
  | some i =>
    rw [eqf, hi] at eput
    dsimp only at eput
    have hget := Heap.get?_update_self (f := Obj.putName name (PyData.keyHash X.w.params name) (.str name tk) v) ho (by rw [eput]; rfl)
    refine ⟨_, _, ep, ho, hl, ⟨_, _, hget, ?_, by rw [eput], hk.modify i _, ?_, ?_⟩, hget, by rw [eput], ?_⟩
    · rw [eput]; exact hx
    · rw [stored, if_pos (any_of_findIdx_some (hidx ▸ hi))]
      have hl : (es.toList.findIdx? fun e => X.kd.is name e.key) = some i := by rw [← hi]; obtain ⟨l⟩ := es; simp
      have := hp.modify hn hl v
      obtain ⟨l⟩ := es
      simpa using this
    · rw [stored, if_pos (any_of_findIdx_some (hidx ▸ hi)), keys_map_store]; exact hn
    · simp; omega
  | none =>
    rw [eqf, hi] at eput
    dsimp only at eput
    have hnot : name ∉ kvs.map (·.1) := not_mem_of_findIdx_none (hidx ▸ hi)
    have hany : ¬ (kvs.any fun kv => decide (kv.1 = name)) = true := by
      rw [List.any_eq_true]; rintro ⟨kv, hkv, he⟩
      exact hnot (List.mem_map.mpr ⟨kv, hkv, of_decide_eq_true he⟩)
    have hget := Heap.get?_update_self (f := Obj.putName name (PyData.keyHash X.w.params name) (.str name tk) v) ho (by rw [eput]; rfl)
    refine ⟨_, _, ep + 1, ho, hl, ⟨_, _, hget, ?_, by rw [eput]; rfl, hk.push hkey v, ?_, ?_⟩, hget, by rw [eput], ?_⟩
    · rw [eput]; exact hx
    · rw [stored, if_neg hany]
      have := hp.append hkey (X.kd.hash name) v
      obtain ⟨l⟩ := es
      simpa using this
    · rw [stored, if_neg hany, List.map_append, List.nodup_append]
      refine ⟨hn, by simp, ?_⟩
      intro a ha b hb
      simp only [List.map_cons, List.map_nil, List.mem_singleton] at hb
      subst hb
      exact fun e => hnot (e ▸ ha)
    · simp; omega

/-! objects of the text's own classes -/
/-- the attributes of an object: a cell, or data -/
def Own (X : Cx) (σ : Sg) (d : D) (c : Addr) (kds : List (Str × D)) : Prop := d = .inst c kds ∨ ∃ a, d = .obj c a ∧ (a, C.dct kds) ∈ σ.ω
theorem Own.data {c : Addr} {kds : List (Str × D)} : Own X σ (.inst c kds) c kds := .inl rfl
theorem Own.cell {c a : Addr} {kds : List (Str × D)} (h : (a, C.dct kds) ∈ σ.ω) : Own X σ (.obj c a) c kds := .inr ⟨a, rfl, h⟩
theorem Own.at {s : Shared} {b : Heap} {d : D} {c : Addr} {kds : List (Str × D)} (l : Own X σ d c kds) (S : St X env σ b s) {v : Value} (r : Rp X b v d) :
    ∃ x a kvs ep, v = .ref x ∧ (a == sysModules) = false ∧ s.heap.get? x = some (instObj c a) ∧ s.heap.DictAt X.kd a kvs ep ∧ RpKv X b kvs kds := by
  rcases l with rfl | ⟨a, rfl, h⟩
  · cases r with
    | inst g0 n g ra => exact ⟨_, _, _, _, rfl, n, S.hp.le _ _ g0, g.keep S.hp.le, ra⟩
  · cases r with
    | obj g0 =>
    obtain ⟨n, kvs, ep, g, ra⟩ := S.hp.cell _ h
    exact ⟨_, a, kvs, ep, rfl, n, S.hp.le _ _ g0, g, ra⟩

/-- the class says nothing of the name itself, and reads plainly -/
def readsPlain (K : Frag) (c : Addr) (name : Str) : Bool := findIn K (.ref c) "__getattribute__" == some (some (.builtin "object.__getattribute__")) && findIn K (.ref c) name == some none && (clsIn K c).any (·.hasDict)
def handedD : D → Bool
  | .raw v => handedIn v
  | _ => true
theorem handed_of {b : Heap} {v : Value} {d : D} (r : Rp X b v d) (h : handedD d = true) : handedIn v = true := by
  cases r <;> first | rfl | exact h

inductive QAttr (X : Cx) (attr : Str) (P : D → Sg → Prop) (d : D) (σ₁ : Sg) : Prop
  | mk (c : Addr) (kds : List (Str × D)) (x : D) (o : Own X σ₁ d c kds) (r : readsPlain X.K c attr = true) (l : kds.lookup attr = some x) (z : handedD x = true) (p : P x σ₁)
theorem ev_attr {value : Expr} {attr : Str} {pos : Pos} (h : Ev X A env σ value (QAttr X attr P))
    (he : eval (.Attribute value attr pos) env = (do
      let o ← eval value env
      standAt pos.atName
      let r ← holding [o] (getAttr o attr true)
      letTemporaryGo value o r
      pure r)) : Ev X A env σ (.Attribute value attr pos) P := fun s b S => by
  refine Attribute_any_ (wpAny_mono (h s b S) ?_ fun _ _ x => x) he
  rintro v s₁ ⟨d, σ₁, b₁, E₁, S₁, r₁, c, kds, x, ow, hp, hl, hh, p⟩
  obtain ⟨a, da, kvs, ep, rfl, n, g0, g, ra⟩ := ow.at S₁ r₁
  obtain ⟨w, hw, rw_⟩ := ra.lookup hl
  obtain ⟨o, ho, hlk⟩ := lookIn_dict g attr
  simp only [readsPlain, Bool.and_eq_true, beq_iff_eq] at hp
  obtain ⟨⟨h1, h2⟩, h3⟩ := hp
  obtain ⟨cd, hc, hd⟩ := any_some h3
  have I : InstAt s₁.heap a (instObj c da) c (some o) := ⟨g0, rfl, rfl, ho⟩
  refine get_value (S₁.hp.top.inK.keeps S₁.hp.le) I h1 (v := w) ?_ (handed_of rw_ hh) ?_
  · unfold findObj
    rw [hc, h2]
    simp only [Option.bind_some, W.ownOf, hd, if_true, hlk, hw]
  · exact Po.after E₁ (Po.tok S₁ rw_ p)

/-- the class stores plainly -/
def storesPlain (K : Frag) (c : Addr) (name : Str) : Bool := findIn K (.ref c) "__setattr__" == some (some (.builtin "object.__setattr__")) && plainOver K c && takerIn K c name == some none && (clsIn K c).any (·.hasDict)

theorem set_attr {s : Shared} {b : Heap} {QQ : Unit → Shared → Prop} {E : Value → Shared → Prop} {x c a : Addr} {name : Str} {v : Value} {d : D} {kds : List (Str × D)} {ω' : Om} (S : St X env σ b s) (g0 : s.heap.get? x = some (instObj c a)) (u : Upd a (.dct kds) (.dct (put kds name d)) σ.ω ω') (r : Rp X b v d)
    (hs : storesPlain X.K c name = true) (hz : kds.length < sizeLine) (h : ∀ s', St X env ⟨σ.ρ, ω'⟩ b s' → Evo X env σ ⟨σ.ρ, ω'⟩ s b s' b → QQ () s') : wpAny X.M A (setAttr (.ref x) name v) QQ E s := by
  simp only [storesPlain, Bool.and_eq_true, beq_iff_eq] at hs
  obtain ⟨⟨⟨h1, h2⟩, h3⟩, h4⟩ := hs
  obtain ⟨cd, hc, hd⟩ := any_some h4
  obtain ⟨n, kvs, ep, g, ra⟩ := S.hp.cell _ u.mem
  have hlen := ra.length
  have XX := S.hp.top.inK.keeps S.hp.le
  obtain ⟨o, es', ep', ho, hlk, hD, hget, hdat, hsz⟩ := putName_dict g name (s.toks + 1) v (by omega)
  have I : InstAt s.heap x (instObj c a) c (some o) := ⟨g0, rfl, rfl, ho⟩
  refine set_plain XX I h1 (osa_open (s := { s with toks := s.toks + 1 }) XX I h2 h3 fun bb => ?_)
  refine wpAny_bind (wpAny_pure (wpAny_bind (wpAny_bind (wpAny_loadPart g0 (wpAny_bind (looks_clsIn XX hc _ _ _ _ (fun _ _ e => e) ?_))))))
  rw [hd]
  refine wpAny_pure (a := some a) (wpAny_bind (wpAny_pure (wpAny_bind ?_)))
  unfold nsSet
  refine wpAny_bind (wpAny_bind (wpAny_askSetting (wpAny_pure (wpAny_bind (wpAny_mkText (wpAny_bind (wpAny_loadPart ho ?_)))))))
  have hl : (lookIn name o).isSome = true := by rw [hlk]; rfl
  unfold lookIn at hl
  split at hl
  · rename_i es₀ n₀ q
    rw [q]
    dsimp only
    have c : (!es₀.any (·.key.isStr name) && es₀.any (·.refKey)) = false := by
      rw [← Array.any_toList, ← Array.any_toList]
      split at hl
      · rename_i en he
        rw [List.any_eq_true.mpr ⟨en, List.mem_of_find?_eq_some he, List.find?_some he⟩]; rfl
      · split at hl
        · cases hl
        · rename_i z; rw [Bool.not_eq_true] at z; rw [z, Bool.and_false]
    rw [aRefKeyMayBeTheName_at, c]
    refine wpAny_updatePart ho ?_
    refine wpAny_bind (wpAny_lookBehind hget (by rw [hdat]; exact pastItsLine_dict (Nat.le_succ_of_le hsz)) ?_)
    obtain ⟨S', E'⟩ := S.setCell (h' := s.heap.update a (Obj.putName name (PyData.keyHash X.w.params name) (.str name (s.toks + 1)) v)) u (Heap.SameBut.update ..) ⟨n, _, ep', hD, ra.put r⟩ (s.toks + 1 + 1)
    exact wpAny_pure (h _ S' E')
  · cases hl

inductive QSet1 (X : Cx) (attr : Str) (v : D) (Q : Fl → Sg → Prop) (d : D) (σ₂ : Sg) : Prop
  | mk (c a : Addr) (kds : List (Str × D)) (ω' : Om) (e : d = .obj c a) (u : Upd a (.dct kds) (.dct (put kds attr v)) σ₂.ω ω') (t : storesPlain X.K c attr = true) (z : kds.length < sizeLine) (p : Q .next ⟨σ₂.ρ, ω'⟩)
abbrev QSet (X : Cx) (A : Around) (env : Env) (o : Expr) (attr : Str) (Q : Fl → Sg → Prop) : D → Sg → Prop := fun v σ₁ => Ev X A env σ₁ o (QSet1 X attr v Q)
theorem ex_setattr {o value : Expr} {attr : Str} {pos' pos : Pos}
    (h : Ev X A env σ value (QSet X A env o attr Q))
    (hs : swapsWith value (some (.Attribute o attr pos')) pos.line env = pure false) : Ex X A env σ (.Assign [.Attribute o attr pos'] value pos) Q := fun s b S => by
  refine plainObj_wpAny_Assign_Attribute (wpAny_mono (h s b S) ?_ fun _ _ x => x) hs
  rintro v s₁ ⟨dv, σ₁, b₁, E₁, S₁, r₁, h₁⟩
  refine wpAny_mono (h₁ s₁ b₁ S₁) ?_ fun _ _ x => x
  rintro ov s₂ ⟨d, σ₂, b₂, E₂, S₂, r₂, c, a, kds, ω', rfl, u, hst, hz, p⟩
  cases r₂ with
  | obj g0 =>
  exact set_attr S₂ (S₂.hp.le _ _ g0) u (r₁.mono E₂.ext.le) hst hz fun s' S' E' => ⟨.next, _, b₂, (E₁.trans E₂).trans E', S', trivial, p⟩
end Mine

namespace Mine
open PySem PySem.W PySem.Calls PyProof.Rows
variable {X : Cx} {A : Around} {env : Env} {σ : Sg} {P : D → Sg → Prop} {Q : Fl → Sg → Prop}

/-! calls of one's own methods and classes -/
def methPlain (K : Frag) (c : Addr) (name : Str) (fa : Addr) : Bool :=
  findIn K (.ref c) "__getattribute__" == some (some (.builtin "object.__getattribute__")) && findIn K (.ref c) "__getattr__" == some none && findIn K (.ref c) name == some (some (.ref fa)) &&
  typeIn K (.ref fa) == some (.type "function") && keepIn K (.ref fa)

theorem meth_at {s : Shared} {b : Heap} {pl : Sem Bool} {QQ : Value × List Value → Shared → Prop} {E : Value → Shared → Prop} {v : Value} {d : D} {c fa : Addr} {name : Str} {kds : List (Str × D)} (S : St X env σ b s) (r : Rp X b v d) (ow : Own X σ d c kds)
    (hp : methPlain X.K c name fa = true) (hn : kds.lookup name = none) (h : QQ (.ref fa, [v]) s) : wpAny X.M A (getMethod v name pl) QQ E s := by
  obtain ⟨a, da, kvs, ep, rfl, n, g0, g, ra⟩ := ow.at S r
  obtain ⟨o, ho, hlk⟩ := lookIn_dict g name
  simp only [methPlain, Bool.and_eq_true, beq_iff_eq] at hp
  obtain ⟨⟨⟨⟨h1, h2⟩, h3⟩, h4⟩, h5⟩ := hp
  have I : InstAt s.heap a (instObj c da) c (some o) := ⟨g0, rfl, rfl, ho⟩
  refine method_fn (S.hp.top.inK.keeps S.hp.le) I h1 h2 h3 h4 ?_ h
  show (lookIn name o).map _ = _
  rw [hlk, ra.lookup_none hn]; rfl

inductive QOm (X : Cx) (A : Around) (env : Env) (name : Str) (pos : Pos) (args : List Expr) (P : D → Sg → Prop) (d : D) (σ₁ : Sg) : Prop
  | mk (c : Addr) (kds : List (Str × D)) (fa : Addr) (o : Own X σ₁ d c kds) (m : methPlain X.K c name fa = true) (l : kds.lookup name = none) (h : TrL X A env σ₁ (spliced (backTo pos (starEach args env))) (QCons d (QArg X A env (fun vs => call (.ref fa) vs) P)))
theorem ev_ometh {o e : Expr} {name : Str} {apos pos : Pos} {rest : List Expr} {pl : Sem Bool}
    (h : Ev X A env σ o (QOm X A env name pos (e :: rest) P))
    (he : eval (.Call (.Attribute o name apos) (e :: rest) [] pos) env = (do
      let ov ← eval o env
      standAt apos.atName
      let (f, first) ← holding [ov] (getMethod ov name pl)
      callWith pos f first (backTo pos (starEach (e :: rest) env)) []))
    (hst : starEach (e :: rest) env = (false, eval e env) :: starEach rest env) (hpl : (backTo pos (starEach rest env)).any (·.1) = false) : Ev X A env σ (.Call (.Attribute o name apos) (e :: rest) [] pos) P := fun s b S => by
  refine MethodCall_ (pl := pl) (wpAny_mono (h s b S) ?_ fun _ _ x => x) he
  rintro v₁ s₁ ⟨d₁, σ₁, b₁, E₁, S₁, r₁, c, kds, fa, ow, hp, hn, h₁⟩
  refine meth_at S₁ r₁ ow hp hn ?_
  have hk : keepIn X.K (.ref fa) = true := by simp only [methPlain, Bool.and_eq_true] at hp; exact hp.2
  refine callWith_K (S₁.hp.top.inK.keeps S₁.hp.le) hk (wpAny_mono (h₁ s₁ b₁ S₁) ?_ (fun _ _ x => x)) hst hpl
  rintro vs s₂ ⟨ds, σ₂, b₂, E₂, S₂, r₂, h₂⟩
  exact ⟨S₂.hp.top.inK.keeps S₂.hp.le, wpAny_mono (h₂ s₂ b₂ (v₁ :: vs) S₂ (.cons (r₁.mono E₂.ext.le) r₂)) (fun v s' q => (q.after E₂).after E₁) (fun _ _ x => x)⟩
theorem ev_ometh0 {o : Expr} {name : Str} {apos pos : Pos} {pl : Sem Bool}
    (h : Ev X A env σ o (fun d σ₁ => ∃ c kds fa, Own X σ₁ d c kds ∧ methPlain X.K c name fa = true ∧ kds.lookup name = none ∧ OpL X A env σ₁ (fun vs => call (.ref fa) vs) [d] P))
    (he : eval (.Call (.Attribute o name apos) [] [] pos) env = (do
      let ov ← eval o env
      standAt apos.atName
      let (f, first) ← holding [ov] (getMethod ov name pl)
      callWith pos f first (backTo pos (starEach [] env)) [])) : Ev X A env σ (.Call (.Attribute o name apos) [] [] pos) P := fun s b S => by
  refine MethodCall_ (pl := pl) (wpAny_mono (h s b S) ?_ fun _ _ x => x) he
  rintro v₁ s₁ ⟨d₁, σ₁, b₁, E₁, S₁, r₁, c, kds, fa, ow, hp, hn, h₁⟩
  refine meth_at S₁ r₁ ow hp hn ?_
  have hk : keepIn X.K (.ref fa) = true := by simp only [methPlain, Bool.and_eq_true] at hp; exact hp.2
  refine callWith_K0 (S₁.hp.top.inK.keeps S₁.hp.le) hk ?_
  exact wpAny_mono (h₁ s₁ b₁ [v₁] S₁ (.cons r₁ .nil)) (fun v s' q => q.after E₁) (fun _ _ x => x)

/-- any callable of the text's own: a def or a class -/
theorem ev_callO {func : Expr} {e : Expr} {rest : List Expr} {pos : Pos} {fa : Addr} (h : Ev X A env σ func (QCall X A env (.ref fa) pos (e :: rest) (fun vs => call (.ref fa) vs) P))
    (hk : keepIn X.K (.ref fa) = true)
    (he : eval (.Call func (e :: rest) [] pos) env = (do callWith pos (← eval func env) [] (backTo pos (starEach (e :: rest) env)) (backToKw pos (keywordEach [] env))))
    (hst : starEach (e :: rest) env = (false, eval e env) :: starEach rest env) (hpl : (backTo pos (starEach rest env)).any (·.1) = false) : Ev X A env σ (.Call func (e :: rest) [] pos) P := fun s b S => by
  refine Call_ (wpAny_mono (h s b S) ?_ (fun _ _ x => x)) he
  rintro v₁ s₁ ⟨d₁, σ₁, b₁, E₁, S₁, r₁, rfl, h₁⟩
  cases r₁
  refine callWith_K (S₁.hp.top.inK.keeps S₁.hp.le) hk (wpAny_mono (h₁ s₁ b₁ S₁) ?_ (fun _ _ x => x)) hst hpl
  rintro vs s₂ ⟨ds, σ₂, b₂, E₂, S₂, r₂, h₂⟩
  exact ⟨S₂.hp.top.inK.keeps S₂.hp.le, wpAny_mono (h₂ s₂ b₂ vs S₂ r₂) (fun v s' q => (q.after E₂).after E₁) (fun _ _ x => x)⟩

/-- an object of a class with an __init__ of its own -/
theorem cls_call {c fI : Addr} {ds : List D} (hm : makesIn X.K c = true) (hi : findIn X.K (.ref c) "__init__" = some (some (.ref fI))) (hf : typeIn X.K (.ref fI) = some (.type "function"))
    (h : ∀ a A', A'.handled = A.handled → A'.units ≤ A.units + 2 → A'.depth ≤ A.depth + 2 → A'.guards = A.guards → OpC X A' env ⟨σ.ρ, (a, .dct []) :: σ.ω⟩ fI (.obj c a :: ds) (fun d σ' => d = .none ∧ P (.obj c a) σ')) : OpL X A env σ (fun vs => call (.ref c) vs) ds P := fun s b vs S rv => by
  have XK := S.hp.top.inK.keeps S.hp.le
  obtain ⟨hh, g, d, t, os⟩ := s
  have hc := cell_new S
  obtain ⟨S₁, E₁⟩ := S.allocC emptyDict (.dct []) hc
  obtain ⟨b₂, l₂, g₂, S₂, E₂⟩ := S₁.allocD (instObj c hh.objs.size)
  refine wpAny_call (make_core (makes_of XK hm) (looks_findIn XK hi) (fun self => bind_fn XK self hf) (.inl rfl) ?_)
  have r : RpAll X b₂ (.ref (hh.objs.size + 1) :: vs) (.obj c hh.objs.size :: ds) := by
    refine .cons (.obj ?_) (rv.mono (E₁.ext.le.trans l₂))
    simpa [Heap.size_push] using g₂
  refine codeAny_mono (h hh.objs.size (A.under (.builtin "type.__call__" ⟨.ref c :: vs, []⟩)) rfl ?_ ?_ rfl _ b₂ _ S₂ r) ?_
  · show A.units + 1 ≤ A.units + 2; omega
  · show A.depth + 1 ≤ A.depth + 2; omega
  · intro r s' hr
    rcases r with e | (v | _ | _ | _) <;> first | exact hr | exact hr.elim | skip
    obtain ⟨d', σ', b', E', S', r', rfl, p⟩ := hr
    cases r'
    refine ⟨rfl, _, σ', b', (E₁.trans E₂).trans E', S', ?_, p⟩
    refine .obj (E'.ext.le _ _ ?_)
    simpa [Heap.size_push] using g₂
end Mine

namespace Mine
open PySem PySem.W PySem.Calls PyProof.Rows
variable {X : Cx} {A : Around} {env : Env} {σ : Sg} {P : D → Sg → Prop} {Q : Fl → Sg → Prop}

theorem hsl : sizeLine = 2 ^ 24 := rfl

/-- a new object somewhere: it stays -/
theorem Po.grown {s : Shared} {b h' : Heap} {a : Addr} {o : Obj} {d : D} {tk : Nat} (S : St X env σ b s) (hk : Le s.heap h') (hn : s.heap.get? a = none) (ho : h'.get? a = some o) (r : ∀ b', Le b b' → b'.get? a = some o → Rp X b' (.ref a) d) (p : P d σ) :
    Po X env σ s b P (.ref a) { s with heap := h', toks := tk } := by
  have hle : Le b h' := S.hp.le.trans hk
  obtain ⟨S₁, E₁⟩ := S.extend (h' := h') (b' := grow b h' (· == a)) (tk := tk) hk (grow_le hle) grow_in (fun y o' q => by
    rcases grow_new q with z | z
    · exact .inl z
    · exact .inr (by rw [beq_iff_eq.mp z]; exact hn))
  exact ⟨d, σ, _, E₁, S₁, r _ (grow_le hle) (grow_get (by simp) ho), p⟩

/-- the tuple that a value stands for -/
theorem ol_listOf {d : D} {ds : List D} (l : Lst X σ d ds) (hz : ds.length ≤ sizeLine) (p : P (.list ds) σ) : OpL X A env σ (fun vs => call (.type "list") vs) [d] P := fun s b vs S r => by
  cases r with
  | cons r q =>
  cases q
  obtain ⟨a, vs, k, rfl, g, ra⟩ := l.at S r
  have e : vs.size = ds.length := by rw [← ra.length]; simp
  refine call_list_seq a (.inl rfl) g rfl rfl (fun h' c' hk hD => ?_) (by omega)
  exact Po.grown S hk (fresh_none _) hD (fun b' l' g' => .list g' (ra.mono l')) p
theorem ol_tupOf {d : D} {ds : List D} (l : Lst X σ d ds) (hz : ds.length ≤ sizeLine) (p : P (.tup ds) σ) : OpL X A env σ (fun vs => call (.type "tuple") vs) [d] P := fun s b vs S r => by
  cases r with
  | cons r q =>
  cases q
  obtain ⟨a, vs, k, rfl, g, ra⟩ := l.at S r
  have e : vs.size = ds.length := by rw [← ra.length]; simp
  refine call_tuple_list (isList_of g) (fun h' hk => ?_) (by omega)
  refine Po.grown (h' := h'.push _) S (fun y o q => le_push _ _ _ _ (hk y o q)) ?_ (Heap.get?_push_size _ rfl) (fun b' l' g' => .tup g' (ra.mono l')) p
  cases q : s.heap.get? h'.objs.size with
  | none => rfl
  | some o => exact absurd (Heap.lt_size (hk _ _ q)) (Nat.lt_irrefl _)
theorem ol_set0 (p : ∀ a, P (.raw (.ref a)) σ) : OpL X A env σ (fun vs => call (.type "set") vs) [] P := fun s b vs S r => by
  cases r
  refine call_set_0 fun led => ?_
  exact Po.alloc S rfl (fun b' l' g' => .raw _) (p _)
theorem ol_lenT {ds : List D} (hz : ds.length ≤ sizeLine) (p : P (.int ds.length) σ) : OpL X A env σ (fun vs => call (.builtin "len") vs) [.tup ds] P := fun s b vs S r => by
  cases r with
  | cons r q =>
  cases q
  cases r with
  | tup g ra =>
  rename_i a vs n
  have e : vs.size = ds.length := by rw [← ra.length]; simp
  refine PyProof.Rows.len_tuple (isTuple_of (S.hp.le _ _ g)) (by have := hsl; omega) ?_
  rw [e]
  exact Po.tok S (.int ..) p
theorem ol_lenS {x : Str} (hz : x.length ≤ sizeLine) (p : P (.int x.length) σ) : OpL X A env σ (fun vs => call (.builtin "len") vs) [.str x] P := fun s b vs S r => by
  cases r with
  | cons r q =>
  cases q
  cases r
  exact PySem.P.len_str (by have := hsl; omega) (Po.tok S (.int ..) p)

theorem ev_callT0 {func : Expr} {pos : Pos} {T : String} (h : Ev X A env σ func (fun f σ₁ => f = .raw (.type T) ∧ OpL X A env σ₁ (fun vs => call (.type T) vs) [] P))
    (he : eval (.Call func [] [] pos) env = (do callWith pos (← eval func env) [] (backTo pos (starEach [] env)) (backToKw pos (keywordEach [] env)))) : Ev X A env σ (.Call func [] [] pos) P := fun s b S => by
  refine Call_ (wpAny_mono (h s b S) ?_ (fun _ _ x => x)) he
  rintro v₁ s₁ ⟨d₁, σ₁, b₁, E₁, S₁, r₁, rfl, h₁⟩
  cases r₁
  refine PyProof.Rows.callWith_type0 ?_
  exact wpAny_mono (h₁ s₁ b₁ [] S₁ .nil) (fun v s' q => q.after E₁) (fun _ _ x => x)

/-! strings -/
theorem op_instr {x y : Str} (p : P (.bool (!(Builtin.Str.occurrences y x 0 y.length 1).isEmpty)) σ) : Op X A env σ (compareOp .In) (.str x) (.str y) P := fun s b v w S rx ry => by
  cases rx; cases ry
  exact PyProof.Rows.in_str (Po.here S (.bool _) p)
theorem op_stritem {vl sl : Expr} {x : Str} {k : Int} {c : Nat} (h0 : 0 ≤ k) (h1 : k < 2 ^ 63) (hc : (seqIndex? k x.length).bind (x.cps[·]?) = some c) (p : P (.str ⟨#[c]⟩) σ)
    (hs : ∀ v u, subscripted sl false v (.int k u) = operate [v, .int k u] (getItem v (.int k u))) (ht : ∀ o r, letTemporaryGo vl o r = pure ()) : Op X A env σ (subscriptTail vl sl) (.str x) (.int k) P := fun s b v w S rx ry => by
  cases rx; cases ry
  rename_i t u
  refine subscriptTail_ops (typeIs_str _ _ _) F.slot_str_getitem.lookup (PySem.P.getItem_str ?_ hc (Po.tok S (.str ..) p)) (hs _ _) (ht _)
  simp; omega

theorem itb_str {target : Expr} {x : Str} (hh : A.handled = none) (ha : x.cps.all (· < 128) = true) : Itb X A env σ target (.str x) (fun _ => some (x.cps.toList.map fun c => .str ⟨#[c]⟩)) := fun s b v S r => by
  cases r
  rename_i t
  refine wpAny_pyIter_ascii ha ⟨[s.heap.objs.size], fun i h => h.IsStrIter s.heap.objs.size "str_ascii_iterator" x t i, _, s.toks, rfl, le_push _ _, fun x hx => by rw [List.mem_singleton.mp hx]; exact fresh_none _, ?_, ⟨_, Heap.get?_push_size _ rfl, rfl, rfl⟩⟩
  generalize s.heap.objs.size = I
  exact {
    frame := fun i h h' ⟨o, e, r⟩ k => ⟨o, k I (by simp) o e, r⟩
    live := fun i h ⟨o, e, _⟩ x hx => by rw [List.mem_singleton.mp hx]; exact ⟨o, e⟩
    item := fun env σ i ds' d s b' S hb j e g' ap => by
      cases e
      obtain ⟨c, hc, rfl⟩ : ∃ c, x.cps[i]? = some c ∧ d = .str ⟨#[c]⟩ := by
        rw [List.getElem?_map, Array.getElem?_toList] at g'
        cases q : x.cps[i]? with
        | none => rw [q] at g'; cases g'
        | some c => rw [q] at g'; cases g'; exact ⟨c, rfl, rfl⟩
      refine wpAny_pyNext_ascii_item j hc fun h' j' hs => ⟨_, rfl, ?_⟩
      obtain ⟨o, ho, hc, hd⟩ := j'
      refine letGo_plain (s := { s with heap := h', toks := s.toks + 1 }) ho hc (by decide) ⟨h', b', s.toks + 1, rfl, ⟨o, ho, hc, hd⟩, fun x o hx e => hs.extBut x o (fun z => hx (by simp [z])) e, Le.refl _, fun x o e => ?_, fun x o e => .inl ⟨o, e⟩, .str ..⟩
      exact hs.extBut x o (fun z => by have := ap.b I (by simp); rw [← z, e] at this; cases this) (S.hp.le _ _ e)
    done := fun env σ i ds' s b' S hb j e g' ap => by
      cases e
      refine wpAny_pyNext_ascii_end hh j ?_ fun h' he => ⟨rfl, h', s.toks, rfl, fun x o hx e => he x o (fun z => hx (by simp [z])) e⟩
      simpa using g'
    self := fun i s QQ E j h => wpAny_pyIter_striter_ascii j h }

/-! the text joined -/
theorem ol_join {sep : Str} {ss : List Str} (hz : (ss.map (·.length)).sum + ss.length * sep.length ≤ 16777216) (p : P (.str (Txt.join sep ss)) σ) : OpL X A env σ (fun vs => call (.builtin "str.join") vs) [.str sep, .tup (ss.map D.str)] P := fun s b vs S r => by
  cases r with
  | cons r q =>
  cases q with
  | cons r' q =>
  cases q
  cases r
  cases r' with
  | tup g ra =>
  rename_i t a vs n
  refine PyProof.Rows.join_tuple ⟨_, S.hp.le _ _ g, rfl, n, rfl⟩ (rpAll_strs ra) hz fun t' k => ?_
  exact Po.tok S (.str ..) p
theorem isTy_str {x : Str} : IsTy X env σ (.str x) "str" := fun s b v S r => by
  cases r
  exact ⟨typeIs_str _ _ _, fun a e => nomatch e⟩

/-! dict.get -/
theorem isTy_dct {d : D} {kds : List (Str × D)} (l : Dct X σ d kds) : IsTy X env σ d "dict" := fun s b v S r => by
  obtain ⟨a, kvs, ep, rfl, n, g, ra⟩ := l.at S r
  exact ⟨g.dictOf.typeIs, g.dictOf.mapOf.noDict⟩
theorem ol_get {d dflt : D} {k : Str} {kds : List (Str × D)} (l : Dct X σ d kds) (p : P ((kds.lookup k).getD dflt) σ) : OpL X A env σ (fun vs => call (.builtin "dict.get") vs) [d, .str k, dflt] P := fun s b vs S r => by
  cases r with
  | cons r q =>
  cases q with
  | cons r' q =>
  cases q with
  | cons r'' q =>
  cases q
  cases r'
  rename_i tk
  obtain ⟨a, kvs, ep, rfl, n, g, ra⟩ := l.at S r
  refine call_meetsIn F.slot_dict_get g.dictOf.typeIs F.entry_dict_get (F.args_dict_get_3 _ _ _) (meets_dict_get_default X.kd a (kdIs k tk) n _) ⟨_, g.dictOf.mapOf, ?_⟩
  rw [valueAt_lookup (V := Value)]
  cases q : kds.lookup k with
  | none =>
    rw [ra.lookup_none q]
    rw [q] at p
    exact Po.tok S r'' p
  | some x =>
    obtain ⟨v, hv, rv⟩ := ra.lookup q
    rw [hv]
    rw [q] at p
    exact Po.tok S rv p

theorem wpAny_pyHash_none {prog : Program} {w : World} {E : Value → Shared → Prop} {s : Shared} {Q : Int → Shared → Prop} (h : Q 0xFCA86420 { s with toks := s.toks + 1 }) :
    wpAny (model prog w) A (pyHash .none) Q E s := by
  unfold pyHash
  refine wpAny_bind ?_
  rw [cRoomFor, if_neg (by decide)]; refine wpAny_pure ?_
  refine wpAny_bind (wpAny_specialOf (typeIs_none s) F.slot_NoneType_hash.lookup ?_)
  show wpAny _ _ (if (some (Value.builtin "NoneType.__hash__") == some Value.none) = true then _ else _) Q E s
  rw [if_neg (by rw [beq_builtin_none]; exact Bool.false_ne_true)]
  refine wpAny_bind (wpAny_specialOf (typeIs_none s) F.slot_NoneType_hash.lookup ?_)
  show wpAny _ _ (callSpecialIfBoundUnlessNone? .none "__hash__" _ >>= _) Q E s
  refine wpAny_bind (wpAny_callSpecialIfBoundUnlessNone?_slot (typeIs_none s) F.slot_NoneType_hash
    (wpAny_call_entry F.slot_NoneType_hash (typeIs_none s) F.entry_NoneType_hash
      (show wpAny _ _ (do ret (← mkInt 0xFCA86420)) _ _ s from wpAny_ret_mkInt ?_) (F.args_NoneType_hash_1 _)))
  exact wpAny_pure h
def noneKind (prog : Program) (w : World) : PySem.KeyKind prog w Unit where
  is _ v := v == .none
  hash _ := 0xFCA86420
  inj _ _ _ _ _ := rfl
  byValue _ v h := by
    have : v = .none := by simpa using h
    subst this; rfl
  pyHash h q := by
    rename_i v _
    have : v = .none := by simpa using h
    subst this
    exact wpAny_pyHash_none q
  eqBool h1 h2 q := by
    rename_i u v _
    have e1 : u = .none := by simpa using h1
    have e2 : v = .none := by simpa using h2
    subst e1 e2
    unfold eqBool
    try with_reducible refine wpAny_holding ?_
    show wpAny _ _ (rule "eq-bool.same-object" >>= fun _ => pure true) _ _ _
    exact wpAny_bind (wpAny_rule (wpAny_pure q))
  «strs» k x t v h := by cases h
theorem ol_getN {d dflt : D} (l : Dct X σ d []) (p : P dflt σ) : OpL X A env σ (fun vs => call (.builtin "dict.get") vs) [d, .none, dflt] P := fun s b vs S r => by
  cases r with
  | cons r q =>
  cases q with
  | cons r' q =>
  cases q with
  | cons r'' q =>
  cases q
  cases r'
  obtain ⟨a, kvs, ep, rfl, n, g, ra⟩ := l.at S r
  cases ra
  have hT := g.dictOf.typeIs (s := s)
  obtain ⟨o, es, g0, hx, hd, hk, hp, hn⟩ := g
  have hes : es.toList = [] := by
    generalize es.toList = l at hp
    cases hp with
    | nil => rfl
  have hes' : es = #[] := by
    apply Array.ext'; simpa using hes
  subst hes'
  refine call_meetsIn F.slot_dict_get hT F.entry_dict_get (F.args_dict_get_3 _ _ _) (meets_dict_get_default (noneKind X.prog X.w) a (k := ()) rfl n _) ⟨fun _ => none, ?_, Po.tok S r'' p⟩
  refine ⟨o, #[], ep, g0, hx, hd, ?_, ?_⟩
  · intro e he; simp at he
  · intro k; rfl
end Mine

namespace Mine
open PySem PySem.W PySem.Calls PyProof.Rows
variable {X : Cx} {A : Around} {env : Env} {σ : Sg} {P : D → Sg → Prop} {Q : Fl → Sg → Prop}

/-- what holds when the frames of the calls under way are made ready -/
theorem St.slots {s : Shared} {b h' : Heap} {tk : Nat} (S : St X env σ b s) (hk : ∀ a o, NotFr X a → s.heap.get? a = some o → h'.get? a = some o)
    (hs : ∀ a o, s.heap.get? a = some o → (∀ vs, o.data ≠ .fields vs) → ∃ sl, h'.get? a = some { o with slots := sl }) :
    St X env σ b { s with heap := h', toks := tk } ∧ Evo X env σ σ s b { s with heap := h', toks := tk } b := by
  have hb : ∀ a o, b.get? a = some o → NotFr X a := fun a o e e' he z => by
    obtain ⟨k, L, o', es, ep, h1, h2, h3, h4, h5⟩ := S.fr e' he
    rw [z] at h1; cases h1
    rw [h2] at e; cases e
  have hw : ∀ a, a ∈ σ.ω.map (·.1) → NotFr X a := fun a ha e' he z => by
    obtain ⟨k, L, o', es, ep, h1, h2, h3, h4, h5⟩ := S.fr e' he
    rw [z] at h1; cases h1
    exact h3 ha
  have hnd : ∀ a o, s.heap.get? a = some o → (∀ es ep, o.data ≠ .dict es ep) → NotFr X a := fun a o e hn e' he z => by
    obtain ⟨k, L, o', es, ep, h1, h2, h3, h4, h5⟩ := S.fr e' he
    rw [z] at h1; cases h1
    rw [e] at h4; cases h4
    exact hn _ _ h5
  have kp : ∀ a o, s.heap.get? a = some o → ∃ sl, h'.get? a = some { o with slots := sl } ∧ (NotFr X a → sl = o.slots) := fun a o e => by
    by_cases hn : NotFr X a
    · exact ⟨o.slots, hk a o hn e, fun _ => rfl⟩
    · have : ∀ vs, o.data ≠ .fields vs := fun vs q => hn (hnd a o e fun es ep z => by rw [q] at z; cases z)
      obtain ⟨sl, h1⟩ := hs a o e this
      exact ⟨sl, h1, fun n => absurd n hn⟩
  refine ⟨⟨S.ok, ⟨fun a o e => hk a o (hb a o e) (S.hp.le a o e), fun p hp => (S.hp.cell p hp).mono (Le.refl _) (fun o e => hk _ o (hw _ (List.mem_map_of_mem (f := (·.1)) hp)) e), S.hp.out, S.hp.nod, S.hp.top⟩,
    S.fm.monoS (Le.refl _) (fun o e => (kp _ o e).imp fun _ z => z.1) (fun y c o _ e => (kp _ o e).imp fun _ z => z.1), S.fa, S.fr.mono (fun _ _ _ _ z => z) (fun _ _ _ z => z) (fun a o es ep _ _ e q => ?_)⟩, ⟨⟨fun a o _ e => kp a o e, Le.refl _, fun a o e => .inl ⟨o, e⟩, fun a o e => ?_, rfl, rfl⟩, fun a h => .inl h⟩⟩
  · obtain ⟨sl, h1, _⟩ := kp a o e
    exact ⟨_, es, ep, h1, q⟩
  · obtain ⟨sl, h1, _⟩ := kp a o e
    exact ⟨_, h1⟩

def noFrames (X : Cx) (h : Heap) : Heap := restrict h fun a => !(X.fr.any fun e => e.frame == some a)
theorem noFrames_le {h : Heap} : Le (noFrames X h) h := fun a o e => by
  unfold noFrames at e; rw [get?_restrict] at e
  split at e
  · exact e
  · cases e
theorem noFrames_get {h : Heap} {a : Addr} {o : Obj} (n : NotFr X a) (e : h.get? a = some o) : (noFrames X h).get? a = some o := by
  unfold noFrames; rw [get?_restrict]
  have : (X.fr.any fun e => e.frame == some a) = false := by
    rw [List.any_eq_false]
    intro e he
    simpa using n e he
  rw [this]; exact e
theorem noFrames_none {h : Heap} {a : Addr} {e : Env} (he : e ∈ X.fr) (z : e.frame = some a) : (noFrames X h).get? a = none := by
  unfold noFrames; rw [get?_restrict]
  have : (X.fr.any fun e => e.frame == some a) = true := List.any_eq_true.mpr ⟨e, he, by simpa using z⟩
  rw [this]; rfl
theorem funFrames_of {ω : Om} {b h h' : Heap} (F : FrOk X ω b h) (hk : Le h h') : ∀ l : List Env, (∀ e ∈ l, e ∈ X.fr) → h'.FunFrames (noFrames X h) l
  | [], _ => trivial
  | e :: l, hl => by
    obtain ⟨k, L, o, es, ep, h1, h2, h3, h4, h5⟩ := F e (hl e (.head _))
    exact ⟨by rw [k]; decide, ⟨L, o, h1, noFrames_none (hl e (.head _)) h1, hk _ _ h4, fun vs q => by rw [h5] at q; cases q⟩, funFrames_of F hk l fun x hx => hl x (.tail _ hx)⟩

theorem ex_try_ok {body orelse : List Stmt} {hs : List ExceptHandler} {h₀ : ExceptHandler} {pos : Pos} (h : Exs X A env σ body (fun f σ₁ => match f with | .next => Exs X A env σ₁ orelse Q | f => Q f σ₁)) : Ex X A env σ (.Try body (h₀ :: hs) orelse [] pos) Q := fun s b S => by
  refine wpAny_Try_except (wpAny_mono (h s b S) ?_ fun _ _ x => x.elim)
  rintro f s₁ ⟨fl, σ₁, b₁, E₁, S₁, r₁, h₁⟩
  cases f with
  | next => cases fl with
    | next => exact wpAny_mono (h₁ s₁ b₁ S₁) (fun v s' q => q.after E₁) (fun _ _ x => x)
    | _ => exact r₁.elim
  | brk => cases fl with
    | brk => exact ⟨.brk, σ₁, b₁, E₁, S₁, trivial, h₁⟩
    | _ => exact r₁.elim
  | cont => cases fl with
    | cont => exact ⟨.cont, σ₁, b₁, E₁, S₁, trivial, h₁⟩
    | _ => exact r₁.elim
  | ret v => cases fl with
    | ret d => exact ⟨.ret d, σ₁, b₁, E₁, S₁, r₁, h₁⟩
    | _ => exact r₁.elim

inductive QTm1 (X : Cx) (A : Around) (env : Env) (d : D) (suite : List Stmt) (Q : Fl → Sg → Prop) (k : D) (σ₂ : Sg) : Prop
  | mk (kds : List (Str × D)) (x : Str) (dc : Dct X σ₂ d kds) (e : k = .str x) (l : kds.lookup x = none) (n : nsIn X.K mainGlobals "KeyError" = some none) (p : ∀ v, Exs X (A.mark (some v)) env σ₂ suite Q)
abbrev QTm (X : Cx) (A : Around) (env : Env) (i : Expr) (suite : List Stmt) (Q : Fl → Sg → Prop) : D → Sg → Prop := fun d σ₁ => Ev X A env σ₁ i (QTm1 X A env d suite Q)
theorem ex_try_miss {o i : Expr} {name : Str} {p1 p2 p3 p4 np hp pos : Pos} {args : List Expr} {b₀ : Stmt} {suite orelse : List Stmt} {outer : List Env} {pl : Sem Bool}
    (hfr : X.fr = env :: outer) (hA : A.frames = some (env :: outer)) (hh : A.handled = none)
    (h : Ev X A env σ o (QTm X A env i (b₀ :: suite) Q))
    (hkk : env.kindOf "KeyError" = some .globalImplicit)
    (hi : interactive env = false) (hsw : swapsWith (.Call (.Attribute (.Subscript o i p1) name p2) args [] p3) none p4.line env = pure false)
    (he : eval (.Call (.Attribute (.Subscript o i p1) name p2) args [] p3) env = (do
      let ov ← eval (.Subscript o i p1) env
      standAt p2.atName
      let (f, first) ← holding [ov] (getMethod ov name pl)
      callWith p3 f first (backTo p3 (starEach args env)) []))
    (hs : ∀ v y u, subscripted i false v (.str y u) = operate [v, .str y u] (getItem v (.str y u))) : Ex X A env σ (.Try [.Expr (.Call (.Attribute (.Subscript o i p1) name p2) args [] p3) p4] [.ExceptHandler (some (.Name "KeyError" np)) none (b₀ :: suite) hp] orelse [] pos) Q := fun s b S => by
  refine wpAny_Try_except (wpAny_execs_cons (wpAny_Expr (MethodCall_ (pl := pl) (Subscript_ (wpAny_mono (h s b S) ?_ (fun _ _ x => x.elim))) he) hi hsw))
  rintro v₁ s₁ ⟨d₁, σ₁, b₁, E₁, S₁, r₁, h₁⟩
  refine wpAny_mono (h₁ s₁ b₁ S₁) ?_ (fun _ _ x => x.elim)
  rintro v₂ s₂ ⟨d₂, σ₂, b₂, E₂, S₂, r₂, kds, x, dc, rfl, hl, hkey, h₂⟩
  cases r₂
  rename_i tk
  obtain ⟨a, kvs, ep, rfl, n, g, ra⟩ := dc.at S₂ (r₁.mono E₂.ext.le)
  refine tail_any g.dictOf.typeIs slot_dict_getitem.lookup (wpAny_getItem_missing_of (knd := X.kd) (kdIs x tk) n hh g.dictOf.mapOf (by rw [valueAt_lookup (V := Value)]; exact ra.lookup_none hl) fun h₃ e hx => ?_) (hs _ _ _)
  obtain ⟨hk₃, hen, oe, te, hoe, hoc, hod⟩ := hx
  have hin : env ∈ X.fr := by rw [hfr]; exact .head _
  obtain ⟨kf, L, oL, esL, epL, hf, hbL, hwL, hL, hdL⟩ := S₂.fr env hin
  -- what is kept
  have hst : (noFrames X s₂.heap).StaysIn h₃ := fun a o q => hk₃ a o (noFrames_le a o q)
  have hne : (noFrames X s₂.heap).get? e = none := by
    cases q : (noFrames X s₂.heap).get? e with
    | none => rfl
    | some o => have := noFrames_le _ _ q; rw [hen] at this; cases this
  have hfun : h₃.FunFrames (noFrames X s₂.heap) (env :: outer) := funFrames_of S₂.fr hk₃ _ (by rw [hfr]; exact fun _ z => z)
  show wpAny _ _ (noteFrame (.ref e) env) _ _ _
  unfold noteFrame
  simp only [hf]
  refine wpAny_bind (wpAny_field hoe hod (x := .none) rfl ?_)
  rw [if_neg (by decide)]
  refine wpAny_entryW (vs := #[te, .none, .none, .none, .bool false, .none]) hA hfun hf hoe hst hne hod (by simp) rfl fun h₄ hN => ?_
  obtain ⟨k1, k2, k3, k4⟩ := hN
  refine wpAny_landsW (l := env :: outer) (L := L) ⟨k1, hne, k2, k3⟩ fun h₅ hfl₅ hsm₅ => ?_
  obtain ⟨f1, f2, f3, f4⟩ := hfl₅
  have hsm₂ : s₂.heap.UpToSlots h₅ := ((Heap.UpToSlots.of_keeps hk₃).trans (fun b o hb hnf => k4 b o hb hnf)).trans hsm₅
  obtain ⟨S₅, E₅⟩ := S₂.slots (h' := h₅) (tk := s₂.toks + 1) (fun a o na q => f1 a o (noFrames_get na q)) (fun a o q hnf => hsm₂ a o q hnf)
  refine wpAny_handleBy_builtin (X := "KeyError") (T := "KeyError") (b := true) PySem.W.kr_isExc_KeyError PySem.W.kr_notTuple_KeyError (by rw [isSubtype_type]; kernel_rfl) ?_
  have T := S₅.hp.top
  refine Name_function_global S₅.ok.kind hkk ?_ (by decide)
  refine loadGlobal_builtin (mg := X.mg) (mb := X.mb) (by rw [S₅.ok.glob]; exact T.tr.g.keeps S₅.hp.le) (mg_none_of T.inK T.tr.g hkey) (by rw [S₅.ok.blt]; exact T.tr.b.keeps S₅.hp.le) ((T.tr.builtins "KeyError" (by decide)).trans (by boot_fast)) ?_
  have hfl : Heap.FlyingW (noFrames X s₂.heap) (env :: outer) e (.type "KeyError") te h₅ := ⟨f1, f2, f3, by rw [← hoc]; exact f4⟩
  refine ⟨rfl, hfl.there, ?_⟩
  rw [if_pos rfl]
  refine lands_againW hfl fun h₆ hfl₆ hsm₆ => ?_
  have hsm := hsm₂.trans hsm₆
  obtain ⟨S₆, E₆⟩ := S₂.slots (h' := h₆) (tk := s₂.toks + 1) (fun a o na q => hfl₆.1 a o (noFrames_get na q)) (fun a o q hnf => hsm a o q hnf)
  refine wpAny_mono (h₂ (.ref e) _ b₂ S₆) (fun f s' q => ((q.after E₆).after E₂).after E₁) (fun _ _ x => x.elim)
end Mine

namespace Mine
open PySem PySem.W PySem.Calls PyProof.Rows Builtin Builtin.Str
variable {X : Cx} {A : Around} {env : Env} {σ : Sg} {P : D → Sg → Prop} {Q : Fl → Sg → Prop}

def fmtA : PySem.Str := ⟨#[37, 115, 32, 45, 62, 32, 37, 115]⟩
def arrowS : PySem.Str := ⟨#[32, 45, 62, 32]⟩
def fmtE : PySem.Str := ⟨#[37, 115, 32, 45, 62, 32, 60, 101, 109, 112, 116, 121, 62]⟩
theorem pct_e {prog : Program} {w : World} {E : Value → Shared → Prop} {s : Shared} {x : PySem.Str} {t u : Tok} {QQ : Value → Shared → Prop} (hx : x.length ≤ 1000000)
    (h : ∀ t' k, QQ (.str (x ++ PySem.Str.ofString " -> <empty>") t') { s with toks := k }) : wpAny (model prog w) A (binaryOp .Mod (.str fmtE t) (.str x u)) QQ E s := by
  refine KPc.mod_str (X' := ⟨#[37, 115, 32, 45, 62, 32, 60, 101, 109, 112, 116, 121, 62]⟩) (T := fun x => x ++ PySem.Str.ofString " -> <empty>") rfl hx (by k_dflt kpc_run_s) fun t' k => h t' k
/-! as operations -/
theorem show_strs (ss : List PySem.Str) : (D.list (ss.map D.str)).py.showable = true := by
  simp only [D.py, PyData.showable, pyAll_eq, List.map_map]
  induction ss with
  | nil => simp [PyData.showableAll]
  | cons s r ih => simp only [List.map_cons, PyData.showableAll, ih, Bool.and_true]; simp [D.py, PyData.showable]
theorem op_pct_e {x : PySem.Str} (hx : x.length ≤ 1000000) (p : P (.str (x ++ PySem.Str.ofString " -> <empty>")) σ) : Op X A env σ (binaryOp .Mod) (.str fmtE) (.str x) P := fun s b v w S rx ry => by
  cases rx; cases ry
  exact pct_e hx fun t' k => Po.tok S (.str ..) p
def shownS (ss : List PySem.Str) : PySem.Str := (D.list (ss.map D.str)).py.shown
end Mine

namespace Mine
open PySem PySem.W PySem.Calls PyProof.Rows
variable {X : Cx} {A : Around} {env : Env} {σ : Sg} {P : D → Sg → Prop} {Q : Fl → Sg → Prop}

theorem RpAll.inv {b : Heap} {vs : List Value} {d : D} {ds : List D} (h : RpAll X b vs (d :: ds)) : ∃ v vs', vs = v :: vs' ∧ Rp X b v d ∧ RpAll X b vs' ds := by
  cases h with
  | cons r q => exact ⟨_, _, rfl, r, q⟩
theorem RpAll.inv0 {b : Heap} {vs : List Value} (h : RpAll X b vs []) : vs = [] := by cases h; rfl
theorem ob_tup {PB : Bool → Sg → Prop} {ds : List D} (hz : ds.length ≤ sizeLine) (p : PB (!ds.isEmpty) σ) : OpB X A env σ truthy (.tup ds) PB := fun s b v S r => by
  cases r with
  | tup g ra =>
  rename_i a vs n
  have e : vs.size = ds.length := by rw [← ra.length]; simp
  refine PyProof.Rows.truthy_tuple (isTuple_of (S.hp.le _ _ g)) (by have := hsl; omega) ?_
  have : (!vs.isEmpty) = !ds.isEmpty := by
    cases ds with
    | nil => have : vs = #[] := by simpa using e
             subst this; rfl
    | cons d r => 
      have : vs.size ≠ 0 := by rw [e]; simp
      have h2 : vs.isEmpty = false := by simpa using this
      rw [h2]; rfl
  exact PoB.tok S (this ▸ p)

theorem ex_aug_sub {x : Str} {value : Expr} {pos' pos : Pos} {a m : Int} (hv : σ.ρ.lookup x = some (.int a)) (hk : env.kindOf x = some .local)
    (h : Ev X A env σ value (fun d σ₁ => d = .int m ∧ Q .next ⟨(x, .int (a - m)) :: σ₁.ρ, σ₁.ω⟩)) : Ex X A env σ (.AugAssign (.Name x pos') .Sub value pos) Q := fun s b S => by
  obtain ⟨mm, hn, hm⟩ := S.fm.ns
  obtain ⟨v, h1, h2⟩ := hm x _ hk hv
  cases h2
  refine wpAny_AugAssign_Name (wpAny_loadName_local S.ok.kind hk hn h1 (wpAny_mono (h s b S) ?_ fun _ _ x => x))
  rintro v s₁ ⟨d, σ₁, b₁, E₁, S₁, r₁, rfl, q⟩
  cases r₁
  refine PySem.AutoIntOps.isub_0 ?_
  have hl : isLoc env x = true := by unfold isLoc; rw [hk]
  refine store_var (S₁.toks (s₁.toks + 1)).1 (.int ..) hl fun s' S' E' => ⟨.next, _, b₁, (E₁.trans (S₁.toks (s₁.toks + 1)).2).trans E', S', trivial, q⟩

/-! enumerate over a tuple -/
theorem wpAny_nextOf_tuple_item {prog : Program} {w : World} {E : Value → Shared → Prop} {s : Shared} {it l : Addr} {i : Nat} {items : Array Value} {x : Value} {QQ : Value → Shared → Prop} (hit : s.heap.IsTupleIter it l i)
    (hl : s.heap.IsTuple l items) (hx : items[i]? = some x)
    (hQ : ∀ h', h'.IsTupleIter it l (i + 1) → Heap.SameBut it s.heap h' → QQ x { s with heap := h' }) :
    wpAny (model prog w) A (Builtin.SmallTypes.nextOf (.ref it)) QQ E s := by
  obtain ⟨o, ho, hc, hd⟩ := id hit
  obtain ⟨ol, hol, _, nl, hdl⟩ := hl
  unfold Builtin.SmallTypes.nextOf
  refine wpAny_bind (wpAny_callSpecial?_slot (name := Str.ofString "__next__") hit.typeIs PySem.F.slot_tuple_iterator_next
    (wpAny_call_entry PySem.F.slot_tuple_iterator_next hit.typeIs PySem.F.entry_tuple_iterator_next ?_ (PySem.F.args_tuple_iterator_next_1 _)))
  show wpAny _ _ (field (.ref it) 0 >>= _) _ _ s
  refine wpAny_bind (wpAny_field ho hd (x := .ref l) rfl ?_)
  show wpAny _ _ (if (Value.ref l == Value.none) = true then _ else _) _ _ s
  rw [if_neg (show ¬ ((Value.ref l == Value.none) = true) from Bool.false_ne_true)]
  show wpAny _ _ (field (.ref it) 1 >>= _) _ _ s
  refine wpAny_bind (wpAny_field ho hd (x := .int i 0) rfl ?_)
  show wpAny _ _ (seqItems? (.ref l) >>= _) _ _ s
  refine wpAny_bind (wpAny_seqItems hol hdl ?_)
  simp only [Int.toNat_natCast, hx]
  refine wpAny_bind (wpAny_setField ho hd (by simp) (wpAny_pure ⟨x, rfl, wpAny_pure (hQ _ ?_ (Heap.SameBut.update ..))⟩))
  exact ⟨_, Heap.get?_update_self _ ho (Obj.isFreed_of_fields (Obj.data_mapFields hd _)), (Obj.cls_mapFields ..).trans hc, by
    rw [Obj.data_mapFields hd]; simp [rawInt]⟩
theorem wpAny_nextOf_tuple_end {prog : Program} {w : World} {E : Value → Shared → Prop} {s : Shared} {it l : Addr} {i : Nat} {items : Array Value} {QQ : Value → Shared → Prop} (hh : A.handled = none)
    (hit : s.heap.IsTupleIter it l i) (hl : s.heap.IsTuple l items) (hx : items[i]? = none)
    (hE : ∀ h' e, Heap.ExtBut it s.heap h' → (∃ o, h'.get? e = some o ∧ o.cls = .type "StopIteration") → E (.ref e) { s with heap := h' }) :
    wpAny (model prog w) A (Builtin.SmallTypes.nextOf (.ref it)) QQ E s := by
  obtain ⟨o, ho, hc, hd⟩ := id hit
  obtain ⟨ol, hol, _, nl, hdl⟩ := hl
  unfold Builtin.SmallTypes.nextOf
  refine wpAny_bind (wpAny_callSpecial?_slot (name := Str.ofString "__next__") hit.typeIs PySem.F.slot_tuple_iterator_next
    (wpAny_call_entry PySem.F.slot_tuple_iterator_next hit.typeIs PySem.F.entry_tuple_iterator_next ?_ (PySem.F.args_tuple_iterator_next_1 _)))
  show wpAny _ _ (field (.ref it) 0 >>= _) _ _ s
  refine wpAny_bind (wpAny_field ho hd (x := .ref l) rfl ?_)
  show wpAny _ _ (if (Value.ref l == Value.none) = true then _ else _) _ _ s
  rw [if_neg (show ¬ ((Value.ref l == Value.none) = true) from Bool.false_ne_true)]
  show wpAny _ _ (field (.ref it) 1 >>= _) _ _ s
  refine wpAny_bind (wpAny_field ho hd (x := .int i 0) rfl ?_)
  show wpAny _ _ (seqItems? (.ref l) >>= _) _ _ s
  refine wpAny_bind (wpAny_seqItems hol hdl ?_)
  simp only [Int.toNat_natCast, hx]
  refine wpAny_bind (wpAny_rule (wpAny_bind (wpAny_setField ho hd (by simp) ?_)))
  show wpAny _ _ (newExc (.type "StopIteration") [] >>= _) _ _ _
  refine wpAny_bind ?_
  simp only [newExc, newTuple]
  refine wpAny_bind (wpAny_newObj_type ?_ (by size_fits))
  refine wpAny_bind (m := firstArgMember _ _) (wpAny_of_eq (a := Value.none) (by first | rfl | (simp only [firstArgMember]; rfl)) ?_)
  refine wpAny_newObj_type ?_ (by size_fits)
  simp only [raiseNew]
  refine wpAny_bind (wpAny_handled ?_)
  first | rw [show A.in1.handled = none from hh] | rw [hh]
  refine wpAny_bind (wpAny_pure (wpAny_throw ?_))
  exact hE _ _ (((Heap.SameBut.update ..).extBut.push _).push _) ⟨_, Heap.get?_push_size _ rfl, rfl⟩
theorem drawsTuple {prog : Program} {w : World} (hh : A.handled = none) (it l : Addr) (hne : l ≠ it) (items : Array Value) :
    Draws prog w A it [it, l] items.size (fun i v => items[i]? = some v) (fun i h => h.IsTupleIter it l i ∧ h.IsTuple l items) where
  live := fun _ _ st => let ⟨o, ho, _⟩ := st.1; ⟨o, ho⟩
  frame := fun _ _ _ st hk => let ⟨⟨o, h1, r⟩, ⟨o', h2, r'⟩⟩ := st; ⟨⟨o, hk it (by simp) o h1, r⟩, ⟨o', hk l (by simp) o' h2, r'⟩⟩
  item := fun i s QQ E hi st hQ => by
    refine wpAny_nextOf_tuple_item st.1 st.2 (x := items[i]) (by simp [hi]) fun h' hit' hs' => ?_
    exact hQ _ h' s.toks (by simp [hi]) ⟨hit', st.2.extBut hs'.extBut hne⟩ hs'
  done := fun s QQ E st hE => wpAny_nextOf_tuple_end hh st.1 st.2 (by simp) hE

theorem meets_enumerate_newT (l : Addr) (items : Array Value) (n : Nat) (dct : Option Addr) (sl : Array (Option Value)) :
    Meets (Builtin.«enumerate.__new__» ⟨[.type "enumerate", .ref l], []⟩) (fun _ R s => s.heap.get? l = some { cls := .type "tuple", dict := dct, data := .seq items n, slots := sl } ∧
      R (.ok (.ret (.ref (s.heap.push { cls := .type "tuple_iterator", data := .fields #[.ref l, .int 0 0] }).objs.size)))
        { s with heap := (s.heap.push { cls := .type "tuple_iterator", data := .fields #[.ref l, .int 0 0] }).push { cls := .type "enumerate", data := .fields #[.none, .bool false, .ref s.heap.objs.size, rawInt 0, .none, .none] } }) :=
  .of_wp fun prog w A R s h => by
    obtain ⟨hp, g, d, tk, os⟩ := s; obtain ⟨hl, h⟩ := h
    have hsub := sub_enumerate
    have hL : Heap.IsTuple (Shared.heap ⟨hp, g, d, tk, os⟩) l items := ⟨_, hl, rfl, n, rfl⟩
    wp_walk using AutoSeq1.wpAny_loadPart' hl
    refine wpAny_stack_any fun st => wpAny_pure ?_
    split
    · rename_i c _ _ _ _ _
      cases (c == Value.type "enumerate")
      · wp_walk using AutoSeq1.wpAny_loadPart' hl, wpAny_pyIter_tuple hL
        exact ⟨_, rfl, h⟩
      · wp_walk using AutoSeq1.wpAny_loadPart' hl, wpAny_pyIter_tuple hL
        exact ⟨_, rfl, h⟩
    · wp_walk using AutoSeq1.wpAny_loadPart' hl, wpAny_pyIter_tuple hL
      exact ⟨_, rfl, h⟩
theorem call_enumerate_tuple {prog : Program} {w : World} {E : Value → Shared → Prop} {s : Shared} {l : Addr} {items : Array Value} {QQ : Value → Shared → Prop} (hL : s.heap.IsTuple l items)
    (h : ∀ h', IsEnum h' (s.heap.objs.size + 1) s.heap.objs.size 0 .none → h'.IsTupleIter s.heap.objs.size l 0 → h'.objs.size = s.heap.objs.size + 2 →
      (∀ b o, s.heap.get? b = some o → h'.get? b = some o) → QQ (.ref (s.heap.objs.size + 1)) { s with heap := h' }) :
    wpAny (model prog w) A (call (.type "enumerate") [.ref l]) QQ E s := by
  obtain ⟨⟨c, dct, dt, sl⟩, hl, hc, n, hd⟩ := hL
  replace hc : c = .type "tuple" := hc
  replace hd : dt = .seq items n := hd
  subst hc hd
  refine callType_new F.called_enumerate (by decide) (F.typeCall_enumerate_1 _) (F.newCall_enumerate_1 _) (fun obj => F.args_object_init_2 obj _) F.entry_enumerate_new
    (meets_enumerate_newT l items n dct sl) ⟨hl, ?_⟩
  have hz : (s.heap.push { cls := .type "tuple_iterator", data := .fields #[.ref l, .int 0 0] }).objs.size = s.heap.objs.size + 1 := Heap.size_push ..
  show _ ∧ _
  rw [hz]
  have he : IsEnum ((s.heap.push { cls := .type "tuple_iterator", data := .fields #[.ref l, .int 0 0] }).push
      { cls := .type "enumerate", data := .fields #[.none, .bool false, .ref s.heap.objs.size, rawInt 0, .none, .none] }) (s.heap.objs.size + 1) s.heap.objs.size 0 .none := by
    have := Heap.get?_push_size (s.heap.push { cls := .type "tuple_iterator", data := .fields #[.ref l, .int 0 0] })
      (o := { cls := .type "enumerate", data := .fields #[.none, .bool false, .ref s.heap.objs.size, rawInt 0, .none, .none] }) rfl
    rw [hz] at this; exact this
  exact ⟨⟨_, he, rfl⟩, h _ he ⟨_, Heap.get?_push_of_some _ (Heap.get?_push_size _ rfl), rfl, rfl⟩ (by rw [Heap.size_push, hz]) fun b o x => Heap.get?_push_of_some _ (Heap.get?_push_of_some _ x)⟩

theorem itr_enumT {elts : List Expr} {x1 : Nat} {tpos : Pos} {e I a : Addr} {b₀ : Heap} {vs : Array Value} {n : Nat} {ds : List D} (hh : A.handled = none) (hne : e ≠ I) (hei : e ≠ a) (hia : a ≠ I) (hg : b₀.get? a = some (seqObj "tuple" vs n)) (ra : RpAll X b₀ vs.toList ds) :
    Itr X A (.Tuple elts x1 tpos) (.ref e) b₀ [e, I] (fun i h => (∃ old, IsEnum h e I (i : Nat) old) ∧ h.IsTupleIter I a i ∧ i ≤ vs.size) (fun _ => some (enumD ds)) where
  frame := fun i h h' ⟨⟨old, j1⟩, ⟨o, j2, r⟩, j3⟩ k => ⟨⟨old, k e (by simp) _ j1⟩, ⟨o, k I (by simp) o j2, r⟩, j3⟩
  live := fun i h ⟨⟨old, j1⟩, ⟨o, j2, _⟩, _⟩ x hx => by
    rcases List.mem_cons.mp hx with rfl | hx
    · exact ⟨_, j1⟩
    · rw [List.mem_singleton.mp hx]; exact ⟨o, j2⟩
  item := fun env σ i ds' d s b S hb ⟨⟨old, j1⟩, j2, j3⟩ q g ap => by
    cases q
    obtain ⟨x, hx, rfl⟩ := enumD_get g
    obtain ⟨v, hv, r⟩ := (ra.mono hb).getD hx
    have hv' : vs[i]? = some v := by simpa using hv
    have hlt : i < vs.size := (Array.getElem?_eq_some_iff.mp hv').1
    have hef : e ∉ [I, a] := by simp [hne, hei]
    refine wpAny_pyNext_enum_itemD (drawsTuple (A := A.in1) hh I a hia vs) j1 ⟨j2, isTuple_of (S.hp.le _ _ (hb _ _ hg))⟩ hlt hne hef fun x' h' tk hx' k1 k2 k3 k4 k5 => ⟨_, rfl, ?_⟩
    rw [hv'] at hx'; cases hx'
    refine wpAny_letOwnedTupleGo_enum (s := { s with heap := h', toks := tk + 1 }) k1 fun h₂ m1 m2 => ?_
    have hT : ∀ y ∈ [e, I], s.heap.objs.size ≠ y := fun y hy z => by
      have : ∃ o, s.heap.get? y = some o := by
        rcases List.mem_cons.mp hy with rfl | hy
        · exact ⟨_, j1⟩
        · rw [List.mem_singleton.mp hy]; obtain ⟨o, j3, _⟩ := j2; exact ⟨o, j3⟩
      obtain ⟨o, ho⟩ := this
      rw [← z, fresh_none] at ho; cases ho
    have k5' : ∀ y o, y ∉ [e, I] → s.heap.get? y = some o → h₂.get? y = some o := fun y o hy q => (m2.2 y (fun z => hy (by simp [z]))).trans (k5 y o (fun z => hy (by simp [z])) (fun z => hy (by simp [z])) q)
    have hTg : h₂.get? s.heap.objs.size = some (seqObj "tuple" #[.int (i : Nat) tk, v] 0) := (m2.2 _ (hT e (by simp))).trans k3
    have hbh : Le b h₂ := fun y o q => k5' y o (fun z => by rw [ap.b y z] at q; cases q) (S.hp.le _ _ q)
    obtain ⟨⟨o2, hk2, hk2'⟩, _⟩ := k2
    refine ⟨h₂, grow b h₂ (· == s.heap.objs.size), tk + 1, rfl, ⟨⟨v, ?_⟩, ⟨o2, (m2.2 _ (Ne.symm hne)).trans hk2, hk2'⟩, hlt⟩, k5', grow_le hbh, grow_in, fun y o q => ?_, ?_⟩
    · have e1 : ((i : Nat) : Int) + 1 = ((i + 1 : Nat) : Int) := by omega
      rw [← e1]; exact m1
    · rcases grow_new q with z | z
      · exact .inl z
      · exact .inr (by rw [beq_iff_eq.mp z]; exact fresh_none _)
    · exact .tup (grow_get (by simp) hTg) (.cons (.int ..) (.cons (r.mono (grow_le hbh)) .nil))
  done := fun env σ i ds' s b S hb ⟨⟨old, j1⟩, j2, j3⟩ q g ap => by
    cases q
    have hx := enumD_none g
    have hlen := ra.length
    have hg' : ds.length ≤ i := by simpa using hx
    have hi : i = vs.size := by
      have : vs.size = ds.length := by rw [← hlen]; simp
      omega
    subst hi
    exact wpAny_pyNext_enum_endD (drawsTuple (A := A.in1) hh I a hia vs) j1 ⟨j2, isTuple_of (S.hp.le _ _ (hb _ _ hg))⟩ fun h' he => ⟨rfl, h', s.toks, rfl, fun x o hx e => he x o (fun z => hx (by simp [z])) e⟩
  self := fun i s QQ E j h => by obtain ⟨⟨old, j1⟩, j2⟩ := j; exact wpAny_pyIter_enum j1 h

theorem src_enumT {func e : Expr} {pos tpos : Pos} {elts : List Expr} {x1 : Nat} {ds : List D} {R : Sg → Prop} (hh : A.handled = none)
    (h : Ev X A env σ func (fun f σ₁ => f = .raw (.type "enumerate") ∧ Ev X A env σ₁ e (fun d σ₂ => d = .tup ds ∧ R σ₂)))
    (he : eval (.Call func [e] [] pos) env = (do callWith pos (← eval func env) [] (backTo pos (starEach [e] env)) (backToKw pos (keywordEach [] env))))
    (hst : starEach [e] env = (false, eval e env) :: starEach [] env) :
    Src X A env σ (.Call func [e] [] pos) (.Tuple elts x1 tpos) (fun _ => some (enumD ds)) R := fun s b S => by
  refine Call_ (wpAny_mono (h s b S) ?_ (fun _ _ x => x)) he
  rintro v₁ s₁ ⟨d₁, σ₁, b₁, E₁, S₁, r₁, rfl, h₁⟩
  cases r₁
  refine PySem.Pv.callWith_type1 (args_cons (wpAny_mono (h₁ s₁ b₁ S₁) ?_ (fun _ _ x => x)) hst) hst rfl
  rintro v₂ s₂ ⟨d₂, σ₂, b₂, E₂, S₂, r₂, rfl, hR⟩
  refine args_nil ?_
  cases r₂ with
  | tup g ra =>
  rename_i a vs n
  refine call_enumerate_tuple (isTuple_of (S₂.hp.le _ _ g)) fun h' k1 k2 k3 k4 => ?_
  refine wpAny_pyIter_enum k1 ?_
  obtain ⟨S₃, E₃⟩ := S₂.extend (h' := h') (b' := b₂) (tk := s₂.toks) k4 (Le.refl _) (S₂.hp.le.trans k4) (fun a o e => .inl ⟨o, e⟩)
  have fr : ∀ y ∈ [s₂.heap.objs.size + 1, s₂.heap.objs.size], s₂.heap.get? y = none := fun y hy => by
    cases q : s₂.heap.get? y with
    | none => rfl
    | some o =>
      have := Heap.lt_size q
      rcases List.mem_cons.mp hy with rfl | hy
      · exact absurd this (Nat.not_lt.mpr (Nat.le_succ _))
      · rw [List.mem_singleton.mp hy] at this; exact absurd this (Nat.lt_irrefl _)
  have ha : a < s₂.heap.objs.size := Heap.lt_size (S₂.hp.le _ _ g)
  exact ⟨σ₂, b₂, [s₂.heap.objs.size + 1, s₂.heap.objs.size], _, (E₁.trans E₂).trans E₃, S₃, apart_new S₂ fr, fun y hy => E₁.ext.none (E₂.ext.none (fr y hy)), itr_enumT hh (Nat.succ_ne_self _) (Ne.symm (Nat.ne_of_lt (Nat.lt_succ_of_lt ha))) (Nat.ne_of_lt ha) g ra, ⟨⟨_, k1⟩, k2, Nat.zero_le _⟩, hR⟩

inductive QSetN1 (X : Cx) (attr : Str) (v : D) (Q : Fl → Sg → Prop) (d : D) (σ₂ : Sg) : Prop
  | mk (c a : Addr) (kds : List (Str × D)) (ω' : Om) (e : d = .obj c a) (u : Upd a (.dct kds) (.dct (kds ++ [(attr, v)])) σ₂.ω ω') (l : kds.lookup attr = none) (t : storesPlain X.K c attr = true) (z : kds.length < sizeLine) (p : Q .next ⟨σ₂.ρ, ω'⟩)
abbrev QSetN (X : Cx) (A : Around) (env : Env) (o : Expr) (attr : Str) (Q : Fl → Sg → Prop) : D → Sg → Prop := fun v σ₁ => Ev X A env σ₁ o (QSetN1 X attr v Q)
theorem ex_setattr_new {o value : Expr} {attr : Str} {pos' pos : Pos}
    (h : Ev X A env σ value (QSetN X A env o attr Q))
    (hs : swapsWith value (some (.Attribute o attr pos')) pos.line env = pure false) : Ex X A env σ (.Assign [.Attribute o attr pos'] value pos) Q :=
  ex_setattr (Tr.mono h fun v σ₁ h₁ => Tr.mono h₁ fun d σ₂ ⟨c, a, kds, ω', h1, h2, h3, h4, h5, h6⟩ => ⟨c, a, kds, ω', h1, by rw [put_new h3]; exact h2, h4, h5, h6⟩) hs
end Mine

namespace Mine
open PySem PySem.W PySem.Calls PyProof.Rows
variable {X : Cx} {A : Around} {env : Env} {σ : Sg} {P : D → Sg → Prop} {Q : Fl → Sg → Prop}

/-! f-strings -/
theorem joins_mono {M : Model} : ∀ {parts : List (Sem Value)} {acc : Str} {Q₁ Q₂ : Str → Shared → Prop} {s : Shared}, Joins M A Never parts acc Q₁ s → (∀ o s, Q₁ o s → Q₂ o s) → Joins M A Never parts acc Q₂ s
  | [], _, _, _, _, h, k => k _ _ h
  | _ :: _, _, _, _, _, h, k => wpAny_mono h (fun v s₁ ⟨y, t, e, z, r⟩ => ⟨y, t, e, z, joins_mono r k⟩) (fun _ _ x => x)
def TrJ (X : Cx) (A : Around) (env : Env) (σ : Sg) (parts : List (Sem Value)) (acc : Str) (PJ : Str → Sg → Prop) : Prop :=
  ∀ s b, St X env σ b s → Joins X.M A Never parts acc (fun out s' => ∃ σ' b', Evo X env σ σ' s b s' b' ∧ St X env σ' b' s' ∧ PJ out σ') s
theorem trj_nil {acc : Str} {PJ : Str → Sg → Prop} (p : PJ acc σ) : TrJ X A env σ (evalEach [] env) acc PJ := fun s b S => ⟨σ, b, Evo.refl .., S, p⟩
theorem trj_cons {e : Expr} {rest : List Expr} {acc : Str} {PJ : Str → Sg → Prop} (h : Ev X A env σ e (fun d σ₁ => ∃ y, d = .str y ∧ (acc ++ y).length ≤ sizeLine ∧ TrJ X A env σ₁ (evalEach rest env) (acc ++ y) PJ))
    (he : evalEach (e :: rest) env = eval e env :: evalEach rest env) : TrJ X A env σ (evalEach (e :: rest) env) acc PJ := fun s b S => by
  rw [he]
  refine wpAny_mono (h s b S) ?_ (fun _ _ x => x)
  rintro v s₁ ⟨d, σ₁, b₁, E₁, S₁, r₁, y, rfl, hz, h₁⟩
  cases r₁
  exact ⟨y, _, rfl, hz, joins_mono (h₁ s₁ b₁ S₁) fun o s₂ ⟨σ₂, b₂, E₂, S₂, p⟩ => ⟨σ₂, b₂, E₁.trans E₂, S₂, p⟩⟩
theorem ev_joined {v₁ v₂ : Expr} {rest : List Expr} {pos : Pos} (h : TrJ X A env σ (evalEach (v₁ :: v₂ :: rest) env) Str.empty (fun out σ₁ => out.length ≤ sizeLine ∧ P (.str out) σ₁)) : Ev X A env σ (.JoinedStr (v₁ :: v₂ :: rest) pos) P := fun s b S => by
  refine wpAny_JoinedStr (joins_mono (h s b S) ?_)
  rintro o s₁ ⟨σ₁, b₁, E₁, S₁, hz, p⟩
  exact ⟨hz, (Po.tok S₁ (.str ..) p).after E₁⟩
theorem ev_fmt_str {value : Expr} {pos : Pos} (h : Ev X A env σ value (fun d σ₁ => ∃ x, d = .str x ∧ x.length ≤ sizeLine ∧ P (.str x) σ₁)) : Ev X A env σ (.FormattedValue value 115 none pos) P := fun s b S => by
  refine wpAny_FormattedValue_s (wpAny_mono (h s b S) ?_ (fun _ _ x => x))
  rintro v s₁ ⟨d, σ₁, b₁, E₁, S₁, r₁, x, rfl, hz, p⟩
  cases r₁
  have fin : ∀ (tk : Nat) (t : Tok), wpAny X.M A (formatField (.str x t) Str.empty) (Po X env σ s b P) Never { s₁ with toks := tk } := fun tk t =>
    wpAny_formatField_str ((Po.tok S₁ (.str ..) p).after E₁) ((Po.tok S₁ (.str ..) p).after E₁) hz
  exact wpAny_habitSame_str (fin s₁.toks _) (fin _ _) hz
theorem ev_fmt_list {value : Expr} {pos : Pos} {k : Nat} (R : ARoom k A) (h : Ev X A env σ value (fun d σ₁ => ∃ ss : List Str, d = .list (ss.map .str) ∧ okd 5 (.list (ss.map D.str)) = true ∧ (shownS ss).length ≤ 1000000 ∧ P (.str (shownS ss)) σ₁)) : Ev X A env σ (.FormattedValue value 115 none pos) P := fun s b S => by
  refine wpAny_FormattedValue_s (wpAny_mono (h s b S) ?_ (fun _ _ x => x))
  rintro v s₁ ⟨d, σ₁, b₁, E₁, S₁, r₁, ss, rfl, hd, hz, p⟩
  obtain ⟨as, rd⟩ := reads_of 5 _ _ r₁ hd
  obtain ⟨h3, h4⟩ := okd_lay _ _ hd
  have h2 := PyData.hasDict_of_canLay _ h3
  cases r₁ with
  | list g ra =>
  rename_i a vs n
  refine convS_of_reads rd (show_strs ss) (fun z => by rw [h2] at z; cases z) R.gd (by have := R.units; omega) S₁.hp.le (fun h' u tk hk => ?_) (by have := hsl; have : (shownS ss).length = (D.list (ss.map D.str)).py.shown.length := rfl; omega)
  obtain ⟨S₂, E₂⟩ := S₁.extend (h' := h') (b' := b₁) (tk := tk) hk (Le.refl _) (S₁.hp.le.trans hk) (fun a o e => .inl ⟨o, e⟩)
  refine wpAny_formatField_str ?_ ?_ (by have := hsl; have : (shownS ss).length = (D.list (ss.map D.str)).py.shown.length := rfl; omega)
  · exact ⟨_, σ₁, b₁, E₁.trans E₂, S₂, .str .., p⟩
  · exact ((Po.tok S₂ (.str ..) p).after E₂).after E₁
theorem TrB.sub {PB : Bool → Sg → Prop} {ρ ρ' : List (Str × D)} {ω : Om} {t : Sem Bool} (h : Sub ρ ρ') (x : TrB X A env ⟨ρ', ω⟩ t PB) : TrB X A env ⟨ρ, ω⟩ t PB := fun s b S =>
  wpAny_mono (x s b (S.sub h)) (fun f s' ⟨σ', b', E, S', p⟩ => ⟨σ', b', ⟨E.ext, E.dom⟩, S', p⟩) fun _ _ x => x
theorem RetC.same (c : C) {ω : Om} {fz : List Addr} : RetC X ω fz c c := by
  cases c with
  | lst ds => exact RetAll.same ds
  | dct ds => exact RetKv.same ds
theorem ol_refreeze {f : List Value → Sem Value} {ds : List D} (h : OpL X A env σ f ds (fun d σ₁ => ∃ fz d' ω', (∀ a ∈ fz, a ∈ σ₁.ω.map (·.1)) ∧ ((σ₁.ω.map (·.1)).Nodup → (∀ p ∈ ω', p.1 ∉ fz ∧ ∃ c, (p.1, c) ∈ σ₁.ω ∧ RetC X σ₁.ω fz c p.2) ∧ (ω'.map (·.1)).Nodup) ∧ Ret X σ₁.ω fz d d' ∧ P d' ⟨σ₁.ρ, ω'⟩)) : OpL X A env σ f ds P := fun s b vs S rv => by
  refine wpAny_mono (h s b vs S rv) ?_ (fun _ _ x => x)
  rintro v s₁ ⟨d, ⟨ρ₁, ω₁⟩, b₁, E₁, S₁, r₁, fz, d', ω', hfz, hω, hr, p⟩
  obtain ⟨b₂, l₂, S₂, E₂, g₂⟩ := S₁.refreeze (ρ' := ρ₁) fz hfz (hω S₁.hp.nod).1 (hω S₁.hp.nod).2 (fun x d e => ⟨d, e, .same d⟩)
  exact ⟨d', _, b₂, E₁.trans E₂, S₂, hr _ _ _ S₁.hp.cell l₂ g₂ v r₁, p⟩
end Mine

namespace Mine
open PySem PySem.W PySem.Calls PyProof.Rows
variable {X : Cx} {A : Around} {env : Env} {σ : Sg} {P : D → Sg → Prop} {Q : Fl → Sg → Prop}

/-! slices of what has no name -/
theorem wpAny_SliceOf {prog : Program} {w : World} {E : Value → Shared → Prop} {s : Shared} {value : Expr} {lower upper : Option Expr} {p pos : Pos} {T id : String} {Q : Value → Shared → Prop}
    (hl : typeLookup (.type T) "__getitem__" = pure (some (.builtin id)))
    (h : wpAny (model prog w) A (eval value env) (fun o s₁ => wpAny (model prog w) A (eval (.Slice lower upper none p) env) (fun i s₂ => s₂.TypeIs o T ∧ wpAny (model prog w) A (getItem o i) Q E s₂) E s₁) E s) :
    wpAny (model prog w) A (eval (.Subscript value (.Slice lower upper none p) pos) env) Q E s := by
  rw [eval_Subscript]
  refine wpAny_bind (wpAny_mono h (fun o s₁ h₁ => wpAny_bind (wpAny_holding (wpAny_mono h₁ (fun i s₂ h₂ => wpAny_bind (wpAny_standAt ?_)) fun _ _ x => x)))
    fun _ _ x => x)
  have fin : wpAny (model prog w) A (operate [i, o] (getItem o i)) (fun r s₃ => wpAny (model prog w) A (letTemporaryGo value o r >>= fun _ => pure r) Q E s₃) E s₂ :=
    wpAny_operating (wpAny_mono h₂.2 (fun r s₃ h₃ => wpAny_bind (wpAny_letTemporaryGo (wpAny_pure h₃))) fun _ _ x => x)
  first
    | (refine wpAny_bind ?_
       rw [getitemInPython_of_ne h₂.1.not_modules]
       refine wpAny_bind (wpAny_specialOf h₂.1 hl ?_)
       first
         | exact wpAny_pure (wpAny_bind fin)
         | exact wpAny_bind (wpAny_pure (wpAny_bind fin))
         | exact wpAny_bind fin)
    | (refine wpAny_bind (wpAny_specialOf h₂.1 hl ?_)
       first
         | exact wpAny_bind (wpAny_pure (wpAny_bind fin))
         | exact wpAny_bind fin)
theorem RpAll.drop' {b : Heap} : ∀ (k : Nat) {l : List Value} {m : List D}, RpAll X b l m → RpAll X b (l.drop k) (m.drop k) := by
  intro k
  induction k with
  | zero => intro l m h; simpa using h
  | succ k ih => intro l m h; cases h with
    | nil => simpa using RpAll.nil
    | cons r q => simpa using ih q
theorem ev_slice_fromA {v lo : Expr} {p pos : Pos} (h : Ev X A env σ v (fun d σ₁ => Ev X A env σ₁ lo (fun i σ₂ => ∃ (ds : List D) (k : Nat), i = .int (k : Int) ∧ k ≤ ds.length ∧ ds.length ≤ sizeLine ∧ Lst X σ₂ d ds ∧ P (.list (ds.drop k)) σ₂)))
    (hp : evalPart (some lo) env = eval lo env) : Ev X A env σ (.Subscript v (.Slice (some lo) none none p) pos) P := fun s b S => by
  refine wpAny_SliceOf (T := "list") list_getitem_lookup (wpAny_mono (h s b S) ?_ fun _ _ x => x)
  rintro o s₁ ⟨d, σ₁, b₁, E₁, S₁, r₁, h₁⟩
  refine wpAny_Slice ?_
  rw [hp]
  refine wpAny_mono (h₁ s₁ b₁ S₁) ?_ fun _ _ x => x
  rintro vl s₂ ⟨i, σ₂, b₂, E₂, S₂, r₂, ds, k, rfl, hk, hz, hl, p⟩
  rw [evalPart_none]
  refine wpAny_pure (wpAny_pure ?_)
  obtain ⟨a, vs, n, rfl, g, ra⟩ := hl.at S₂ (r₁.mono E₂.ext.le)
  cases r₂
  rename_i tk
  have e : vs.size = ds.length := by rw [← ra.length]; simp
  refine ⟨((isList_of g).push _).typeIs, wpAny_getItem_list_slice ((isList_of g).push _) (Heap.IsSliceOf.new ..) (lo := some (k : Int)) (hi := none) (.int ..) .none .none (by simp) ?_ (by omega)⟩
  rw [slicePick_from vs k (by omega)]
  obtain ⟨b₃, l₃, g₃, S₃, E₃⟩ := S₂.allocD { cls := .type "slice", data := .fields #[.int (k : Int) tk, .none, .none] }
  obtain ⟨b₄, l₄, g₄, S₄, E₄⟩ := S₃.allocD (seqObj "list" (vs.toList.drop k).toArray 0)
  refine ⟨.list (ds.drop k), σ₂, b₄, ((E₁.trans E₂).trans E₃).trans E₄, S₄, ?_, p⟩
  refine .list g₄ ?_
  simpa using (RpAll.drop' k ra).mono (l₃.trans l₄)
theorem ev_slice_fromTA {v lo : Expr} {p pos : Pos} (h : Ev X A env σ v (fun d σ₁ => Ev X A env σ₁ lo (fun i σ₂ => ∃ (ds : List D) (k : Nat), i = .int (k : Int) ∧ 1 ≤ k ∧ k ≤ ds.length ∧ ds.length ≤ sizeLine ∧ d = .tup ds ∧ P (.tup (ds.drop k)) σ₂)))
    (hp : evalPart (some lo) env = eval lo env) : Ev X A env σ (.Subscript v (.Slice (some lo) none none p) pos) P := fun s b S => by
  refine wpAny_SliceOf (T := "tuple") slot_tuple_getitem.lookup (wpAny_mono (h s b S) ?_ fun _ _ x => x)
  rintro o s₁ ⟨d, σ₁, b₁, E₁, S₁, r₁, h₁⟩
  refine wpAny_Slice ?_
  rw [hp]
  refine wpAny_mono (h₁ s₁ b₁ S₁) ?_ fun _ _ x => x
  rintro vl s₂ ⟨i, σ₂, b₂, E₂, S₂, r₂, ds, k, rfl, hk1, hk, hz, rfl, p⟩
  rw [evalPart_none]
  refine wpAny_pure (wpAny_pure ?_)
  cases r₁ with
  | tup g ra =>
  rename_i a vs n
  cases r₂
  rename_i tk
  have e : vs.size = ds.length := by rw [← ra.length]; simp
  have g2 := S₂.hp.le _ _ (E₂.ext.le _ _ g)
  obtain ⟨b₃, l₃, g₃, S₃, E₃⟩ := S₂.allocD { cls := .type "slice", data := .fields #[.int (k : Int) tk, .none, .none] }
  obtain ⟨b₄, l₄, g₄, S₄, E₄⟩ := S₃.allocD (seqObj "tuple" (vs.toList.drop k).toArray 0)
  have hT : IsTup (s₂.heap.push { cls := .type "slice", data := .fields #[.int (k : Int) tk, .none, .none] }) a vs := ⟨_, le_push _ _ _ _ g2, rfl, n, rfl⟩
  refine ⟨hT.typeIs, getItem_tuple_from hT (Heap.IsSliceOf.new ..) hk1 (by omega) ?_ (by omega)⟩
  refine ⟨.tup (ds.drop k), σ₂, b₄, ((E₁.trans E₂).trans E₃).trans E₄, S₄, ?_, p⟩
  refine .tup g₄ ?_
  simpa using (RpAll.drop' k ra).mono ((E₂.ext.le.trans l₃).trans l₄)
end Mine

namespace Mine
open PySem PySem.W PySem.Calls PyProof.Rows
open AutoSeq1 (wpAny_loadPart')
open MeetsSeq MeetsSeq2 MeetsSeq3 SeqRoads2

/-! tuples whose items are found equal, in one world -/
def EqIn (prog : Program) (w : World) (A : Around) (s : Shared) (y x : Value) : Prop :=
  ∀ (E : Value → Shared → Prop) (Q : Bool → Shared → Prop), Q true s → wpAny (model prog w) A (eqBool y x) Q E s
section
variable {prog : Program} {w : World} {A : Around} {E : Value → Shared → Prop} {s : Shared}
theorem tup_eq {l b : Addr} {items items2 : Array Value} {Q : Value → Shared → Prop} (hl : s.heap.IsTuple l items) (hb : s.heap.IsTuple b items2) (hsz : items.size = items2.size) (hu : A.units < cLine)
    (he : ∀ j (h1 : j < items.size) (h2 : j < items2.size), EqIn prog w A.in1 s items[j] items2[j]) (h : Q (.bool true) s) : wpAny (model prog w) A (compareOp .Eq (.ref l) (.ref b)) Q E s := by
  have tl := hl.typeIs
  have tb := hb.typeIs
  obtain ⟨⟨cls, dd, data, sl⟩, hl, hc, n, hd⟩ := id hl
  obtain ⟨⟨cls2, dd2, data2, sl2⟩, hb, hc2, n2, hd2⟩ := id hb
  simp only at hc hd hc2 hd2
  subst hc hd hc2 hd2
  refine wpAny_richCompare_same_room (op := .Eq) tl tb F.slot_tuple_eq (wpAny_call_entry F.slot_tuple_eq tl F.entry_tuple_eq ?_ (F.args_tuple_eq_2 _ _)) hu
  obtain ⟨hp, g, d, tk, os⟩ := s
  have f2 := AutoSeq1.sub_tuple_tuple
  have hZ : (items.toList.zip items2.toList).length = min items.size items2.size := by simp
  wp_walk using wpAny_loadPart' hl, wpAny_loadPart' hb, wpAny_forIn_list _ (fun rest b s' => b.1 = none ∧ s' = ⟨hp, g, d, tk, os⟩ ∧ ∃ i, rest = (items.toList.zip items2.toList).drop i) _
  case turn =>
    rintro ⟨y, x⟩ rest b s' ⟨hb', rfl, i, hz⟩
    have hlt : i < (items.toList.zip items2.toList).length := by
      rcases Nat.lt_or_ge i (items.toList.zip items2.toList).length with h' | h'
      · exact h'
      · rw [List.drop_of_length_le h'] at hz; cases hz
    have hm : i < min items.size items2.size := hZ ▸ hlt
    have h1 : i < items.size := Nat.lt_of_lt_of_le hm (Nat.min_le_left _ _)
    have h2 : i < items2.size := Nat.lt_of_lt_of_le hm (Nat.min_le_right _ _)
    rw [List.drop_eq_getElem_cons hlt] at hz
    injection hz with hyx hrest
    have hy : y = items[i] := by have := congrArg Prod.fst hyx; simpa using this
    have hx : x = items2[i] := by have := congrArg Prod.snd hyx; simpa using this
    subst hy hx
    refine wpAny_bind (he i h1 h2 _ _ ?_)
    wp_walk
    exact ⟨rfl, rfl, i + 1, hrest⟩
  case fin =>
    rintro ⟨b1, b2⟩ s' ⟨hb', rfl, i, hz⟩
    simp only at hb'
    subst hb'
    wp_walk
    refine ⟨_, rfl, ?_, ?_⟩
    · rw [hsz]; simp [Builtin.Tuple.tupleCompareSizes]
    · rw [hsz]; simpa [Builtin.Tuple.tupleCompareSizes] using h
  case h => exact ⟨rfl, rfl, 0, rfl⟩
theorem tup_ne {l b : Addr} {items items2 : Array Value} {Q : Value → Shared → Prop} (hl : s.heap.IsTuple l items) (hb : s.heap.IsTuple b items2) (hsz : items.size = items2.size) (hu : A.units < cLine)
    (he : ∀ j (h1 : j < items.size) (h2 : j < items2.size), EqIn prog w A.in1 s items[j] items2[j]) (h : Q (.bool false) s) : wpAny (model prog w) A (compareOp .NotEq (.ref l) (.ref b)) Q E s := by
  have tl := hl.typeIs
  have tb := hb.typeIs
  obtain ⟨⟨cls, dd, data, sl⟩, hl, hc, n, hd⟩ := id hl
  obtain ⟨⟨cls2, dd2, data2, sl2⟩, hb, hc2, n2, hd2⟩ := id hb
  simp only at hc hd hc2 hd2
  subst hc hd hc2 hd2
  refine wpAny_richCompare_same_room (op := .NotEq) tl tb F.slot_tuple_ne (wpAny_call_entry F.slot_tuple_ne tl F.entry_tuple_ne ?_ (F.args_tuple_ne_2 _ _)) hu
  obtain ⟨hp, g, d, tk, os⟩ := s
  have f2 := AutoSeq1.sub_tuple_tuple
  have hZ : (items.toList.zip items2.toList).length = min items.size items2.size := by simp
  wp_walk using wpAny_loadPart' hl, wpAny_loadPart' hb, wpAny_forIn_list _ (fun rest b s' => b.1 = none ∧ s' = ⟨hp, g, d, tk, os⟩ ∧ ∃ i, rest = (items.toList.zip items2.toList).drop i) _
  case turn =>
    rintro ⟨y, x⟩ rest b s' ⟨hb', rfl, i, hz⟩
    have hlt : i < (items.toList.zip items2.toList).length := by
      rcases Nat.lt_or_ge i (items.toList.zip items2.toList).length with h' | h'
      · exact h'
      · rw [List.drop_of_length_le h'] at hz; cases hz
    have hm : i < min items.size items2.size := hZ ▸ hlt
    have h1 : i < items.size := Nat.lt_of_lt_of_le hm (Nat.min_le_left _ _)
    have h2 : i < items2.size := Nat.lt_of_lt_of_le hm (Nat.min_le_right _ _)
    rw [List.drop_eq_getElem_cons hlt] at hz
    injection hz with hyx hrest
    have hy : y = items[i] := by have := congrArg Prod.fst hyx; simpa using this
    have hx : x = items2[i] := by have := congrArg Prod.snd hyx; simpa using this
    subst hy hx
    refine wpAny_bind (he i h1 h2 _ _ ?_)
    wp_walk
    exact ⟨rfl, rfl, i + 1, hrest⟩
  case fin =>
    rintro ⟨b1, b2⟩ s' ⟨hb', rfl, i, hz⟩
    simp only at hb'
    subst hb'
    wp_walk
    refine ⟨_, rfl, ?_, ?_⟩
    · rw [hsz]; simp [Builtin.Tuple.tupleCompareSizes]
    · rw [hsz]; simpa [Builtin.Tuple.tupleCompareSizes] using h
  case h => exact ⟨rfl, rfl, 0, rfl⟩

theorem EqIn.same (v : Value) : EqIn prog w A s v v := fun E Q h => SeqAt.EqAt.same v prog w E Q h
theorem EqIn.refs {l b : Addr} (h : ∀ (E : Value → Shared → Prop) (Q : Value → Shared → Prop), Q (.bool true) s → wpAny (model prog w) A (richCompare .Eq (.ref l) (.ref b)) Q E s) : EqIn prog w A s (.ref l) (.ref b) := fun E Q hq => by
  by_cases hne : l = b
  · subst hne; exact EqIn.same _ E Q hq
  unfold eqBool
  refine wpAny_holding ?_
  refine wpAny_ite_split (fun hab => absurd (by have := eq_of_beq hab; injection this) hne) (fun _ => ?_)
  exact wpAny_bind (h E _ (wpAny_truthy_bool hq))
end
/-- two dicts that say the same -/
structure EqDct (n : Nat) (k1 k2 : List (Str × D)) : Prop where
  len : k1.length = k2.length
  all : ∀ p ∈ k1, ∃ d', k2.lookup p.1 = some d' ∧ okd n p.2 = true ∧ okd n d' = true ∧ deq p.2 d' = true
variable {X : Cx} {A : Around} {env : Env} {σ : Sg} {P : D → Sg → Prop} {Q : Fl → Sg → Prop}
theorem RpKv.len {b : Heap} : ∀ {l : List (Str × Value)} {k : List (Str × D)}, RpKv X b l k → l.length = k.length
  | _, _, .nil => rfl
  | _, _, .cons _ r => by simp [RpKv.len r]
theorem dct_hits {n kk : Nat} {s : Shared} {b : Heap} (S : St X env σ b s) (R : A.units + 100 < cLine) (hn : n ≤ 20) {kvs2 : List (Str × Value)} {k2 : List (Str × D)} (r2 : RpKv X b kvs2 k2) :
    ∀ {kvs1 : List (Str × Value)} {k1 : List (Str × D)}, RpKv X b kvs1 k1 → (∀ p ∈ k1, ∃ d', k2.lookup p.1 = some d' ∧ okd n p.2 = true ∧ okd n d' = true ∧ deq p.2 d' = true) → KeqHits A s kvs2 kvs1 true
  | _, _, .nil, _ => .nil
  | _, _, .cons (k := k) (v := v) (d := d) r q, h => by
    obtain ⟨d', h1, h2, h3, h4⟩ := h _ (.head _)
    obtain ⟨y, hy, ry⟩ := r2.lookup h1
    obtain ⟨as, e1⟩ := reads_of n v d r h2
    obtain ⟨bs, e2⟩ := reads_of n y d' ry h3
    obtain ⟨l1, l2⟩ := okd_lay n _ h2
    obtain ⟨m1, m2⟩ := okd_lay n _ h3
    have e := SeqAt.eqAt_reads _ _ A s v y _ _ (S.hp.le.reads e1) (S.hp.le.reads e2) l1 m1 (by omega)
    have e' : PyData.eqv d.py d'.py = true := h4
    rw [e'] at e
    have := KeqHits.hit (k := k) (by rw [valueAt_lookup (V := Value)]; exact hy) e (dct_hits (kk := kk) S R hn r2 q fun p hp => h p (.tail _ hp))
    simpa using this
theorem eqIn_dct {n : Nat} {s : Shared} {b : Heap} (S : St X env σ b s) (R : A.units + 120 < cLine) (hn : n ≤ 20) {v w : Value} {k1 k2 : List (Str × D)} (rv : Rp X b v (.dct k1)) (rw' : Rp X b w (.dct k2)) (E : EqDct n k1 k2) : EqIn X.prog X.w A s v w := by
  cases rv with
  | dct n1 g1 r1 =>
  cases rw' with
  | dct n2 g2 r2 =>
  refine EqIn.refs fun EE QQ hq => ?_
  refine keq_eq n1 n2 (g1.keep S.hp.le).dictOf (g2.keep S.hp.le).dictOf (by omega) (r := true) (fun _ => dct_hits (kk := 0) S (by show A.units + 1 + 100 < cLine; omega) hn r2 r1 E.all) ?_
  have : (_ : List (Str × Value)).length = _ := (r1.len.trans E.len).trans r2.len.symm
  rw [this]; simpa using hq
theorem dd_at {n kk : Nat} {a1 a2 b1 b2 : List (Str × D)} (R : ARoom kk A) (hn : n ≤ 20) (E1 : EqDct n a1 b1) (E2 : EqDct n a2 b2) {s : Shared} {b : Heap} {v w : Value} (S : St X env σ b s) (rx : Rp X b v (.tup [.dct a1, .dct a2])) (ry : Rp X b w (.tup [.dct b1, .dct b2])) :
    ∃ l m xs ys, v = .ref l ∧ w = .ref m ∧ s.heap.IsTuple l xs ∧ s.heap.IsTuple m ys ∧ xs.size = ys.size ∧ ∀ j (h1 : j < xs.size) (h2 : j < ys.size), EqIn X.prog X.w A.in1 s xs[j] ys[j] := by
  cases rx with
  | tup g1 r1 =>
  rename_i l xs n1
  cases ry with
  | tup g2 r2 =>
  rename_i m ys n2
  have hu := R.units
  have z1 := r1.length
  have z2 := r2.length
  refine ⟨l, m, xs, ys, rfl, rfl, isTuple_of (S.hp.le _ _ g1), isTuple_of (S.hp.le _ _ g2), by simp at z1 z2; omega, ?_⟩
  obtain ⟨xs⟩ := xs
  obtain ⟨ys⟩ := ys
  dsimp only at r1 r2
  obtain ⟨x1, _, rfl, p1, r1⟩ := r1.inv
  obtain ⟨x2, _, rfl, p2, r1⟩ := r1.inv
  cases r1.inv0
  obtain ⟨y1, _, rfl, q1, r2⟩ := r2.inv
  obtain ⟨y2, _, rfl, q2, r2⟩ := r2.inv
  cases r2.inv0
  have hu' : A.in1.units + 120 < cLine := by show A.units + 1 + 120 < cLine; omega
  intro j h1 h2
  match j, h1 with
  | 0, _ => exact eqIn_dct S hu' hn p1 q1 E1
  | 1, _ => exact eqIn_dct S hu' hn p2 q2 E2
  | k + 2, h => simp at h; omega
theorem op_eq_dd {n kk : Nat} {a1 a2 b1 b2 : List (Str × D)} (R : ARoom kk A) (hn : n ≤ 20) (E1 : EqDct n a1 b1) (E2 : EqDct n a2 b2) (p : P (.bool true) σ) : Op X A env σ (compareOp .Eq) (.tup [.dct a1, .dct a2]) (.tup [.dct b1, .dct b2]) P := fun s b v w S rx ry => by
  obtain ⟨l, m, xs, ys, rfl, rfl, h1, h2, h3, h4⟩ := dd_at R hn E1 E2 S rx ry
  exact tup_eq h1 h2 h3 (by have := R.units; omega) h4 (Po.here S (.bool _) p)
theorem op_ne_dd {n kk : Nat} {a1 a2 b1 b2 : List (Str × D)} (R : ARoom kk A) (hn : n ≤ 20) (E1 : EqDct n a1 b1) (E2 : EqDct n a2 b2) (p : P (.bool false) σ) : Op X A env σ (compareOp .NotEq) (.tup [.dct a1, .dct a2]) (.tup [.dct b1, .dct b2]) P := fun s b v w S rx ry => by
  obtain ⟨l, m, xs, ys, rfl, rfl, h1, h2, h3, h4⟩ := dd_at R hn E1 E2 S rx ry
  exact tup_ne h1 h2 h3 (by have := R.units; omega) h4 (Po.here S (.bool _) p)
end Mine

namespace Mine
open PySem PySem.W PySem.Calls PyProof.Rows
variable {X : Cx} {A : Around} {env : Env} {σ : Sg} {P : D → Sg → Prop} {Q : Fl → Sg → Prop}

/-! a dict comprehension whose dict may change afterwards -/
inductive CompEndDC (X : Cx) (env : Env) (σ : Sg) (s : Shared) (b : Heap) (P : D → Sg → Prop) (acc C : Addr) (s' : Shared) : Prop
  | mk (out : List (Str × D)) (ω' : Om) (b' : Heap) (E : Evo X env σ ⟨σ.ρ, (acc, .dct out) :: ω'⟩ s b s' b') (S : St X env ⟨σ.ρ, (acc, .dct out) :: ω'⟩ b' s') (p : P (.raw (.ref acc)) ⟨σ.ρ, (acc, .dct out) :: ω'⟩) (a : Apart X [C] env ((acc, .dct out) :: ω') b') (n : s.heap.get? C = none) (m : ∃ m, s'.heap.Ns C m)

theorem comp_coreDC {kx vx target iter : Expr} {ifs : List Expr} {scope : Scope} {pos : Pos} (seq : Sg → Option (List D)) (N : Nat) (Inv : Nat → List (Str × D) → Om → Prop)
    (ok : CompOk scope env)
    (hsrc : Src X A env σ iter target seq (fun σ₁ => σ₁.ρ = σ.ρ ∧ Inv 0 [] σ₁.ω))
    (hN : ∀ i out ω acc, Inv i out ω → ∃ ds, seq ⟨pick (freesOf scope) σ.ρ, (acc, .dct out) :: ω⟩ = some ds ∧ ds.length ≤ N)
    (hout : ∀ i out ω, Inv i out ω → out.length ≤ sizeLine)
    (step : ∀ cl C acc i out ω ds d, Inv i out ω → seq ⟨pick (freesOf scope) σ.ρ, (acc, .dct out) :: ω⟩ = some ds → ds[i]? = some d →
      Asg X A (compEnvC scope cl C env) ⟨pick (freesOf scope) σ.ρ, (acc, .dct out) :: ω⟩ target d (fun σ₁ => TsB X A (compEnvC scope cl C env) σ₁ ifs (fun c σ₂ =>
        if c = true then Ev X A (compEnvC scope cl C env) σ₂ kx (fun kr σ₃ => Ev X A (compEnvC scope cl C env) σ₃ vx (fun r σ₄ => ∃ k ω', kr = .str k ∧ σ₄.ω = (acc, .dct out) :: ω' ∧ Inv (i + 1) (put out k r) ω'))
        else ∃ ω', σ₂.ω = (acc, .dct out) :: ω' ∧ Inv (i + 1) out ω')))
    (fin : ∀ i out ω ds acc, Inv i out ω → seq ⟨pick (freesOf scope) σ.ρ, (acc, .dct out) :: ω⟩ = some ds → ds[i]? = none → P (.raw (.ref acc)) ⟨σ.ρ, (acc, .dct out) :: ω⟩) :
    ∀ s b, St X env σ b s → wpAny X.M A (eval iter env) (fun x s₁ => wpAny X.M A (pyIter x) (fun it s₂ => wpAny X.M A newDict (fun acc s₃ =>
      wpAny X.M A (newFunctionEnv scope env.globals (clo env.cells scope.names []) [] env.qual none .none (some env)) (fun cenv s₄ =>
        codeAny X.M A (.compStart (.DictComp kx vx [⟨target, iter, ifs, 0⟩] scope pos) 0 it acc { cenv with scope := relabel scope env }) (fun r s' => ∃ f a, r = .ok f ∧ acc = .ref a ∧ CompEndDC X env σ s b P a cenv.locals s') s₄)
        Never s₃) Never s₂) Never s₁) Never s := by
  intro s b S
  refine wpAny_mono (hsrc s b S) ?_ (fun _ _ x => x)
  intro x s₁ hx
  refine wpAny_mono hx ?_ (fun _ _ x => x)
  rintro it s₂ ⟨σ₁, b₁, own, J, E₂, S₂, ap₂, hfr, I, hJ, hρ, hI0⟩
  obtain ⟨ρ₁, ω₁⟩ := σ₁
  dsimp only at hρ hI0 ap₂
  subst hρ
  -- the list that is filled
  have hacc := S₂.allocC emptyDict (.dct []) (cell_new S₂)
  obtain ⟨S₃, E₃⟩ := hacc
  refine wpAny_bind (wpAny_alloc (wpAny_pure ?_))
  generalize hacc : s₂.heap.objs.size = acc at S₃ E₃ ⊢
  have accNone : s₂.heap.get? acc = none := hacc ▸ fresh_none _
  generalize hs₃ : ({ s₂ with heap := s₂.heap.push (emptyDict) } : Shared) = s₃ at S₃ E₃ ⊢
  have S₃' : St X env ⟨σ.ρ, (acc, .dct []) :: ω₁⟩ b₁ s₃ := S₃
  have E₃' : Evo X env ⟨σ.ρ, ω₁⟩ ⟨σ.ρ, (acc, .dct []) :: ω₁⟩ s₂ b₁ s₃ b₁ := E₃
  have ap₃ : Apart X own env ((acc, C.dct []) :: ω₁) b₁ := ap₂.after (σ := ⟨σ.ρ, ω₁⟩) (σ' := ⟨σ.ρ, (acc, .dct []) :: ω₁⟩) E₃' (I.live _ _ hJ)
  have hJ₃ : J 0 s₃.heap := I.frame _ _ _ hJ fun a ha o e => ap₂.keep (σ := ⟨σ.ρ, ω₁⟩) E₃' ha e
  -- the block's own names
  refine wpAny_newFunctionEnv ok.noCell (by intro y hy; cases hy) (fun h₄ hns hsb => ?_) ok.kind
  obtain ⟨hv, CNone, CNone₀, hle₄, hvle, hvn, SV, EV, back, SC, apC⟩ := comp_setup ok S E₂ S₃' E₃' ap₃ hfr (I.live _ _ hJ₃) hns hsb
  have hJ₄ : J 0 h₄ := I.frame _ _ _ hJ₃ fun a ha o e => hle₄ _ _ e
  generalize hC : s₃.heap.objs.size = cA at hns hsb CNone CNone₀ back SC apC ⊢
  show codeAny X.M A (.compStart _ 0 it (.ref acc) (compEnvC scope (clo env.cells scope.names []) cA env)) _ _
  generalize hcl : clo env.cells scope.names [] = cl at back SC apC ⊢
  -- the turns
  let RR : Result → Shared → Prop := fun r s' => ∃ f a, r = .ok f ∧ Value.ref acc = .ref a ∧ CompEndDC X env σ s b P a cA s'
  have loop : codeAny X.M A (.compLoop (.DictComp kx vx [⟨target, iter, ifs, 0⟩] scope pos) 0 it (.ref acc) (compEnvC scope cl cA env)) RR { s₃ with heap := h₄, toks := s₃.toks + 0 } := by
    let II : Nat → Shared → Prop := CmpI C.dct X (compEnvC scope cl cA env) own J Inv (pick (freesOf scope) σ.ρ) acc (.dct []) ω₁ { s₃ with heap := hv, toks := s₃.toks + 0 } b₁ N
    refine compLoop_anyD II ?_ (N + 1)
      ⟨0, [], ω₁, b₁, rfl, Nat.zero_le _, hI0, SC, ⟨⟨fun a o _ e => kept (hvle _ _ e), Le.refl _, fun a o e => .inl ⟨o, e⟩, fun a o e => ⟨o, hvle _ _ e⟩, rfl, rfl⟩, fun a h => .inl h⟩, hJ₄, apC⟩
    rintro n s' ⟨i, out, ω', b', rfl, hi, hinv, S', E', hJ', ap'⟩
    obtain ⟨ds, hds, hlen⟩ := hN i out ω' acc hinv
    cases hc : ds[i]? with
    | none =>
      refine wpAny_mono (I.done _ _ i ds s' b' S' E'.ext.le hJ' hds hc ap') ?_ (fun _ _ x => x.elim)
      rintro r s'' ⟨rfl, h₅, tk₅, rfl, hk₅⟩
      refine ⟨.next, acc, rfl, rfl, ?_⟩
      obtain ⟨L₆, F₆, AP, hNs⟩ := comp_done (tk₅ := tk₅) CNone CNone₀ S₃' ap₃ hfr SV EV S' E' ap' hk₅
      refine ⟨out, ω', b', F₆, L₆, fin i out ω' ds acc hinv hds hc, AP _ b' id (fun o q => .inl ⟨o, q⟩), CNone₀, hNs⟩
    | some d =>
      refine wpAny_mono (I.item _ _ i ds d s' b' S' E'.ext.le hJ' hds hc ap') ?_ (fun _ _ x => x.elim)
      rintro r s'' ⟨v', rfl, hw⟩
      refine wpAny_mono hw ?_ (fun _ _ x => x.elim)
      rintro _ s₅ ⟨h₅, b₅, tk₅, rfl, hJ₅, hk₅, hbb, hin, hnew, r₅⟩
      have S₅ := S'.other (h' := h₅) (b' := b₅) (tk := tk₅) ap' hk₅ hbb hin hnew
      have E₅ := E'.other (h' := h₅) (b' := b₅) (tk := tk₅) hvn hk₅ hbb hnew
      have ap₅b : ∀ a ∈ own, b₅.get? a = none := fun a ha => by
        cases q : b₅.get? a with
        | none => rfl
        | some o =>
          obtain ⟨oo, hoo⟩ := I.live _ _ hJ' a ha
          rcases hnew a o q with ⟨o', z⟩ | z
          · rw [ap'.b a ha] at z; cases z
          · rw [hoo] at z; cases z
      have ap₅ : Apart X own (compEnvC scope cl cA env) ((acc, .dct out) :: ω') b₅ := ⟨ap'.w, ap₅b, ap'.l, ap'.c, ap'.f⟩
      have hlt : i < N := Nat.lt_of_lt_of_le (by simpa using (List.getElem?_eq_some_iff.mp hc).1) hlen
      refine wpAny_mono (step cl cA acc i out ω' ds d hinv hds hc _ b₅ v' S₅ r₅) ?_ (fun _ _ x => x.elim)
      rintro _ s₆ ⟨σ₆, b₆, E₆, S₆, h₆⟩
      have ap₆ := ap₅.after E₆ (I.live _ _ hJ₅)
      have hJ₆ := I.frame _ _ s₆.heap hJ₅ (fun a ha o e => ap₅.keep E₆ ha e)
      refine wpAny_mono (h₆ s₆ b₆ S₆) ?_ (fun _ _ x => x.elim)
      rintro c s₇ ⟨σ₇, b₇, E₇, S₇, h₇⟩
      have ap₇ := ap₆.after E₇ (I.live _ _ hJ₆)
      have hJ₇ := I.frame _ _ s₇.heap hJ₆ (fun a ha o e => ap₆.keep E₇ ha e)
      cases c with
      | false =>
        simp only [Bool.false_eq_true, if_false] at h₇ ⊢
        obtain ⟨ω₇, hω₇, hinv₇⟩ := h₇
        obtain ⟨ρ₇, ω₇'⟩ := σ₇
        dsimp only at hω₇; subst hω₇
        have E₅₇ := (E₅.trans E₆).trans E₇
        refine ⟨N + 1 - (i + 1), by omega, i + 1, out, ω₇, b₇, rfl, hlt, hinv₇, back _ _ _ _ S₇ E₅₇, ⟨E₅₇.ext, E₅₇.dom⟩, hJ₇, ap₇⟩
      | true =>
        simp only [if_true] at h₇ ⊢
        refine wpAny_mono (h₇ s₇ b₇ S₇) ?_ (fun _ _ x => x.elim)
        rintro kv s₇' ⟨kr, σ₇', b₇', E₇', S₇', r₇', h₇'⟩
        have ap₇' := ap₇.after E₇' (I.live _ _ hJ₇)
        have hJ₇' := I.frame _ _ s₇'.heap hJ₇ (fun a ha o e => ap₇.keep E₇' ha e)
        refine wpAny_mono (h₇' s₇' b₇' S₇') ?_ (fun _ _ x => x.elim)
        rintro x s₈ ⟨dx, σ₈, b₈, E₈', S₈, r₈, kk, ω₈, rfl, hω₈, hinv₈⟩
        have ap₈ := ap₇'.after E₈' (I.live _ _ hJ₇')
        have hJ₈ := I.frame _ _ s₈.heap hJ₇' (fun a ha o e => ap₇'.keep E₈' ha e)
        have E₈ := E₇'.trans E₈'
        obtain ⟨ρ₈, ω₈'⟩ := σ₈
        dsimp only at hω₈; subst hω₈
        obtain ⟨hns, kvs, ep, hg, hr⟩ := S₈.hp.cell _ (.head _)
        have hz : kvs.length ≤ sizeLine := by
          have h1 := hr.length
          have h2 := hout _ _ _ hinv
          omega
        cases r₇'
        rename_i tk
        refine wpAny_dictSet_pairs (knd := X.kd) (hsz := hz) (kdIs kk tk) hg.dictOf fun h₉ hl₉ hs₉ => ?_
        obtain ⟨ep₉, g₉⟩ := hl₉.dictAt
        obtain ⟨S₉, E₉⟩ := S₈.setCell (c' := .dct (put out kk dx)) .head hs₉ ⟨hns, _, ep₉, g₉, hr.put r₈⟩ (s₈.toks + 1)
        have ap₉ := ap₈.after E₉ (I.live _ _ hJ₈)
        have hJ₉ := I.frame _ _ h₉ hJ₈ (fun a ha o e => ap₈.keep E₉ ha e)
        have E₅₉ := (((E₅.trans E₆).trans E₇).trans E₈).trans E₉
        refine ⟨N + 1 - (i + 1), by omega, i + 1, put out kk dx, ω₈, b₈, rfl, hlt, hinv₈, back _ _ _ _ S₉ E₅₉, ⟨E₅₉.ext, E₅₉.dom⟩, hJ₉, ap₉⟩
  refine codeAny_compStart_dict loop ?_
  refine wpAny_mono (I.self 0 _ (fun v s' => v = it ∧ s' = { s₃ with heap := h₄, toks := s₃.toks + 0 }) Never hJ₄ ⟨rfl, rfl⟩) ?_ (fun _ _ x => x.elim)
  rintro v s' ⟨rfl, rfl⟩
  exact loop
/-- what a comprehension over one clause asks -/
structure CompPreDC (X : Cx) (A : Around) (env : Env) (σ : Sg) (kx vx target iter : Expr) (ifs : List Expr) (scope : Scope) (P : D → Sg → Prop) (seq : Sg → Option (List D)) (N : Nat) (Inv : Nat → List (Str × D) → Om → Prop) : Prop where
  src : Src X A env σ iter target seq (fun σ₁ => σ₁.ρ = σ.ρ ∧ Inv 0 [] σ₁.ω)
  len : ∀ i out ω acc, Inv i out ω → ∃ ds, seq ⟨pick (freesOf scope) σ.ρ, (acc, .dct out) :: ω⟩ = some ds ∧ ds.length ≤ N
  outLen : ∀ i out ω, Inv i out ω → out.length ≤ sizeLine
  step : ∀ cl C acc i out ω ds d, Inv i out ω → seq ⟨pick (freesOf scope) σ.ρ, (acc, .dct out) :: ω⟩ = some ds → ds[i]? = some d →
      Asg X A (compEnvC scope cl C env) ⟨pick (freesOf scope) σ.ρ, (acc, .dct out) :: ω⟩ target d (fun σ₁ => TsB X A (compEnvC scope cl C env) σ₁ ifs (fun c σ₂ =>
        if c = true then Ev X A (compEnvC scope cl C env) σ₂ kx (fun kr σ₃ => Ev X A (compEnvC scope cl C env) σ₃ vx (fun r σ₄ => ∃ k ω', kr = .str k ∧ σ₄.ω = (acc, .dct out) :: ω' ∧ Inv (i + 1) (put out k r) ω'))
        else ∃ ω', σ₂.ω = (acc, .dct out) :: ω' ∧ Inv (i + 1) out ω'))
  fin : ∀ i out ω ds acc, Inv i out ω → seq ⟨pick (freesOf scope) σ.ρ, (acc, .dct out) :: ω⟩ = some ds → ds[i]? = none → P (.raw (.ref acc)) ⟨σ.ρ, (acc, .dct out) :: ω⟩

theorem ex_assign_dcompC {kx vx target iter : Expr} {ifs : List Expr} {scope : Scope} {pos pos' spos : Pos} {y : Str} {seq : Sg → Option (List D)} {N : Nat} {Inv : Nat → List (Str × D) → Om → Prop} (hok : compOk scope env = true)
    (hp : CompPreDC X A env σ kx vx target iter ifs scope (fun d σ₁ => Q .next ⟨(y, d) :: σ₁.ρ, σ₁.ω⟩) seq N Inv) (hk : isLoc env y = true)
    (hsw : swapsWith (.DictComp kx vx [⟨target, iter, ifs, 0⟩] scope pos) (some (.Name y pos')) spos.line env = pure true)
    (hs : ∀ x, foldedSetIterable iter env x = pure x) : Ex X A env σ (.Assign [.Name y pos'] (.DictComp kx vx [⟨target, iter, ifs, 0⟩] scope pos) spos) Q := fun s b S => by
  have ok := compOk_of hok
  rw [exec_Assign_Name_used _ _ _ _ hsw]
  refine wpAny_bind (wpAny_standAt ?_)
  show wpAny X.M A ((comprehension (.DictComp kx vx [⟨target, iter, ifs, 0⟩] scope pos) scope env (firstIterPos [⟨target, iter, ifs, 0⟩] pos) newDict (firstAsync [⟨target, iter, ifs, 0⟩]) (firstIter [⟨target, iter, ifs, 0⟩] env) (some (assign (.Name y pos') env)) >>= fun _ => pure ()) >>= fun _ => pure Flow.next) _ _ s
  refine wpAny_bind (wpAny_bind (wpAny_comprehension_free (use := some (assign (.Name y pos') env)) rfl hs (closureFor_eq fun p hp hk => S.ok.cells _ (ok.free p hp hk).2) ok.kind ok.loc ?_))
  refine wpAny_mono (comp_coreDC (pos := pos) (P := fun d σ₁ => Q .next ⟨(y, d) :: σ₁.ρ, σ₁.ω⟩) seq N Inv ok hp.src hp.len hp.outLen hp.step hp.fin s b S) ?_ (fun _ _ x => x)
  intro x s₁ h₁
  refine wpAny_mono h₁ (fun it s₂ h₂ => wpAny_mono h₂ (fun acc s₃ h₃ => wpAny_mono h₃ (fun cenv s₄ h₄ => codeAny_mono h₄ fun r s' hr => ?_) fun _ _ x => x) fun _ _ x => x) fun _ _ x => x
  obtain ⟨f, a, rfl, rfl, out, ω', b', E, S', p, ap, hn, m, hm⟩ := hr
  refine wpAny_assign_Name (store_var S' (.raw _) hk fun s₅ S₅ E₅ => ?_)
  have ap₅ := ap.after (σ := ⟨σ.ρ, (a, .dct out) :: ω'⟩) E₅ (fun x hx => by rw [List.mem_singleton.mp hx]; obtain ⟨o, _, _, h, _⟩ := hm; exact ⟨o, h⟩)
  obtain ⟨o, es, ep, h1, h2⟩ := hm
  refine ⟨m, ⟨o, es, ep, ap.keep (σ := ⟨σ.ρ, (a, .dct out) :: ω'⟩) E₅ (.head _) h1, h2⟩, fun h' hsb => wpAny_pure (wpAny_pure ?_)⟩
  have hk' : ∀ x o, x ∉ [cenv.locals] → s₅.heap.get? x = some o → h'.get? x = some o := fun x o hx e => (hsb.2 x (by simpa using hx)).trans e
  have hin : Le b' h' := fun x o e => hk' x o (fun z => by rw [ap₅.b x z] at e; cases e) (S₅.hp.le _ _ e)
  exact ⟨.next, _, b', (E.trans E₅).other (own := [cenv.locals]) (fun x hx => by rw [List.mem_singleton.mp hx]; exact hn) hk' (Le.refl _) (fun x o e => .inl ⟨o, e⟩), S₅.other ap₅ hk' (Le.refl _) hin (fun x o e => .inl ⟨o, e⟩), trivial, p⟩
theorem compLDC {α : Type} {kx vx target iter : Expr} {ifs : List Expr} {scope : Scope} (l : List α) (f : α → D) (outI : List α → List (Str × D)) (ωI : List α → Om)
    (hsrc : Src X A env σ iter target (fun _ => some (l.map f)) (fun σ₁ => σ₁.ρ = σ.ρ ∧ σ₁.ω = ωI []))
    (h0 : outI [] = []) (hlen : ∀ pre, pre.length ≤ l.length → (outI pre).length ≤ sizeLine)
    (step : ∀ cl C acc pre x post, l = pre ++ x :: post → Asg X A (compEnvC scope cl C env) ⟨pick (freesOf scope) σ.ρ, (acc, .dct (outI pre)) :: ωI pre⟩ target (f x) (fun σ₁ => TsB X A (compEnvC scope cl C env) σ₁ ifs (fun c σ₂ =>
        if c = true then Ev X A (compEnvC scope cl C env) σ₂ kx (fun kr σ₃ => Ev X A (compEnvC scope cl C env) σ₃ vx (fun r σ₄ => ∃ k, kr = .str k ∧ σ₄.ω = (acc, .dct (outI pre)) :: ωI (pre ++ [x]) ∧ outI (pre ++ [x]) = put (outI pre) k r))
        else σ₂.ω = (acc, .dct (outI pre)) :: ωI (pre ++ [x]) ∧ outI (pre ++ [x]) = outI pre)))
    (fin : ∀ acc, P (.raw (.ref acc)) ⟨σ.ρ, (acc, .dct (outI l)) :: ωI l⟩) :
    CompPreDC X A env σ kx vx target iter ifs scope P (fun _ => some (l.map f)) l.length (fun i out ω => i ≤ l.length ∧ out = outI (l.take i) ∧ ω = ωI (l.take i)) where
  src := fun s b S => wpAny_mono (hsrc s b S) (fun x s₁ h₁ => wpAny_mono h₁ (by
    rintro it s₂ ⟨σ₁, b₁, own, J, g1, g2, g3, g4, g5, g6, g7⟩
    exact ⟨σ₁, b₁, own, J, g1, g2, g3, g4, g5, g6, g7.1, Nat.zero_le _, by rw [List.take_zero, h0], by rw [List.take_zero]; exact g7.2⟩) fun _ _ x => x) fun _ _ x => x
  len := fun i out ω acc _ => ⟨_, rfl, by simp⟩
  outLen := fun i out ω h => by rw [h.2.1]; exact hlen _ (by rw [List.length_take]; exact Nat.min_le_right _ _)
  step := fun cl C acc i out ω ds d ⟨hi, ho, hω⟩ e hd => by
    cases e
    obtain ⟨x, hx, rfl⟩ : ∃ x, l[i]? = some x ∧ d = f x := by
      rw [List.getElem?_map] at hd
      cases q : l[i]? with
      | none => rw [q] at hd; cases hd
      | some x => rw [q] at hd; cases hd; exact ⟨x, rfl, rfl⟩
    subst ho hω
    have hlt := (List.getElem?_eq_some_iff.mp hx).1
    refine Asg.mono (step cl C acc _ x _ (split_at hx)) fun σ₁ h => TrB.mono h fun c σ₂ h2 => ?_
    rw [← take_at hx] at h2
    cases c with
    | true =>
      simp only [if_true] at h2 ⊢
      exact Tr.mono h2 fun kr σ₃ h3 => Tr.mono h3 fun r σ₄ h4 => by
        obtain ⟨k, e1, e2, e3⟩ := h4
        exact ⟨k, _, e1, e2, hlt, e3.symm, rfl⟩
    | false =>
      simp only [Bool.false_eq_true, if_false] at h2 ⊢
      exact ⟨_, h2.1, hlt, h2.2.symm, rfl⟩
  fin := fun i out ω ds acc ⟨hi, ho, hω⟩ e hd => by
    cases e
    have : i = l.length := Nat.le_antisymm hi (by simpa using hd)
    subst this
    rw [List.take_length] at ho hω
    subst ho hω
    exact fin _
end Mine

namespace Mine
open PySem PySem.W PySem.Calls PyProof.Rows
variable {X : Cx} {A : Around} {env : Env} {σ : Sg} {P : D → Sg → Prop} {Q : Fl → Sg → Prop}

/-! a list comprehension whose list may change afterwards -/
inductive CompEndC (X : Cx) (env : Env) (σ : Sg) (s : Shared) (b : Heap) (P : D → Sg → Prop) (acc C : Addr) (s' : Shared) : Prop
  | mk (out : List D) (ω' : Om) (b' : Heap) (E : Evo X env σ ⟨σ.ρ, (acc, .lst out) :: ω'⟩ s b s' b') (S : St X env ⟨σ.ρ, (acc, .lst out) :: ω'⟩ b' s') (p : P (.raw (.ref acc)) ⟨σ.ρ, (acc, .lst out) :: ω'⟩) (a : Apart X [C] env ((acc, .lst out) :: ω') b') (n : s.heap.get? C = none) (m : ∃ m, s'.heap.Ns C m)

theorem comp_coreC {elt target iter : Expr} {ifs : List Expr} {scope : Scope} {pos : Pos} (seq : Sg → Option (List D)) (N : Nat) (Inv : Nat → List D → Om → Prop)
    (ok : CompOk scope env)
    (hsrc : Src X A env σ iter target seq (fun σ₁ => σ₁.ρ = σ.ρ ∧ Inv 0 [] σ₁.ω))
    (hN : ∀ i out ω acc, Inv i out ω → ∃ ds, seq ⟨pick (freesOf scope) σ.ρ, (acc, .lst out) :: ω⟩ = some ds ∧ ds.length ≤ N)
    (hout : ∀ i out ω, Inv i out ω → out.length ≤ sizeLine)
    (step : ∀ cl C acc i out ω ds d, Inv i out ω → seq ⟨pick (freesOf scope) σ.ρ, (acc, .lst out) :: ω⟩ = some ds → ds[i]? = some d →
      Asg X A (compEnvC scope cl C env) ⟨pick (freesOf scope) σ.ρ, (acc, .lst out) :: ω⟩ target d (fun σ₁ => TsB X A (compEnvC scope cl C env) σ₁ ifs (fun c σ₂ =>
        if c = true then Ev X A (compEnvC scope cl C env) σ₂ elt (fun r σ₃ => ∃ ω', σ₃.ω = (acc, .lst out) :: ω' ∧ Inv (i + 1) (out ++ [r]) ω')
        else ∃ ω', σ₂.ω = (acc, .lst out) :: ω' ∧ Inv (i + 1) out ω')))
    (fin : ∀ i out ω ds acc, Inv i out ω → seq ⟨pick (freesOf scope) σ.ρ, (acc, .lst out) :: ω⟩ = some ds → ds[i]? = none → P (.raw (.ref acc)) ⟨σ.ρ, (acc, .lst out) :: ω⟩) :
    ∀ s b, St X env σ b s → wpAny X.M A (eval iter env) (fun x s₁ => wpAny X.M A (pyIter x) (fun it s₂ => wpAny X.M A (newList []) (fun acc s₃ =>
      wpAny X.M A (newFunctionEnv scope env.globals (clo env.cells scope.names []) [] env.qual none .none (some env)) (fun cenv s₄ =>
        codeAny X.M A (.compStart (.ListComp elt [⟨target, iter, ifs, 0⟩] scope pos) 0 it acc { cenv with scope := relabel scope env }) (fun r s' => ∃ f a, r = .ok f ∧ acc = .ref a ∧ CompEndC X env σ s b P a cenv.locals s') s₄)
        Never s₃) Never s₂) Never s₁) Never s := by
  intro s b S
  refine wpAny_mono (hsrc s b S) ?_ (fun _ _ x => x)
  intro x s₁ hx
  refine wpAny_mono hx ?_ (fun _ _ x => x)
  rintro it s₂ ⟨σ₁, b₁, own, J, E₂, S₂, ap₂, hfr, I, hJ, hρ, hI0⟩
  obtain ⟨ρ₁, ω₁⟩ := σ₁
  dsimp only at hρ hI0 ap₂
  subst hρ
  -- the list that is filled
  have hacc := S₂.allocC (seqObj "list" #[] 0) (.lst []) ⟨#[], 0, Heap.get?_push_size _ rfl, .nil⟩
  obtain ⟨S₃, E₃⟩ := hacc
  refine wpAny_newObj_type ?_ (by show (0 : Nat) ≤ sizeLine; exact Nat.zero_le _)
  generalize hacc : s₂.heap.objs.size = acc at S₃ E₃ ⊢
  have accNone : s₂.heap.get? acc = none := hacc ▸ fresh_none _
  generalize hs₃ : ({ s₂ with heap := s₂.heap.push (seqObj "list" #[] 0) } : Shared) = s₃ at S₃ E₃ ⊢
  have S₃' : St X env ⟨σ.ρ, (acc, .lst []) :: ω₁⟩ b₁ s₃ := S₃
  have E₃' : Evo X env ⟨σ.ρ, ω₁⟩ ⟨σ.ρ, (acc, .lst []) :: ω₁⟩ s₂ b₁ s₃ b₁ := E₃
  have ap₃ : Apart X own env ((acc, C.lst []) :: ω₁) b₁ := ap₂.after (σ := ⟨σ.ρ, ω₁⟩) (σ' := ⟨σ.ρ, (acc, .lst []) :: ω₁⟩) E₃' (I.live _ _ hJ)
  have hJ₃ : J 0 s₃.heap := I.frame _ _ _ hJ fun a ha o e => ap₂.keep (σ := ⟨σ.ρ, ω₁⟩) E₃' ha e
  -- the block's own names
  refine wpAny_newFunctionEnv ok.noCell (by intro y hy; cases hy) (fun h₄ hns hsb => ?_) ok.kind
  obtain ⟨hv, CNone, CNone₀, hle₄, hvle, hvn, SV, EV, back, SC, apC⟩ := comp_setup ok S E₂ S₃' E₃' ap₃ hfr (I.live _ _ hJ₃) hns hsb
  have hJ₄ : J 0 h₄ := I.frame _ _ _ hJ₃ fun a ha o e => hle₄ _ _ e
  generalize hC : s₃.heap.objs.size = cA at hns hsb CNone CNone₀ back SC apC ⊢
  show codeAny X.M A (.compStart _ 0 it (.ref acc) (compEnvC scope (clo env.cells scope.names []) cA env)) _ _
  generalize hcl : clo env.cells scope.names [] = cl at back SC apC ⊢
  -- the turns
  let RR : Result → Shared → Prop := fun r s' => ∃ f a, r = .ok f ∧ Value.ref acc = .ref a ∧ CompEndC X env σ s b P a cA s'
  have loop : codeAny X.M A (.compLoop (.ListComp elt [⟨target, iter, ifs, 0⟩] scope pos) 0 it (.ref acc) (compEnvC scope cl cA env)) RR { s₃ with heap := h₄, toks := s₃.toks + 0 } := by
    let II : Nat → Shared → Prop := CmpI C.lst X (compEnvC scope cl cA env) own J Inv (pick (freesOf scope) σ.ρ) acc (.lst []) ω₁ { s₃ with heap := hv, toks := s₃.toks + 0 } b₁ N
    refine compLoop_any II ?_ (N + 1)
      ⟨0, [], ω₁, b₁, rfl, Nat.zero_le _, hI0, SC, ⟨⟨fun a o _ e => kept (hvle _ _ e), Le.refl _, fun a o e => .inl ⟨o, e⟩, fun a o e => ⟨o, hvle _ _ e⟩, rfl, rfl⟩, fun a h => .inl h⟩, hJ₄, apC⟩
    rintro n s' ⟨i, out, ω', b', rfl, hi, hinv, S', E', hJ', ap'⟩
    obtain ⟨ds, hds, hlen⟩ := hN i out ω' acc hinv
    cases hc : ds[i]? with
    | none =>
      refine wpAny_mono (I.done _ _ i ds s' b' S' E'.ext.le hJ' hds hc ap') ?_ (fun _ _ x => x.elim)
      rintro r s'' ⟨rfl, h₅, tk₅, rfl, hk₅⟩
      refine ⟨.next, acc, rfl, rfl, ?_⟩
      obtain ⟨L₆, F₆, AP, hNs⟩ := comp_done (tk₅ := tk₅) CNone CNone₀ S₃' ap₃ hfr SV EV S' E' ap' hk₅
      refine ⟨out, ω', b', F₆, L₆, fin i out ω' ds acc hinv hds hc, AP _ b' id (fun o q => .inl ⟨o, q⟩), CNone₀, hNs⟩
    | some d =>
      refine wpAny_mono (I.item _ _ i ds d s' b' S' E'.ext.le hJ' hds hc ap') ?_ (fun _ _ x => x.elim)
      rintro r s'' ⟨v', rfl, hw⟩
      refine wpAny_mono hw ?_ (fun _ _ x => x.elim)
      rintro _ s₅ ⟨h₅, b₅, tk₅, rfl, hJ₅, hk₅, hbb, hin, hnew, r₅⟩
      have S₅ := S'.other (h' := h₅) (b' := b₅) (tk := tk₅) ap' hk₅ hbb hin hnew
      have E₅ := E'.other (h' := h₅) (b' := b₅) (tk := tk₅) hvn hk₅ hbb hnew
      have ap₅b : ∀ a ∈ own, b₅.get? a = none := fun a ha => by
        cases q : b₅.get? a with
        | none => rfl
        | some o =>
          obtain ⟨oo, hoo⟩ := I.live _ _ hJ' a ha
          rcases hnew a o q with ⟨o', z⟩ | z
          · rw [ap'.b a ha] at z; cases z
          · rw [hoo] at z; cases z
      have ap₅ : Apart X own (compEnvC scope cl cA env) ((acc, .lst out) :: ω') b₅ := ⟨ap'.w, ap₅b, ap'.l, ap'.c, ap'.f⟩
      have hlt : i < N := Nat.lt_of_lt_of_le (by simpa using (List.getElem?_eq_some_iff.mp hc).1) hlen
      refine wpAny_mono (step cl cA acc i out ω' ds d hinv hds hc _ b₅ v' S₅ r₅) ?_ (fun _ _ x => x.elim)
      rintro _ s₆ ⟨σ₆, b₆, E₆, S₆, h₆⟩
      have ap₆ := ap₅.after E₆ (I.live _ _ hJ₅)
      have hJ₆ := I.frame _ _ s₆.heap hJ₅ (fun a ha o e => ap₅.keep E₆ ha e)
      refine wpAny_mono (h₆ s₆ b₆ S₆) ?_ (fun _ _ x => x.elim)
      rintro c s₇ ⟨σ₇, b₇, E₇, S₇, h₇⟩
      have ap₇ := ap₆.after E₇ (I.live _ _ hJ₆)
      have hJ₇ := I.frame _ _ s₇.heap hJ₆ (fun a ha o e => ap₆.keep E₇ ha e)
      cases c with
      | false =>
        simp only [Bool.false_eq_true, if_false] at h₇ ⊢
        obtain ⟨ω₇, hω₇, hinv₇⟩ := h₇
        obtain ⟨ρ₇, ω₇'⟩ := σ₇
        dsimp only at hω₇; subst hω₇
        have E₅₇ := (E₅.trans E₆).trans E₇
        refine ⟨N + 1 - (i + 1), by omega, i + 1, out, ω₇, b₇, rfl, hlt, hinv₇, back _ _ _ _ S₇ E₅₇, ⟨E₅₇.ext, E₅₇.dom⟩, hJ₇, ap₇⟩
      | true =>
        simp only [if_true] at h₇ ⊢
        refine wpAny_mono (h₇ s₇ b₇ S₇) ?_ (fun _ _ x => x.elim)
        rintro x s₈ ⟨dx, σ₈, b₈, E₈, S₈, r₈, ω₈, hω₈, hinv₈⟩
        have ap₈ := ap₇.after E₈ (I.live _ _ hJ₇)
        have hJ₈ := I.frame _ _ s₈.heap hJ₇ (fun a ha o e => ap₇.keep E₈ ha e)
        obtain ⟨ρ₈, ω₈'⟩ := σ₈
        dsimp only at hω₈; subst hω₈
        obtain ⟨vs, nn, hg, hr⟩ := S₈.hp.cell _ (.head _)
        have hz : vs.size ≤ sizeLine := by
          have h1 := hr.length
          have h2 := hout _ _ _ hinv
          have : vs.size = out.length := by rw [← h1]; simp
          omega
        refine wpAny_list_append_plain (hsz := hz) ⟨nn, hg⟩ fun h₉ hl₉ hs₉ => ?_
        obtain ⟨n₉, g₉⟩ := hl₉
        obtain ⟨S₉, E₉⟩ := S₈.setCell (c' := .lst (out ++ [dx])) .head hs₉ ⟨vs.push x, n₉, g₉, by simpa using hr.append (.cons r₈ .nil)⟩
        have ap₉ := ap₈.after E₉ (I.live _ _ hJ₈)
        have hJ₉ := I.frame _ _ h₉ hJ₈ (fun a ha o e => ap₈.keep E₉ ha e)
        have E₅₉ := (((E₅.trans E₆).trans E₇).trans E₈).trans E₉
        refine ⟨N + 1 - (i + 1), by omega, i + 1, out ++ [dx], ω₈, b₈, rfl, hlt, hinv₈, back _ _ _ _ S₉ E₅₉, ⟨E₅₉.ext, E₅₉.dom⟩, hJ₉, ap₉⟩
  refine codeAny_compStart_list loop ?_
  refine wpAny_mono (I.self 0 _ (fun v s' => v = it ∧ s' = { s₃ with heap := h₄, toks := s₃.toks + 0 }) Never hJ₄ ⟨rfl, rfl⟩) ?_ (fun _ _ x => x.elim)
  rintro v s' ⟨rfl, rfl⟩
  exact loop
/-- what a comprehension over one clause asks -/
structure CompPreC (X : Cx) (A : Around) (env : Env) (σ : Sg) (elt target iter : Expr) (ifs : List Expr) (scope : Scope) (P : D → Sg → Prop) (seq : Sg → Option (List D)) (N : Nat) (Inv : Nat → List D → Om → Prop) : Prop where
  src : Src X A env σ iter target seq (fun σ₁ => σ₁.ρ = σ.ρ ∧ Inv 0 [] σ₁.ω)
  len : ∀ i out ω acc, Inv i out ω → ∃ ds, seq ⟨pick (freesOf scope) σ.ρ, (acc, .lst out) :: ω⟩ = some ds ∧ ds.length ≤ N
  outLen : ∀ i out ω, Inv i out ω → out.length ≤ sizeLine
  step : ∀ cl C acc i out ω ds d, Inv i out ω → seq ⟨pick (freesOf scope) σ.ρ, (acc, .lst out) :: ω⟩ = some ds → ds[i]? = some d →
      Asg X A (compEnvC scope cl C env) ⟨pick (freesOf scope) σ.ρ, (acc, .lst out) :: ω⟩ target d (fun σ₁ => TsB X A (compEnvC scope cl C env) σ₁ ifs (fun c σ₂ =>
        if c = true then Ev X A (compEnvC scope cl C env) σ₂ elt (fun r σ₃ => ∃ ω', σ₃.ω = (acc, .lst out) :: ω' ∧ Inv (i + 1) (out ++ [r]) ω')
        else ∃ ω', σ₂.ω = (acc, .lst out) :: ω' ∧ Inv (i + 1) out ω'))
  fin : ∀ i out ω ds acc, Inv i out ω → seq ⟨pick (freesOf scope) σ.ρ, (acc, .lst out) :: ω⟩ = some ds → ds[i]? = none → P (.raw (.ref acc)) ⟨σ.ρ, (acc, .lst out) :: ω⟩

theorem ex_assign_compC {elt target iter : Expr} {ifs : List Expr} {scope : Scope} {pos pos' spos : Pos} {y : Str} {seq : Sg → Option (List D)} {N : Nat} {Inv : Nat → List D → Om → Prop} (hok : compOk scope env = true)
    (hp : CompPreC X A env σ elt target iter ifs scope (fun d σ₁ => Q .next ⟨(y, d) :: σ₁.ρ, σ₁.ω⟩) seq N Inv) (hk : isLoc env y = true)
    (hsw : swapsWith (.ListComp elt [⟨target, iter, ifs, 0⟩] scope pos) (some (.Name y pos')) spos.line env = pure true)
    (hs : ∀ x, foldedSetIterable iter env x = pure x) : Ex X A env σ (.Assign [.Name y pos'] (.ListComp elt [⟨target, iter, ifs, 0⟩] scope pos) spos) Q := fun s b S => by
  have ok := compOk_of hok
  rw [exec_Assign_Name_used _ _ _ _ hsw]
  refine wpAny_bind (wpAny_standAt ?_)
  show wpAny X.M A ((comprehension (.ListComp elt [⟨target, iter, ifs, 0⟩] scope pos) scope env (firstIterPos [⟨target, iter, ifs, 0⟩] pos) (newList []) (firstAsync [⟨target, iter, ifs, 0⟩]) (firstIter [⟨target, iter, ifs, 0⟩] env) (some (assign (.Name y pos') env)) >>= fun _ => pure ()) >>= fun _ => pure Flow.next) _ _ s
  refine wpAny_bind (wpAny_bind (wpAny_comprehension_free (use := some (assign (.Name y pos') env)) rfl hs (closureFor_eq fun p hp hk => S.ok.cells _ (ok.free p hp hk).2) ok.kind ok.loc ?_))
  refine wpAny_mono (comp_coreC (pos := pos) (P := fun d σ₁ => Q .next ⟨(y, d) :: σ₁.ρ, σ₁.ω⟩) seq N Inv ok hp.src hp.len hp.outLen hp.step hp.fin s b S) ?_ (fun _ _ x => x)
  intro x s₁ h₁
  refine wpAny_mono h₁ (fun it s₂ h₂ => wpAny_mono h₂ (fun acc s₃ h₃ => wpAny_mono h₃ (fun cenv s₄ h₄ => codeAny_mono h₄ fun r s' hr => ?_) fun _ _ x => x) fun _ _ x => x) fun _ _ x => x
  obtain ⟨f, a, rfl, rfl, out, ω', b', E, S', p, ap, hn, m, hm⟩ := hr
  refine wpAny_assign_Name (store_var S' (.raw _) hk fun s₅ S₅ E₅ => ?_)
  have ap₅ := ap.after (σ := ⟨σ.ρ, (a, .lst out) :: ω'⟩) E₅ (fun x hx => by rw [List.mem_singleton.mp hx]; obtain ⟨o, _, _, h, _⟩ := hm; exact ⟨o, h⟩)
  obtain ⟨o, es, ep, h1, h2⟩ := hm
  refine ⟨m, ⟨o, es, ep, ap.keep (σ := ⟨σ.ρ, (a, .lst out) :: ω'⟩) E₅ (.head _) h1, h2⟩, fun h' hsb => wpAny_pure (wpAny_pure ?_)⟩
  have hk' : ∀ x o, x ∉ [cenv.locals] → s₅.heap.get? x = some o → h'.get? x = some o := fun x o hx e => (hsb.2 x (by simpa using hx)).trans e
  have hin : Le b' h' := fun x o e => hk' x o (fun z => by rw [ap₅.b x z] at e; cases e) (S₅.hp.le _ _ e)
  exact ⟨.next, _, b', (E.trans E₅).other (own := [cenv.locals]) (fun x hx => by rw [List.mem_singleton.mp hx]; exact hn) hk' (Le.refl _) (fun x o e => .inl ⟨o, e⟩), S₅.other ap₅ hk' (Le.refl _) hin (fun x o e => .inl ⟨o, e⟩), trivial, p⟩
/-- a comprehension over data -/
theorem compLC {α : Type} {elt target iter : Expr} {ifs : List Expr} {scope : Scope} (l : List α) (f : α → D) (outI : List α → List D) (ωI : List α → Om)
    (hsrc : Src X A env σ iter target (fun _ => some (l.map f)) (fun σ₁ => σ₁.ρ = σ.ρ ∧ σ₁.ω = ωI []))
    (h0 : outI [] = []) (hlen : ∀ pre, pre.length ≤ l.length → (outI pre).length ≤ sizeLine)
    (step : ∀ cl C acc pre x post, l = pre ++ x :: post → Asg X A (compEnvC scope cl C env) ⟨pick (freesOf scope) σ.ρ, (acc, .lst (outI pre)) :: ωI pre⟩ target (f x) (fun σ₁ => TsB X A (compEnvC scope cl C env) σ₁ ifs (fun c σ₂ =>
        if c = true then Ev X A (compEnvC scope cl C env) σ₂ elt (fun r σ₃ => σ₃.ω = (acc, .lst (outI pre)) :: ωI (pre ++ [x]) ∧ outI (pre ++ [x]) = outI pre ++ [r])
        else σ₂.ω = (acc, .lst (outI pre)) :: ωI (pre ++ [x]) ∧ outI (pre ++ [x]) = outI pre)))
    (fin : ∀ acc, P (.raw (.ref acc)) ⟨σ.ρ, (acc, .lst (outI l)) :: ωI l⟩) :
    CompPreC X A env σ elt target iter ifs scope P (fun _ => some (l.map f)) l.length (fun i out ω => i ≤ l.length ∧ out = outI (l.take i) ∧ ω = ωI (l.take i)) where
  src := fun s b S => wpAny_mono (hsrc s b S) (fun x s₁ h₁ => wpAny_mono h₁ (by
    rintro it s₂ ⟨σ₁, b₁, own, J, g1, g2, g3, g4, g5, g6, g7⟩
    exact ⟨σ₁, b₁, own, J, g1, g2, g3, g4, g5, g6, g7.1, Nat.zero_le _, by rw [List.take_zero, h0], by rw [List.take_zero]; exact g7.2⟩) fun _ _ x => x) fun _ _ x => x
  len := fun i out ω acc _ => ⟨_, rfl, by simp⟩
  outLen := fun i out ω h => by rw [h.2.1]; exact hlen _ (by rw [List.length_take]; exact Nat.min_le_right _ _)
  step := fun cl C acc i out ω ds d ⟨hi, ho, hω⟩ e hd => by
    cases e
    obtain ⟨x, hx, rfl⟩ : ∃ x, l[i]? = some x ∧ d = f x := by
      rw [List.getElem?_map] at hd
      cases q : l[i]? with
      | none => rw [q] at hd; cases hd
      | some x => rw [q] at hd; cases hd; exact ⟨x, rfl, rfl⟩
    subst ho hω
    have hlt := (List.getElem?_eq_some_iff.mp hx).1
    refine Asg.mono (step cl C acc _ x _ (split_at hx)) fun σ₁ h => TrB.mono h fun c σ₂ h2 => ?_
    rw [← take_at hx] at h2
    cases c with
    | true =>
      simp only [if_true] at h2 ⊢
      exact Tr.mono h2 fun r σ₃ h3 => ⟨_, h3.1, hlt, h3.2.symm, rfl⟩
    | false =>
      simp only [Bool.false_eq_true, if_false] at h2 ⊢
      exact ⟨_, h2.1, hlt, h2.2.symm, rfl⟩
  fin := fun i out ω ds acc ⟨hi, ho, hω⟩ e hd => by
    cases e
    have : i = l.length := Nat.le_antisymm hi (by simpa using hd)
    subst this
    rw [List.take_length] at ho hω
    subst ho hω
    exact fin _

/-- the first k of a list -/
theorem ev_slice_to {v hi : Expr} {p pos : Pos} (h : Ev X A env σ v (fun d σ₁ => Ev X A env σ₁ hi (fun i σ₂ => ∃ (ds : List D) (k : Nat), i = .int (k : Int) ∧ ds.length ≤ sizeLine ∧ Lst X σ₂ d ds ∧ P (.list (ds.take k)) σ₂)))
    (hp : evalPart (some hi) env = eval hi env) : Ev X A env σ (.Subscript v (.Slice none (some hi) none p) pos) P := fun s b S => by
  refine wpAny_SliceOf (T := "list") list_getitem_lookup (wpAny_mono (h s b S) ?_ fun _ _ x => x)
  rintro o s₁ ⟨d, σ₁, b₁, E₁, S₁, r₁, h₁⟩
  refine wpAny_Slice ?_
  rw [evalPart_none]
  refine wpAny_pure ?_
  rw [hp]
  refine wpAny_mono (h₁ s₁ b₁ S₁) ?_ fun _ _ x => x
  rintro vl s₂ ⟨i, σ₂, b₂, E₂, S₂, r₂, ds, k, rfl, hz, hl, p⟩
  refine wpAny_pure ?_
  obtain ⟨a, vs, n, rfl, g, ra⟩ := hl.at S₂ (r₁.mono E₂.ext.le)
  cases r₂
  rename_i tk
  have e : vs.size = ds.length := by rw [← ra.length]; simp
  refine ⟨((isList_of g).push _).typeIs, wpAny_getItem_list_slice ((isList_of g).push _) (Heap.IsSliceOf.new ..) (lo := none) (hi := some (k : Int)) .none (.int ..) .none (by simp) ?_ (by omega)⟩
  rw [slicePick_upto' vs k]
  obtain ⟨b₃, l₃, g₃, S₃, E₃⟩ := S₂.allocD { cls := .type "slice", data := .fields #[.none, .int (k : Int) tk, .none] }
  obtain ⟨b₄, l₄, g₄, S₄, E₄⟩ := S₃.allocD (seqObj "list" (vs.toList.take k).toArray 0)
  refine ⟨.list (ds.take k), σ₂, b₄, ((E₁.trans E₂).trans E₃).trans E₄, S₄, ?_, p⟩
  refine .list g₄ ?_
  have ht : ∀ (k : Nat) {l : List Value} {m : List D}, RpAll X b₂ l m → RpAll X b₂ (l.take k) (m.take k) := by
    intro k
    induction k with
    | zero => intro l m h; simpa using RpAll.nil
    | succ k ih => intro l m h; cases h with
      | nil => simpa using RpAll.nil
      | cons r q => simpa using RpAll.cons r (ih q)
  simpa using (ht k ra).mono (l₃.trans l₄)
end Mine

namespace Mine
open PySem PySem.W PySem.Calls PyProof.Rows
variable {X : Cx} {A : Around} {env : Env} {σ : Sg} {P : D → Sg → Prop} {Q : Fl → Sg → Prop}

/-! a def called from outside -/
theorem fn_callTop {fa : Addr} {qual : Str} {body : List Stmt} {scope : Scope} {cdv : Value} {fd : FuncData} {ds : List D} {dbs : List (Str × D)} {PT : D → Prop} {R : Result → Shared → Prop} {s : Shared} {b : Heap} {vs : List Value} (hf : FnOk X fa qual body scope cdv fd) (hroom : A.depth < recursionLimit)
    (hfr : X.fr = []) (H : Hp X [] b s) (rv : RpAll X b vs ds)
    (hbind : ∀ s b vs, X.Top b → Le b s.heap → RpAll X b vs ds → ∃ binds, BindsTo s fd ⟨vs, []⟩ binds ∧ RpKv X b binds dbs)
    (hnd' : nodupS (dbs.map (·.1)) = true) (hkind : (dbs.all fun y => scope.names.lookup y.1 == some .local || scope.names.lookup y.1 == some .cell) = true)
    (hbody : ∀ L, Exs (X.push (envOfC qual scope L fa cdv)) (A.deeper (envOfC qual scope L fa cdv)) (envOfC qual scope L fa cdv) ⟨dbs, []⟩ body (fun fl σ' => match fl with | .ret d => PT d | .next => PT .none | _ => False))
    (fin : ∀ v d s' b', Rp X b' v d → PT d → (∀ a o, s.heap.get? a = some o → s'.heap.get? a = some o) → s'.gens = s.gens → s'.os = s.os → R (.ok (.ret v)) s') :
    codeAny X.M A (.call (.ref fa) ⟨vs, []⟩) R s := by
  obtain ⟨⟨oc, od, osl, hlook⟩, hfb, rfl, rfl, hfg, hfbl, hfc, rfl, hcode, hco, hgen, hk, hnf⟩ := hf
  have hnd := nodup_of hnd'
  have T := H.top
  have ho : s.heap.get? fa = some ⟨oc, od, .func fd, osl⟩ := H.le _ _ (T.inK _ _ hlook)
  have hcd : s.heap.CodeRec fd.code fd.qualname := codeRec_of (T.inK.keeps H.le) hcode
  obtain ⟨binds, hb, rb⟩ := hbind s b vs T H.le rv
  have hkeys : binds.map (·.1) = dbs.map (·.1) := rb.keys
  have hkb : ∀ x ∈ binds, fd.scope.names.lookup x.1 = some .local ∨ fd.scope.names.lookup x.1 = some .cell := fun x hx => by
    have : x.1 ∈ dbs.map (·.1) := by rw [← hkeys]; exact List.mem_map_of_mem hx
    obtain ⟨p, hp, e⟩ := List.mem_map.mp this
    have := List.all_eq_true.mp hkind p hp
    rw [e] at this
    rcases Bool.or_eq_true_iff.mp this with q | q
    · exact .inl (by simpa using q)
    · exact .inr (by simpa using q)
  refine codeAny_call_function hroom ho rfl hco hgen hfb hcd ?_
  refine hb _ _ _ _ ?_
  rw [hfc]
  refine wpAny_newFunctionEnv_cells hk (fun x hx => (hkb x hx).imp id fun q => ⟨q, cellsFrom_some _ _ _ (.inl q)⟩) ?_
  intro cenv hcenv s₁ x₁
  generalize hL : s.heap.objs.size = L at hcenv
  have hcenv' : cenv = envOfC fd.qualname fd.scope L fa fd.code := by
    rw [hcenv, hfg, hfbl]; rfl
  subst hcenv'
  clear hcenv
  obtain ⟨h₁, tk₁, rfl⟩ := x₁.toInCall.same
  have hle : Le s.heap h₁ := x₁.toInCall.keep
  have H₁ : Hp X [] b { s with heap := h₁, toks := tk₁ } := ⟨H.le.trans hle, (fun p hp => by cases hp), (fun p hp => by cases hp), List.nodup_nil, H.top⟩
  have LNone : s.heap.get? L = none := hL ▸ fresh_none _
  have CNone : ∀ x c, (envOfC fd.qualname fd.scope L fa fd.code).cells.lookup x = some c → s.heap.get? c = none := fun x c e => by
    have h1 : L < c := x₁.above x c (PySem.mem_of_lookup e)
    cases q : s.heap.get? c with
    | none => rfl
    | some o =>
      have h2 := Heap.lt_size q
      rw [hL] at h2
      exact absurd (Nat.lt_trans h1 h2) (Nat.lt_irrefl _)
  have okC : EnvOk (envOfC fd.qualname fd.scope L fa fd.code) := by
    refine ⟨hk, rfl, rfl, fun x kx => ?_⟩
    rcases kx with kx | kx
    · have := cellsFrom_some (x := x) fd.scope.names (L + 1) [] (.inl kx)
      exact Option.isSome_iff_exists.mp this
    · have hm := lookup_mem_kind kx
      have := List.all_eq_true.mp hnf _ hm
      simp at this
  have fresh_b : ∀ a, s.heap.get? a = none → b.get? a = none := fun a e => by
    cases q : b.get? a with
    | none => rfl
    | some o => have := H.le _ _ q; rw [e] at this; cases this
  have fresh_w : ∀ a, s.heap.get? a = none → a ∉ ([] : Om).map (·.1) := fun a e h => by
    obtain ⟨p, hp, rfl⟩ := List.mem_map.mp h
    obtain ⟨o, ho⟩ := (H.cell p hp).live
    rw [e] at ho; cases ho
  have hnb : (binds.map (·.1)).Nodup := by rw [hkeys]; exact hnd
  have SC : St (X.push (envOfC fd.qualname fd.scope L fa fd.code)) (envOfC fd.qualname fd.scope L fa fd.code) ⟨dbs, ([] : Om)⟩ b { s with heap := h₁, toks := tk₁ } := by
    refine ⟨okC, H₁.at, ⟨⟨_, x₁.toInCall.ns, fun x d kx e => ?_⟩, fun x d kx e => ?_, fun x c e => ⟨_, x₁.cell x c e⟩⟩, ⟨fresh_b _ LNone, fresh_w _ LNone, fun x c e => fresh_b _ (CNone x c e), fun x c e => fresh_w _ (CNone x c e), fun x c e => ?_, fun x y c e1 e2 => name_of_addr x₁.apart (PySem.mem_of_lookup e1) (PySem.mem_of_lookup e2)⟩, fun e he => ?_⟩
    · obtain ⟨v, h1, h2⟩ := rb.lookup e
      exact ⟨v, bindL_some kx binds _ hnb h1, h2.at⟩
    · obtain ⟨v, h1, h2⟩ := rb.lookup e
      obtain ⟨c, hc⟩ := okC.cells x kx
      have hne : (envOfC fd.qualname fd.scope L fa fd.code).kindOf x ≠ some .local := by
        rcases kx with kx | kx <;> rw [kx] <;> simp
      refine ⟨c, v, hc, ?_, h2.at⟩
      have := x₁.cell x c hc
      rw [bindC_some hne binds _ hnb h1] at this
      exact this
    · exact Nat.ne_of_gt (x₁.above x c (PySem.mem_of_lookup e))
    · rcases List.mem_cons.mp he with rfl | he
      · obtain ⟨o, es, ep, h1, h2, _⟩ := x₁.toInCall.ns
        exact ⟨hk, L, o, es, ep, rfl, fresh_b _ LNone, fresh_w _ LNone, h1, h2⟩
      · rw [hfr] at he; cases he
  refine ⟨(T.tr.nolimit.keeps H.le).keeps hle, codeAny_func (wpAny_mono (hbody L _ b SC) (fun f s' hq => ?_) fun _ _ x => x.elim)⟩
  obtain ⟨fl, σ', b', E', S', rf, hp⟩ := hq
  have hF : ∀ a, Fx (envOfC fd.qualname fd.scope L fa fd.code) ([] : Om) a → a ∈ ([] : Om).map (·.1) ∨ s.heap.get? a = none := fun a f => by
    rcases f with f | ⟨_, x, f⟩ | f
    · exact .inr (f ▸ LNone)
    · exact .inr (CNone x a f)
    · exact .inl f
  have hkeep : ∀ a o, s.heap.get? a = some o → s'.heap.get? a = some o := fun a o e => by
    have nf : ¬ Fx (envOfC fd.qualname fd.scope L fa fd.code) ([] : Om) a := fun z => by
      rcases hF a z with z | z
      · cases z
      · rw [e] at z; cases z
    obtain ⟨sl, h1, h2⟩ := E'.ext.keep a o nf (hle _ _ e)
    have : sl = o.slots := h2 fun e' he => by
      rcases List.mem_cons.mp he with rfl | he
      · intro z
        have : L = a := Option.some.inj z
        rw [← this, LNone] at e; cases e
      · rw [hfr] at he; cases he
    rw [this] at h1; exact h1
  cases f with
  | next => cases fl with
    | next => exact fin .none .none s' b' .none hp hkeep E'.ext.gens E'.ext.os
    | _ => exact rf.elim
  | ret v => cases fl with
    | ret d =>
      have rf' : Rp (X.push (envOfC fd.qualname fd.scope L fa fd.code)) b' v d := rf
      exact fin v d s' b' (rf'.at (l := X.fr)) hp hkeep E'.ext.gens E'.ext.os
    | _ => exact rf.elim
  | brk => cases fl with
    | brk => exact hp.elim
    | _ => exact rf.elim
  | cont => cases fl with
    | cont => exact hp.elim
    | _ => exact rf.elim
/-- the same, as a statement of its own -/
def CallT (X : Cx) (A : Around) (fa : Addr) (ds : List D) (P : D → Sg → Prop) : Prop :=
  ∀ (s : Shared) (b : Heap) (vs : List Value) (R : Result → Shared → Prop), Hp X [] b s → RpAll X b vs ds →
    (∀ v d s' b', Rp X b' v d → (∃ ω', P d ⟨[], ω'⟩) → (∀ a o, s.heap.get? a = some o → s'.heap.get? a = some o) → s'.gens = s.gens → s'.os = s.os → R (.ok (.ret v)) s') →
    codeAny X.M A (.call (.ref fa) ⟨vs, []⟩) R s
theorem fn_both {fa : Addr} {qual : Str} {body : List Stmt} {scope : Scope} {cdv : Value} {fd : FuncData} {ds : List D} {dbs : List (Str × D)} (hf : FnOk X fa qual body scope cdv fd) (hroom : A.depth < recursionLimit)
    (hbind : ∀ s b vs, X.Top b → Le b s.heap → RpAll X b vs ds → ∃ binds, BindsTo s fd ⟨vs, []⟩ binds ∧ RpKv X b binds dbs)
    (hnd' : nodupS (dbs.map (·.1)) = true) (hkind : (dbs.all fun y => scope.names.lookup y.1 == some .local || scope.names.lookup y.1 == some .cell) = true)
    (hbody : ∀ L, Exs (X.push (envOfC qual scope L fa cdv)) (A.deeper (envOfC qual scope L fa cdv)) (envOfC qual scope L fa cdv) ⟨dbs, σ.ω⟩ body (fun fl σ' => match fl with | .ret d => P d ⟨σ.ρ, σ'.ω⟩ | .next => P .none ⟨σ.ρ, σ'.ω⟩ | _ => False)) :
    OpL X A env σ (fun vs => call (.ref fa) vs) ds P ∧ (X.fr = [] → σ = ⟨[], []⟩ → CallT X A fa ds P) := by
  refine ⟨fn_call hf hroom hbind hnd' hkind hbody, fun hfr hσ s b vs R H rv fin => ?_⟩
  subst hσ
  refine fn_callTop (PT := fun d => ∃ ω', P d ⟨[], ω'⟩) hf hroom hfr H rv hbind hnd' hkind (fun L => ?_) fin
  refine TrF.mono (hbody L) fun fl σ' h => ?_
  cases fl with
  | ret d => exact ⟨_, h⟩
  | next => exact ⟨_, h⟩
  | brk => exact h
  | cont => exact h
end Mine

namespace Mine
open PySem PySem.W PySem.Calls PyProof.Rows

/-! lists under names: a dict of lists that turn -/
abbrev NE := Str × Addr × List D
def dE (e : NE) : Str × D := (e.1, .raw (.ref e.2.1))
def cE (e : NE) : Addr × C := (e.2.1, .lst e.2.2)
def appE (k : Str) (x : D) : List NE → List NE
  | [] => []
  | e :: r => if (k == e.1) = true then (e.1, e.2.1, e.2.2 ++ [x]) :: r else e :: appE k x r
theorem appE_keys (k : Str) (x : D) : ∀ L : List NE, (appE k x L).map (·.1) = L.map (·.1)
  | [] => rfl
  | e :: r => by
    unfold appE; split
    · rfl
    · simp [appE_keys k x r]
theorem appE_dE (k : Str) (x : D) : ∀ L : List NE, (appE k x L).map dE = L.map dE
  | [] => rfl
  | e :: r => by
    unfold appE; split
    · rfl
    · simp [appE_dE k x r]
theorem dE_none {k : Str} : ∀ {L : List NE}, k ∉ L.map (·.1) → (L.map dE).lookup k = none
  | [], _ => rfl
  | e :: r, h => by
    simp only [List.map_cons, List.mem_cons, not_or] at h
    simp only [List.map_cons, dE, List.lookup_cons]
    have : (k == e.1) = false := by simpa using h.1
    rw [this]; exact dE_none h.2
theorem dE_isSome {k : Str} {L : List NE} : ((L.map dE).lookup k).isSome = decide (k ∈ L.map (·.1)) := by
  induction L with
  | nil => simp
  | cons e r ih =>
    simp only [List.map_cons, dE, List.lookup_cons, List.mem_cons]
    by_cases h : k = e.1
    · have : (k == e.1) = true := by simpa using h
      rw [this]; simp [h]
    · have : (k == e.1) = false := by simpa using h
      rw [this]
      simp only [h, false_or]
      exact ih
theorem Upd.skip {a : Addr} {c c' : C} {r r' : Om} : ∀ (l : Om), Upd a c c' r r' → Upd a c c' (l ++ r) (l ++ r')
  | [], u => u
  | _ :: l, u => .tail (Upd.skip l u)
theorem appE_upd {k : Str} (x : D) (r : Om) : ∀ {L : List NE}, k ∈ L.map (·.1) → ∃ a l, (L.map dE).lookup k = some (.raw (.ref a)) ∧ (k, a, l) ∈ L ∧ Upd a (.lst l) (.lst (l ++ [x])) (L.map cE ++ r) ((appE k x L).map cE ++ r)
  | [], h => by cases h
  | e :: t, h => by
    obtain ⟨n, a, l⟩ := e
    by_cases hk : k = n
    · subst hk
      refine ⟨a, l, by simp [dE, List.lookup_cons], .head _, ?_⟩
      simp only [appE, beq_self_eq_true, if_true, List.map_cons, cE, List.cons_append]
      exact .head
    · have hk' : (k == n) = false := by simpa using hk
      simp only [List.map_cons, List.mem_cons, hk, false_or] at h
      obtain ⟨a', l', h1, h2, h3⟩ := appE_upd x r (L := t) h
      refine ⟨a', l', by simp only [List.map_cons, dE, List.lookup_cons, hk']; exact h1, .tail _ h2, ?_⟩
      simp only [appE, hk', Bool.false_eq_true, if_false, List.map_cons, List.cons_append]
      exact .tail h3
theorem appE_mem {k : Str} {x : D} : ∀ {L : List NE} {e : NE}, e ∈ appE k x L → e ∈ L ∨ ∃ a l, e = (k, a, l ++ [x]) ∧ (k, a, l) ∈ L
  | [], e, h => by cases h
  | e' :: r, e, h => by
    unfold appE at h
    split at h
    · rename_i hk
      have hk := beq_iff_eq.mp hk
      rcases List.mem_cons.mp h with rfl | h
      · right
        obtain ⟨n, a, l⟩ := e'
        dsimp only at hk; subst hk
        exact ⟨a, l, rfl, .head _⟩
      · exact .inl (.tail _ h)
    · rcases List.mem_cons.mp h with rfl | h
      · exact .inl (.head _)
      · rcases appE_mem h with h | ⟨a, l, h1, h2⟩
        · exact .inl (.tail _ h)
        · exact .inr ⟨a, l, h1, .tail _ h2⟩

/-! the grammar's state -/
abbrev GPr := Str × List Str
structure GA where
  d : Addr
  pr : Addr
  pn : Addr
  pm : Addr
  te : Addr
  no : Addr
  fi : Addr
  fo : Addr
  us : Addr
def selfD (g : GA) : List (Str × D) := [("Productions", .raw (.ref g.pr)), ("Prodnames", .raw (.ref g.pn)), ("Prodmap", .raw (.ref g.pm)), ("Terminals", .raw (.ref g.te)), ("Nonterminals", .raw (.ref g.no)),
  ("First", .raw (.ref g.fi)), ("Follow", .raw (.ref g.fo)), ("Precedence", .dct []), ("UsedPrecedence", .raw (.ref g.us)), ("Start", .none)]
def ωG (g : GA) (prods : List D) (pm : List (Str × D)) (TT NT PN : List NE) (ω : Om) : Om :=
  (g.d, .dct (selfD g)) :: (g.pr, .lst prods) :: (g.pn, .dct (PN.map dE)) :: (g.pm, .dct pm) :: (g.te, .dct (TT.map dE)) :: (g.no, .dct (NT.map dE)) :: (g.fi, .dct []) :: (g.fo, .dct []) ::
  (TT.map cE ++ (NT.map cE ++ (PN.map cE ++ ω)))

def usymT (u : List Str) (s : Str) : List Str := if (u.any fun y => y == s) = true then u else u ++ [s]
def usymsF (ss : List Str) : List Str := ss.foldl usymT []
theorem usymsF_len (ss : List Str) : (usymsF ss).length ≤ ss.length := by
  have gen : ∀ (ss u : List Str), (ss.foldl usymT u).length ≤ u.length + ss.length := by
    intro ss
    induction ss with
    | nil => intro u; simp
    | cons s r ih =>
      intro u
      have := ih (usymT u s)
      simp only [List.foldl_cons, List.length_cons]
      have h2 : (usymT u s).length ≤ u.length + 1 := by unfold usymT; split <;> simp
      omega
  have := gen ss []
  simpa [usymsF] using this
theorem any_str (us : List Str) (s : Str) : ((us.map D.str).any fun y => deq y (.str s)) = us.any fun y => y == s := by
  rw [List.any_map]; rfl
theorem ok_strs {us : List Str} (h : ∀ s ∈ us, PyData.strOk s = true) (n : Nat) : (us.map D.str).all (okd n) = true := by
  rw [List.all_map, List.all_eq_true]
  intro s hs
  have := h s hs
  cases n <;> exact this
theorem usymsF_mem {ss : List Str} : ∀ s ∈ usymsF ss, s ∈ ss := by
  have gen : ∀ (ss u : List Str), ∀ s ∈ ss.foldl usymT u, s ∈ u ∨ s ∈ ss := by
    intro ss
    induction ss with
    | nil => intro u s h; exact .inl h
    | cons x r ih =>
      intro u s h
      rcases ih _ s h with h | h
      · unfold usymT at h
        split at h
        · exact .inl h
        · rcases List.mem_append.mp h with h | h
          · exact .inl h
          · exact .inr (by rw [List.mem_singleton.mp h]; exact .head _)
      · exact .inr (.tail _ h)
  intro s h
  rcases gen ss [] s h with h | h
  · cases h
  · exact h
def prodStr (p : GPr) : Str := if p.2.isEmpty then p.1 ++ PySem.Str.ofString " -> <empty>" else p.1 ++ PySem.Str.ofString " -> " ++ Txt.join (PySem.Str.ofString " ") p.2
def prodB (us : D) (n : Int) (p : GPr) : List (Str × D) := [("name", .str p.1), ("prod", .tup (p.2.map .str)), ("number", .int n), ("func", .none), ("callable", .none), ("file", .str ""), ("line", .int 0),
  ("prec", .tup [.str "right", .int 0]), ("len", .int (p.2.map D.str).length), ("usyms", us), ("lr_items", .list []), ("lr_next", .none), ("str", .str (prodStr p))]
def prodA (n : Int) (p : GPr) : List (Str × D) := prodB (.list ((usymsF p.2).map .str)) n p
def prodD (aP : Addr) (q : GPr × Nat) : D := .inst aP (prodA (q.2 : Nat) q.1)
theorem empty_app' (d : Str) : Str.empty ++ d = d := KPc.empty_app d
theorem join_len {ss : List Str} (hz : ss.length ≤ 1000) (hs : ∀ s ∈ ss, s.length ≤ 100 ∧ PyData.strOk s = true) :
    (ss.map (·.length)).sum + ss.length * (PySem.Str.ofString " ").length ≤ 16777216 ∧ (Txt.join (PySem.Str.ofString " ") ss).length ≤ 200000 := by
  have hl : (PySem.Str.ofString " ").length = 1 := by decide +kernel
  have h1 : (ss.map (·.length)).sum ≤ 100 * ss.length := by
    clear hz
    induction ss with
    | nil => simp
    | cons s r ih =>
      have := ih fun x hx => hs x (.tail _ hx)
      have := (hs s (.head _)).1
      simp only [List.map_cons, List.sum_cons, List.length_cons]
      omega
  rw [hl]
  refine ⟨by omega, ?_⟩
  have h2 := StrLaws.join_length_le (PySem.Str.ofString " ") ss
  rw [hl] at h2
  refine Nat.le_trans ?_ (Nat.le_trans h2 (by omega))
  exact Nat.le_of_eq (congrArg Str.length (StrLaws.glued_eq_join _ _))

/-! one-sign symbols -/
def symCodes : List Nat := [83, 65, 66, 115, 97, 98, 84, 99]
def symS (c : Nat) : Str := ⟨#[c]⟩
def mapS (p : GPr) : Str := p.1 ++ PySem.Str.ofString " -> " ++ shownS p.2
/-- what holds of the lists behind the names when ps have been told -/
structure GI (aP : Addr) (ts : List Str) (ps : List GPr) (TT NT PN : List NE) : Prop where
  tk : TT.map (·.1) = ts
  nk : ∀ k, k ∈ NT.map (·.1) ↔ ∃ p ∈ ps, k = p.1 ∨ (k ∈ p.2 ∧ k ∉ ts)
  nn : (NT.map (·.1)).Nodup
  pk : ∀ k, k ∈ PN.map (·.1) ↔ ∃ p ∈ ps, k = p.1
  pn : (PN.map (·.1)).Nodup
  pc : ∀ e ∈ PN, e.2.2 = ((ps.zipIdx 1).filter fun q => q.1.1 == e.1).map (prodD aP)
  tc : ∀ e ∈ TT, e.2.2 = [] ↔ ∀ p ∈ ps, e.1 ∉ p.2
  nc : ∀ e ∈ NT, e.2.2 = [] ↔ ∀ p ∈ ps, e.1 ∉ p.2
  tl : ∀ e ∈ TT, e.2.2.length ≤ 20 * ps.length
  nl : ∀ e ∈ NT, e.2.2.length ≤ 20 * ps.length

variable {X : Cx} {A : Around} {env : Env} {σ : Sg} {P : D → Sg → Prop} {Q : Fl → Sg → Prop}
theorem ol_perm {f : List Value → Sem Value} {ds : List D} (h : OpL X A env σ f ds (fun d σ₁ => ∃ ω', ω'.Perm σ₁.ω ∧ P d ⟨σ₁.ρ, ω'⟩)) : OpL X A env σ f ds P := fun s b vs S rv => by
  refine wpAny_mono (h s b vs S rv) ?_ (fun _ _ x => x)
  rintro v s₁ ⟨d, ⟨ρ₁, ω₁⟩, b₁, E₁, S₁, r₁, ω', hp, p⟩
  obtain ⟨S₂, E₂⟩ := S₁.perm hp
  exact ⟨d, _, b₁, E₁.trans E₂, S₂, r₁, p⟩
open Classical in
theorem perm_of_count {ω ω' : Om} (h : ∀ x, ω.count x = ω'.count x) : ω.Perm ω' := List.perm_iff_count.mpr h
theorem asg_perm {ρ : List (Str × D)} {ω ω' : Om} {target : Expr} {d : D} {R : Sg → Prop} (hs : ω'.Perm ω) (h : Asg X A env ⟨ρ, ω'⟩ target d R) : Asg X A env ⟨ρ, ω⟩ target d R := fun s b v S r => by
  obtain ⟨S₂, E₂⟩ := S.perm hs
  refine wpAny_mono (h s b v S₂ r) ?_ (fun _ _ x => x)
  rintro _ s₁ ⟨σ₁, b₁, E₁, S₁, q⟩
  exact ⟨σ₁, b₁, E₂.trans E₁, S₁, q⟩
end Mine

namespace Mine
open PySem PySem.W PySem.Calls PyProof.Rows

structure GN (ts : List Str) (ps : List GPr) (m : Nat) (TT NT : List NE) : Prop where
  tk : TT.map (·.1) = ts
  nk : ∀ k, k ∈ NT.map (·.1) ↔ ∃ p ∈ ps, k = p.1 ∨ (k ∈ p.2 ∧ k ∉ ts)
  nn : (NT.map (·.1)).Nodup
  nd : ∀ k ∈ NT.map (·.1), k ∉ ts
  tc : ∀ e ∈ TT, e.2.2 = [] ↔ ∀ p ∈ ps, e.1 ∉ p.2
  nc : ∀ e ∈ NT, e.2.2 = [] ↔ ∀ p ∈ ps, e.1 ∉ p.2
  tl : ∀ e ∈ TT, e.2.2.length ≤ m
  nl : ∀ e ∈ NT, e.2.2.length ≤ m
structure GP (aP : Addr) (ps : List GPr) (PN : List NE) : Prop where
  pk : ∀ k, k ∈ PN.map (·.1) ↔ ∃ p ∈ ps, k = p.1
  pn : (PN.map (·.1)).Nodup
  pc : ∀ e ∈ PN, e.2.2 = ((ps.zipIdx 1).filter fun q => q.1.1 == e.1).map (prodD aP)

variable {ts : List Str} {ps : List GPr} {m : Nat} {TT NT PN : List NE} {n t : Str} {pre : List Str} {x : D}
theorem GN.more {m' : Nat} (G : GN ts ps m TT NT) (h : m ≤ m') : GN ts ps m' TT NT := ⟨G.tk, G.nk, G.nn, G.nd, G.tc, G.nc, fun e he => Nat.le_trans (G.tl e he) h, fun e he => Nat.le_trans (G.nl e he) h⟩
theorem GN.declOld (G : GN ts ps m TT NT) (h : n ∈ NT.map (·.1)) : GN ts (ps ++ [(n, [])]) m TT NT := by
  refine ⟨G.tk, fun k => ?_, G.nn, G.nd, fun e he => ?_, fun e he => ?_, G.tl, G.nl⟩
  · rw [G.nk]
    constructor
    · rintro ⟨p, hp, h⟩; exact ⟨p, List.mem_append_left _ hp, h⟩
    · rintro ⟨p, hp, h'⟩
      rcases List.mem_append.mp hp with hp | hp
      · exact ⟨p, hp, h'⟩
      · rw [List.mem_singleton.mp hp] at h'
        rcases h' with rfl | ⟨h', _⟩
        · exact (G.nk _).mp h
        · cases h'
  · rw [G.tc e he]; simp [List.mem_append, or_imp, forall_and]
  · rw [G.nc e he]; simp [List.mem_append, or_imp, forall_and]
theorem GN.declNew {a : Addr} (G : GN ts ps m TT NT) (h : n ∉ NT.map (·.1)) (hn : n ∉ ts) : GN ts (ps ++ [(n, [])]) m TT (NT ++ [(n, a, [])]) := by
  have hno : ∀ p ∈ ps, n ∉ p.2 := fun p hp z => h ((G.nk n).mpr ⟨p, hp, .inr ⟨z, hn⟩⟩)
  refine ⟨G.tk, fun k => ?_, ?_, fun k hk => ?_, fun e he => ?_, fun e he => ?_, G.tl, fun e he => ?_⟩
  · rw [List.map_append, List.mem_append, G.nk]
    constructor
    · rintro (⟨p, hp, h⟩ | h)
      · exact ⟨p, List.mem_append_left _ hp, h⟩
      · exact ⟨(n, []), by simp, .inl (by simpa using h)⟩
    · rintro ⟨p, hp, h'⟩
      rcases List.mem_append.mp hp with hp | hp
      · exact .inl ⟨p, hp, h'⟩
      · rw [List.mem_singleton.mp hp] at h'
        rcases h' with rfl | ⟨h', _⟩
        · exact .inr (by simp)
        · cases h'
  · rw [List.map_append, List.nodup_append]
    refine ⟨G.nn, by simp, fun a ha b hb => ?_⟩
    have : b = n := by simpa using hb
    subst this; rintro rfl; exact h ha
  · rw [List.map_append, List.mem_append] at hk
    rcases hk with hk | hk
    · exact G.nd k hk
    · have : k = n := by simpa using hk
      rw [this]; exact hn
  · rw [G.tc e he]; simp [List.mem_append, or_imp, forall_and]
  · rcases List.mem_append.mp he with he | he
    · rw [G.nc e he]; simp [List.mem_append, or_imp, forall_and]
    · rw [List.mem_singleton.mp he]
      simp only [true_iff]
      intro p hp
      rcases List.mem_append.mp hp with hp | hp
      · exact hno p hp
      · rw [List.mem_singleton.mp hp]; simp
  · rcases List.mem_append.mp he with he | he
    · exact G.nl e he
    · rw [List.mem_singleton.mp he]; simp

theorem last_mem {k : Str} {s : Str} : (∀ p ∈ ps ++ [(n, pre ++ [s])], k ∉ p.2) ↔ (∀ p ∈ ps ++ [(n, pre)], k ∉ p.2) ∧ k ≠ s := by
  constructor
  · intro h
    refine ⟨fun p hp => ?_, fun z => ?_⟩
    · rcases List.mem_append.mp hp with hp | hp
      · exact h p (List.mem_append_left _ hp)
      · rw [List.mem_singleton.mp hp]
        have := h (n, pre ++ [s]) (by simp)
        simp at this ⊢; exact this.1
    · have := h (n, pre ++ [s]) (by simp)
      simp at this; exact this.2 z
  · rintro ⟨h1, h2⟩ p hp
    rcases List.mem_append.mp hp with hp | hp
    · exact h1 p (List.mem_append_left _ hp)
    · rw [List.mem_singleton.mp hp]
      have := h1 (n, pre) (by simp)
      simp at this ⊢; exact ⟨this, h2⟩
theorem keys_last {k : Str} : (∃ p ∈ ps ++ [(n, pre ++ [t])], k = p.1 ∨ (k ∈ p.2 ∧ k ∉ ts)) ↔ (∃ p ∈ ps ++ [(n, pre)], k = p.1 ∨ (k ∈ p.2 ∧ k ∉ ts)) ∨ (k = t ∧ k ∉ ts) := by
  constructor
  · rintro ⟨p, hp, h⟩
    rcases List.mem_append.mp hp with hp | hp
    · exact .inl ⟨p, List.mem_append_left _ hp, h⟩
    · rw [List.mem_singleton.mp hp] at h
      rcases h with h | ⟨h, h'⟩
      · exact .inl ⟨(n, pre), by simp, .inl h⟩
      · rcases List.mem_append.mp h with h | h
        · exact .inl ⟨(n, pre), by simp, .inr ⟨h, h'⟩⟩
        · exact .inr ⟨by simpa using h, h'⟩
  · rintro (⟨p, hp, h⟩ | ⟨h, h'⟩)
    · rcases List.mem_append.mp hp with hp | hp
      · exact ⟨p, List.mem_append_left _ hp, h⟩
      · rw [List.mem_singleton.mp hp] at h
        refine ⟨(n, pre ++ [t]), by simp, h.imp id fun z => ⟨?_, z.2⟩⟩
        simp at z ⊢; exact .inl z.1
    · exact ⟨(n, pre ++ [t]), by simp, .inr ⟨by simp [h], h'⟩⟩

theorem appE_empty {L : List NE} {R : Str → Prop} (hd : (L.map (·.1)).Nodup) (h : ∀ e ∈ L, e.2.2 = [] ↔ R e.1) : ∀ e ∈ appE t x L, e.2.2 = [] ↔ R e.1 ∧ e.1 ≠ t := by
  induction L with
  | nil => intro e he; cases he
  | cons e' r ih =>
    intro e he
    simp only [List.map_cons, List.nodup_cons] at hd
    unfold appE at he
    split at he
    · rename_i hk
      have hk := beq_iff_eq.mp hk
      rcases List.mem_cons.mp he with rfl | he
      · simp [hk]
      · rw [h e (.tail _ he)]
        have : e.1 ≠ t := by rw [hk]; rintro z; exact hd.1 (z ▸ List.mem_map_of_mem he)
        simp [this]
    · rename_i hk
      have hk : ¬ t = e'.1 := by simpa using hk
      rcases List.mem_cons.mp he with rfl | he
      · rw [h e (.head _)]
        have : e.1 ≠ t := fun z => hk z.symm
        simp [this]
      · exact ih hd.2 (fun e he => h e (.tail _ he)) e he
theorem appE_len {L : List NE} (h : ∀ e ∈ L, e.2.2.length ≤ m) : ∀ e ∈ appE t x L, e.2.2.length ≤ m + 1 := fun e he => by
  rcases appE_mem he with he | ⟨a, l, rfl, hm⟩
  · exact Nat.le_succ_of_le (h e he)
  · have := h _ hm
    simp at this ⊢; exact this

theorem GN.term (hts : ts.Nodup) (G : GN ts (ps ++ [(n, pre)]) m TT NT) (h : t ∈ ts) : GN ts (ps ++ [(n, pre ++ [t])]) (m + 1) (appE t x TT) NT := by
  refine ⟨by rw [appE_keys]; exact G.tk, fun k => ?_, G.nn, G.nd, fun e he => ?_, fun e he => ?_, appE_len G.tl, fun e he => Nat.le_succ_of_le (G.nl e he)⟩
  · rw [G.nk, keys_last]
    constructor
    · exact .inl
    · rintro (z | ⟨rfl, z⟩)
      · exact z
      · exact absurd h z
  · rw [appE_empty (R := fun k => ∀ p ∈ ps ++ [(n, pre)], k ∉ p.2) (by rw [G.tk]; exact hts) G.tc e he, last_mem]
  · rw [G.nc e he, last_mem]
    have hne : e.1 ≠ t := fun z => G.nd e.1 (List.mem_map_of_mem he) (z ▸ h)
    simp [hne]
theorem GN.nonOld (G : GN ts (ps ++ [(n, pre)]) m TT NT) (h : t ∉ ts) (hk : t ∈ NT.map (·.1)) : GN ts (ps ++ [(n, pre ++ [t])]) (m + 1) TT (appE t x NT) := by
  refine ⟨G.tk, fun k => ?_, by rw [appE_keys]; exact G.nn, by rw [appE_keys]; exact G.nd, fun e he => ?_, fun e he => ?_, fun e he => Nat.le_succ_of_le (G.tl e he), appE_len G.nl⟩
  · rw [appE_keys, G.nk, keys_last]
    constructor
    · exact .inl
    · rintro (z | ⟨rfl, z⟩)
      · exact z
      · exact (G.nk _).mp hk
  · rw [G.tc e he, last_mem]
    have hne : e.1 ≠ t := fun z => h (by rw [← G.tk, ← z]; exact List.mem_map_of_mem he)
    simp [hne]
  · rw [appE_empty (R := fun k => ∀ p ∈ ps ++ [(n, pre)], k ∉ p.2) G.nn G.nc e he, last_mem]
theorem GN.nonNew {a : Addr} (G : GN ts (ps ++ [(n, pre)]) m TT NT) (h : t ∉ ts) (hk : t ∉ NT.map (·.1)) : GN ts (ps ++ [(n, pre ++ [t])]) (m + 1) TT (appE t x (NT ++ [(t, a, [])])) := by
  have hno : ∀ p ∈ ps ++ [(n, pre)], t ∉ p.2 := fun p hp z => hk ((G.nk t).mpr ⟨p, hp, .inr ⟨z, h⟩⟩)
  have hnn : ((NT ++ [((t, a, []) : NE)]).map (·.1)).Nodup := by
    rw [List.map_append, List.nodup_append]
    refine ⟨G.nn, by simp, fun a ha b hb => ?_⟩
    have : b = t := by simpa using hb
    subst this; rintro rfl; exact hk ha
  have hnc : ∀ e ∈ NT ++ [((t, a, []) : NE)], e.2.2 = [] ↔ ∀ p ∈ ps ++ [(n, pre)], e.1 ∉ p.2 := fun e he => by
    rcases List.mem_append.mp he with he | he
    · exact G.nc e he
    · rw [List.mem_singleton.mp he]
      simp only [true_iff]
      exact hno
  refine ⟨G.tk, fun k => ?_, by rw [appE_keys]; exact hnn, ?_, fun e he => ?_, fun e he => ?_, fun e he => Nat.le_succ_of_le (G.tl e he), appE_len fun e he => ?_⟩
  · rw [appE_keys, List.map_append, List.mem_append, G.nk, keys_last]
    constructor
    · rintro (z | z)
      · exact .inl z
      · have : k = t := by simpa using z
        exact .inr ⟨this, this ▸ h⟩
    · rintro (z | ⟨z, _⟩)
      · exact .inl z
      · exact .inr (by simp [z])
  · rw [appE_keys, List.map_append]
    intro k hk
    rcases List.mem_append.mp hk with hk | hk
    · exact G.nd k hk
    · have : k = t := by simpa using hk
      rw [this]; exact h
  · rw [G.tc e he, last_mem]
    have hne : e.1 ≠ t := fun z => h (by rw [← G.tk, ← z]; exact List.mem_map_of_mem he)
    simp [hne]
  · rw [appE_empty (R := fun k => ∀ p ∈ ps ++ [(n, pre)], k ∉ p.2) hnn hnc e he, last_mem]
  · rcases List.mem_append.mp he with he | he
    · exact G.nl e he
    · rw [List.mem_singleton.mp he]; simp

/-- the productions told, by name -/
def psD (aP : Addr) (ps : List GPr) : List D := (ps.zipIdx 1).map (prodD aP)
def pmD (aP : Addr) (ps : List GPr) : List (Str × D) := (ps.zipIdx 1).map fun q => (mapS q.1, prodD aP q)
variable {aP : Addr} {p : GPr}
theorem zip_snoc : (ps ++ [p]).zipIdx 1 = ps.zipIdx 1 ++ [(p, ps.length + 1)] := by
  rw [List.zipIdx_append]; simp [Nat.add_comm]
theorem psD_snoc : psD aP (ps ++ [p]) = psD aP ps ++ [prodD aP (p, ps.length + 1)] := by
  unfold psD; rw [zip_snoc]; simp
theorem pmD_snoc : pmD aP (ps ++ [p]) = pmD aP ps ++ [(mapS p, prodD aP (p, ps.length + 1))] := by
  unfold pmD; rw [zip_snoc]; simp
theorem pmD_none (h : ∀ q ∈ ps, mapS q ≠ mapS p) : (pmD aP ps).lookup (mapS p) = none := by
  have gen : ∀ (ps : List GPr) (k : Nat), (∀ q ∈ ps, mapS q ≠ mapS p) → ((ps.zipIdx k).map fun q => (mapS q.1, prodD aP q)).lookup (mapS p) = none := by
    intro ps
    induction ps with
    | nil => intro k _; rfl
    | cons q r ih =>
      intro k h
      simp only [List.zipIdx_cons, List.map_cons, List.lookup_cons]
      have : (mapS p == mapS q) = false := by simpa using fun z : mapS p = mapS q => h q (.head _) z.symm
      rw [this]
      exact ih _ fun q hq => h q (.tail _ hq)
  exact gen ps 1 h
theorem GP.old (G : GP aP ps PN) (h : p.1 ∈ PN.map (·.1)) : GP aP (ps ++ [p]) (appE p.1 (prodD aP (p, ps.length + 1)) PN) := by
  refine ⟨fun k => ?_, by rw [appE_keys]; exact G.pn, ?_⟩
  · rw [appE_keys, G.pk]
    constructor
    · rintro ⟨q, hq, e⟩; exact ⟨q, List.mem_append_left _ hq, e⟩
    · rintro ⟨q, hq, e⟩
      rcases List.mem_append.mp hq with hq | hq
      · exact ⟨q, hq, e⟩
      · rw [List.mem_singleton.mp hq] at e
        rw [e]; exact (G.pk _).mp h
  · have hd := G.pn
    have hc := G.pc
    have key : ∀ n : Str, (((ps ++ [p]).zipIdx 1).filter fun q => q.1.1 == n).map (prodD aP) = ((ps.zipIdx 1).filter fun q => q.1.1 == n).map (prodD aP) ++ (if (p.1 == n) = true then [prodD aP (p, ps.length + 1)] else []) := by
      intro n
      rw [zip_snoc, List.filter_append, List.map_append]
      congr 1
      simp only [List.filter_cons, List.filter_nil]
      split <;> rfl
    clear h G
    generalize prodD aP (p, ps.length + 1) = pd at key ⊢
    induction PN with
    | nil => intro e he; cases he
    | cons e' r ih =>
      intro e he
      simp only [List.map_cons, List.nodup_cons] at hd
      unfold appE at he
      split at he
      · rename_i hk
        rcases List.mem_cons.mp he with rfl | he
        · dsimp only
          rw [key, hc e' (.head _), if_pos hk]
        · rw [key, hc e (.tail _ he), if_neg]
          · simp
          · intro z
            exact hd.1 (by rw [← beq_iff_eq.mp hk, beq_iff_eq.mp z]; exact List.mem_map_of_mem he)
      · rename_i hk
        rcases List.mem_cons.mp he with rfl | he
        · rw [key, hc e (.head _), if_neg hk]; simp
        · exact ih hd.2 (fun e he => hc e (.tail _ he)) e he
theorem GP.new {a : Addr} (G : GP aP ps PN) (h : p.1 ∉ PN.map (·.1)) : GP aP (ps ++ [p]) (PN ++ [(p.1, a, [prodD aP (p, ps.length + 1)])]) := by
  refine ⟨fun k => ?_, ?_, fun e he => ?_⟩
  · rw [List.map_append, List.mem_append, G.pk]
    constructor
    · rintro (⟨q, hq, e⟩ | e)
      · exact ⟨q, List.mem_append_left _ hq, e⟩
      · exact ⟨p, by simp, by simpa using e⟩
    · rintro ⟨q, hq, e⟩
      rcases List.mem_append.mp hq with hq | hq
      · exact .inl ⟨q, hq, e⟩
      · rw [List.mem_singleton.mp hq] at e
        exact .inr (by simp [e])
  · rw [List.map_append, List.nodup_append]
    refine ⟨G.pn, by simp, fun a ha b hb => ?_⟩
    have : b = p.1 := by simpa using hb
    subst this; rintro rfl; exact h ha
  · have key : ∀ n : Str, (((ps ++ [p]).zipIdx 1).filter fun q => q.1.1 == n).map (prodD aP) = ((ps.zipIdx 1).filter fun q => q.1.1 == n).map (prodD aP) ++ (if (p.1 == n) = true then [prodD aP (p, ps.length + 1)] else []) := by
      intro n
      rw [zip_snoc, List.filter_append, List.map_append]
      congr 1
      simp only [List.filter_cons, List.filter_nil]
      split <;> rfl
    rw [key]
    rcases List.mem_append.mp he with he | he
    · rw [G.pc e he, if_neg]
      · simp
      · intro z
        exact h (by rw [beq_iff_eq.mp z]; exact List.mem_map_of_mem he)
    · rw [List.mem_singleton.mp he]
      dsimp only
      rw [if_pos (by simp)]
      have : ((ps.zipIdx 1).filter fun q => q.1.1 == p.1) = [] := by
        rw [List.filter_eq_nil_iff]
        rintro ⟨q, i⟩ hq z
        have hm : q ∈ ps := by
          have := List.mem_map_of_mem (f := (·.1)) hq
          simpa using this
        exact h ((G.pk _).mpr ⟨q, hm, (beq_iff_eq.mp z).symm⟩)
      rw [this]; rfl
end Mine

namespace Mine
open PySem PySem.W PySem.Calls PyProof.Rows

def bodyL : Nat → List Nat → List Nat
  | _, [] => []
  | 0, c :: r => 39 :: c :: 39 :: bodyL 1 r
  | k + 1, c :: r => 44 :: 32 :: 39 :: c :: 39 :: bodyL (k + 2) r
theorem repr_sym : ∀ c ∈ symCodes, reprText (symS c) = ⟨#[39, c, 39]⟩ := by decide +kernel
theorem cps_list_append (x y : Str) : (x ++ y).cps.toList = x.cps.toList ++ y.cps.toList := by rw [PySem.Str.cps_append]; simp
theorem commaS : (Str.ofString ", ").cps.toList = [44, 32] := by decide +kernel
theorem emptyS : (Str.ofString "").cps.toList = [] := by decide +kernel
theorem textFrom_list : ∀ (cs : List Nat) (k : Nat) (acc : Str), (∀ c ∈ cs, c ∈ symCodes) → (textFrom k acc (cs.map fun c => reprText (symS c))).cps.toList = acc.cps.toList ++ bodyL k cs
  | [], k, acc, _ => by cases k <;> simp [textFrom, bodyL]
  | c :: r, 0, acc, h => by
    simp only [List.map_cons, textFrom]
    rw [textFrom_list r 1 _ fun x hx => h x (.tail _ hx), repr_sym c (h c (.head _)), cps_list_append, cps_list_append]
    simp [bodyL, emptyS]
  | c :: r, k + 1, acc, h => by
    simp only [List.map_cons, textFrom]
    rw [textFrom_list r (k + 2) _ fun x hx => h x (.tail _ hx), repr_sym c (h c (.head _)), cps_list_append, cps_list_append]
    simp [bodyL, commaS]
theorem shownAll_map (cs : List Nat) : PyData.shownAll (D.pyAll (cs.map fun c => D.str (symS c))) = cs.map fun c => reprText (symS c) := by
  induction cs with
  | nil => simp [D.pyAll, PyData.shownAll]
  | cons c r ih => simp only [List.map_cons, D.pyAll, PyData.shownAll, ih]; simp [D.py, PyData.shown]
theorem shownS_list {cs : List Nat} (h : ∀ c ∈ cs, c ∈ symCodes) : (shownS (cs.map symS)).cps.toList = 91 :: (bodyL 0 cs ++ [93]) := by
  have e : shownS (cs.map symS) = listText (cs.map fun c => reprText (symS c)) := by
    show (PyData.list (D.pyAll ((cs.map symS).map D.str))).shown = _
    rw [List.map_map, ← shownAll_map]
    simp only [PyData.shown]; rfl
  rw [e]
  unfold listText
  rw [cps_list_append, textFrom_list cs 0 _ h]
  have h1 : (Str.ofString "[").cps.toList = [91] := by decide +kernel
  have h2 : (Str.ofString "]").cps.toList = [93] := by decide +kernel
  rw [h1, h2]; rfl
theorem bodyL_len : ∀ (cs : List Nat) (k : Nat), (bodyL k cs).length ≤ 5 * cs.length
  | [], k => by cases k <;> simp [bodyL]
  | c :: r, 0 => by have := bodyL_len r 1; simp [bodyL]; omega
  | c :: r, k + 1 => by have := bodyL_len r (k + 2); simp [bodyL]; omega
theorem bodyL_inj : ∀ {cs ds : List Nat} {k : Nat}, bodyL k cs = bodyL k ds → cs = ds
  | [], [], _, _ => rfl
  | [], d :: r, 0, h => by simp [bodyL] at h
  | [], d :: r, k + 1, h => by simp [bodyL] at h
  | c :: r, [], 0, h => by simp [bodyL] at h
  | c :: r, [], k + 1, h => by simp [bodyL] at h
  | c :: r, d :: r', 0, h => by
    simp only [bodyL, List.cons.injEq, true_and] at h
    rw [h.1, bodyL_inj h.2]
  | c :: r, d :: r', k + 1, h => by
    simp only [bodyL, List.cons.injEq, true_and] at h
    rw [h.1, bodyL_inj h.2]
theorem shownS_len {cs : List Nat} (h : ∀ c ∈ cs, c ∈ symCodes) : (shownS (cs.map symS)).length ≤ 5 * cs.length + 2 := by
  have h1 := congrArg List.length (shownS_list h)
  have h2 := bodyL_len cs 0
  simp only [List.length_cons, List.length_append, List.length_nil, Array.length_toList] at h1
  show (shownS (cs.map symS)).cps.size ≤ _
  omega
/-- a production by codes -/
abbrev CPr := Nat × List Nat
def gpr (q : CPr) : GPr := (symS q.1, q.2.map symS)
def CPr.ok (q : CPr) : Prop := q.1 ∈ symCodes ∧ ∀ c ∈ q.2, c ∈ symCodes
theorem mapS_inj {p q : CPr} (hp : p.ok) (hq : q.ok) (h : mapS (gpr p) = mapS (gpr q)) : p = q := by
  have h1 := congrArg (fun s : Str => s.cps.toList) h
  simp only [mapS, gpr, cps_list_append] at h1
  rw [shownS_list hp.2, shownS_list hq.2] at h1
  simp only [symS, List.cons_append, List.nil_append] at h1
  obtain ⟨h2, h3⟩ := List.cons.inj h1
  have h4 := List.append_cancel_left h3
  simp only [List.nil_append, List.cons.injEq, true_and] at h4
  have h5 := List.append_cancel_right h4
  have h6 := bodyL_inj h5
  obtain ⟨a, b⟩ := p
  obtain ⟨c, d⟩ := q
  dsimp only at h2 h6
  rw [h2, h6]
theorem sym_strOk : ∀ c ∈ symCodes, PyData.strOk (symS c) = true := by decide +kernel
theorem sym_len (c : Nat) : (symS c).length = 1 := rfl
end Mine

namespace Mine
open PySem PySem.W PySem.Calls PyProof.Rows

/-! a loop over a list that stands in a cell, or is data -/
open Classical in
noncomputable def seqC (X : Cx) (d : D) (l : List D) (σ : Sg) : Option (List D) := if Lst X σ d l then some l else none
section
variable {X : Cx} {A : Around} {env : Env} {σ : Sg} {P : D → Sg → Prop} {Q : Fl → Sg → Prop}
theorem seqC_of {d : D} {l : List D} (h : Lst X σ d l) : seqC X d l σ = some l := by unfold seqC; rw [if_pos h]
theorem of_seqC {d : D} {l ds : List D} (h : seqC X d l σ = some ds) : Lst X σ d l ∧ ds = l := by
  unfold seqC at h
  split at h
  · rename_i q; cases h; exact ⟨q, rfl⟩
  · cases h
theorem itb_lst {target : Expr} {d : D} {l : List D} (hh : A.handled = none) (h : Lst X σ d l) : Itb X A env σ target d (seqC X d l) := fun s b v S r => by
  obtain ⟨a, vs, n, rfl, g, ra⟩ := h.at S r
  refine wpAny_pyIter_list (isList_of g) ⟨[s.heap.objs.size], fun i h => h.IsListIter s.heap.objs.size a i, _, s.toks, rfl, le_push _ _, fun x hx => by rw [List.mem_singleton.mp hx]; exact fresh_none _, ?_, ⟨_, Heap.get?_push_size _ rfl, rfl, rfl⟩⟩
  exact itr_list hh fun env σ s' b' ds' S' hb e => by
    obtain ⟨hl, rfl⟩ := of_seqC e
    obtain ⟨a', vs', n', e', g', ra'⟩ := hl.at S' (r.mono hb)
    cases e'
    exact ⟨vs', isList_of g', ra'⟩
theorem ex_forC {α : Type} {target iter : Expr} {body orelse : List Stmt} {pos : Pos} (d : D) (l : List α) (f : α → D) (Inv : List α → Sg → Prop) (hh : A.handled = none)
    (hiter : Ev X A env σ iter (fun d' σ₁ => d' = d ∧ Inv [] σ₁))
    (hseq : ∀ pre σ, Inv pre σ → Lst X σ d (l.map f))
    (step : ∀ pre x post σ, l = pre ++ x :: post → Inv pre σ → Asg X A env σ target (f x) (fun σ' => Exs X A env σ' body (TurnP Q (Inv (pre ++ [x])))))
    (stop : ∀ σ, Inv l σ → Exs X A env σ orelse Q)
    (hs : ∀ x, foldedSetIterable iter env x = pure x) : Ex X A env σ (.For target iter body orelse pos) Q :=
  ex_forS l f (seqC X d (l.map f)) Inv (src_of (Tr.mono hiter fun d' σ₁ ⟨e, i⟩ => by subst e; exact ⟨itb_lst hh (hseq _ _ i), i⟩)) (fun pre σ i => seqC_of (hseq pre σ i)) step stop hs
end

theorem Lst.to {X X' : Cx} {σ σ' : Sg} {d : D} {l : List D} (h : Lst X σ d l) (hω : ∀ p ∈ σ.ω, p ∈ σ'.ω) : Lst X' σ' d l := by
  rcases h with h | ⟨a, h, h'⟩
  · exact .inl h
  · exact .inr ⟨a, h, hω _ h'⟩
theorem Dct.to {X X' : Cx} {σ σ' : Sg} {d : D} {l : List (Str × D)} (h : Dct X σ d l) (hω : ∀ p ∈ σ.ω, p ∈ σ'.ω) : Dct X' σ' d l := by
  rcases h with h | ⟨a, h, h'⟩
  · exact .inl h
  · exact .inr ⟨a, h, hω _ h'⟩
/-! first of a row -/
def epsS : Str := "<empty>"
def addF (a : List Str) (f : Str) : List Str := if (f == epsS) = true then a else if (a.any fun y => y == f) = true then a else a ++ [f]
def firstG (lk : Str → List Str) : List Str → List Str → List Str
  | a, [] => a ++ [epsS]
  | a, x :: r => if ((lk x).any fun y => y == epsS) = true then firstG lk ((lk x).foldl addF a) r else (lk x).foldl addF a
def firstF (lk : Str → List Str) (ss : List Str) : List Str := firstG lk [] ss
theorem any_eq {l : List Str} {x : Str} : (l.any fun y => y == x) = true ↔ x ∈ l := by
  rw [List.any_eq_true]
  constructor
  · rintro ⟨y, hy, e⟩; rw [← beq_iff_eq.mp e]; exact hy
  · intro h; exact ⟨x, h, by simp⟩
theorem mem_addF {a : List Str} {f x : Str} : x ∈ addF a f ↔ x ∈ a ∨ (x = f ∧ f ≠ epsS) := by
  unfold addF
  split
  · rename_i h
    have := beq_iff_eq.mp h
    constructor
    · exact .inl
    · rintro (h | ⟨_, h⟩)
      · exact h
      · exact absurd this h
  · rename_i h
    have h : f ≠ epsS := by simpa using h
    split
    · rename_i h'
      have := any_eq.mp h'
      constructor
      · exact .inl
      · rintro (h | ⟨rfl, _⟩)
        · exact h
        · exact this
    · simp [h]
theorem mem_foldF {x : Str} : ∀ {l a : List Str}, x ∈ l.foldl addF a ↔ x ∈ a ∨ (x ∈ l ∧ x ≠ epsS)
  | [], a => by simp
  | f :: l, a => by
    rw [List.foldl_cons, mem_foldF, mem_addF]
    constructor
    · rintro ((h | ⟨rfl, h⟩) | ⟨h, h'⟩)
      · exact .inl h
      · exact .inr ⟨.head _, h⟩
      · exact .inr ⟨.tail _ h, h'⟩
    · rintro (h | ⟨h, h'⟩)
      · exact .inl (.inl h)
      · rcases List.mem_cons.mp h with rfl | h
        · exact .inl (.inr ⟨rfl, h'⟩)
        · exact .inr ⟨h, h'⟩
/-- x opens the row ss -/
def Opens (lk : Str → List Str) (x : Str) : List Str → Prop
  | [] => False
  | y :: r => x ∈ lk y ∨ (epsS ∈ lk y ∧ Opens lk x r)
theorem mem_firstG {lk : Str → List Str} {x : Str} : ∀ {ss a : List Str}, epsS ∉ a → (x ∈ firstG lk a ss ↔ x ∈ a ∨ (x ≠ epsS ∧ Opens lk x ss) ∨ (x = epsS ∧ ∀ y ∈ ss, epsS ∈ lk y))
  | [], a, _ => by simp [firstG, Opens]
  | y :: r, a, ha => by
    unfold firstG
    split
    · rename_i h
      have h := any_eq.mp h
      rw [mem_firstG (by rw [mem_foldF]; simp [ha]), mem_foldF]
      simp only [Opens, List.mem_cons, forall_eq_or_imp, h, true_and]
      constructor
      · rintro ((h | ⟨h, h'⟩) | ⟨h, h'⟩ | ⟨h, h'⟩)
        · exact .inl h
        · exact .inr (.inl ⟨h', .inl h⟩)
        · exact .inr (.inl ⟨h, .inr h'⟩)
        · exact .inr (.inr ⟨h, h'⟩)
      · rintro (h | ⟨h, h' | h'⟩ | ⟨h, h'⟩)
        · exact .inl (.inl h)
        · exact .inl (.inr ⟨h', h⟩)
        · exact .inr (.inl ⟨h, h'⟩)
        · exact .inr (.inr ⟨h, h'⟩)
    · rename_i h
      have h : epsS ∉ lk y := fun z => h (any_eq.mpr z)
      rw [mem_foldF]
      simp only [Opens, List.mem_cons, forall_eq_or_imp, h, false_and, or_false, and_false]
      constructor
      · rintro (h | ⟨h, h'⟩)
        · exact .inl h
        · exact .inr ⟨h', h⟩
      · rintro (h | ⟨h, h'⟩)
        · exact .inl h
        · exact .inr ⟨h', h⟩
theorem mem_firstF {lk : Str → List Str} {x : Str} {ss : List Str} : x ∈ firstF lk ss ↔ (x ≠ epsS ∧ Opens lk x ss) ∨ (x = epsS ∧ ∀ y ∈ ss, epsS ∈ lk y) := by
  unfold firstF
  rw [mem_firstG (by simp)]
  simp
theorem addF_len (a : List Str) (f : Str) : (addF a f).length ≤ a.length + 1 := by
  unfold addF; split
  · omega
  · split <;> simp
theorem foldF_len : ∀ (l a : List Str), (l.foldl addF a).length ≤ a.length + l.length
  | [], a => by simp
  | f :: l, a => by
    have h1 := foldF_len l (addF a f)
    have h2 := addF_len a f
    simp only [List.foldl_cons, List.length_cons]; omega
/-- what has been gathered when the names of pre have been looked at -/
def gathF (lk : Str → List Str) (pre : List Str) : List Str := pre.foldl (fun a x => (lk x).foldl addF a) []
theorem gathF_snoc (lk : Str → List Str) (pre : List Str) (x : Str) : gathF lk (pre ++ [x]) = (lk x).foldl addF (gathF lk pre) := by simp [gathF]
theorem gathF_len {lk : Str → List Str} {m : Nat} : ∀ {pre : List Str}, (∀ x ∈ pre, (lk x).length ≤ m) → (gathF lk pre).length ≤ m * pre.length := by
  intro pre
  have gen : ∀ (pre a : List Str), (∀ x ∈ pre, (lk x).length ≤ m) → (pre.foldl (fun a x => (lk x).foldl addF a) a).length ≤ a.length + m * pre.length := by
    intro pre
    induction pre with
    | nil => intro a _; simp
    | cons x r ih =>
      intro a h
      have h1 := ih ((lk x).foldl addF a) fun y hy => h y (.tail _ hy)
      have h2 := foldF_len (lk x) a
      have h3 := h x (.head _)
      simp only [List.foldl_cons, List.length_cons, Nat.mul_succ]; omega
  intro h
  have := gen pre [] h
  simpa [gathF] using this
theorem gathF_mem {lk : Str → List Str} {s : Str} : ∀ {pre : List Str}, s ∈ gathF lk pre → ∃ x ∈ pre, s ∈ lk x := by
  intro pre
  have gen : ∀ (pre a : List Str), s ∈ pre.foldl (fun a x => (lk x).foldl addF a) a → s ∈ a ∨ ∃ x ∈ pre, s ∈ lk x := by
    intro pre
    induction pre with
    | nil => intro a h; exact .inl h
    | cons x r ih =>
      intro a h
      rcases ih _ h with h | ⟨y, hy, h⟩
      · rcases mem_foldF.mp h with h | ⟨h, _⟩
        · exact .inl h
        · exact .inr ⟨x, .head _, h⟩
      · exact .inr ⟨y, .tail _ hy, h⟩
  intro h
  rcases gen pre [] h with h | h
  · cases h
  · exact h
theorem firstG_pre {lk : Str → List Str} {a : List Str} : ∀ {pre post : List Str}, (∀ y ∈ pre, ((lk y).any fun z => z == epsS) = true) → firstG lk a (pre ++ post) = firstG lk (pre.foldl (fun a x => (lk x).foldl addF a) a) post
  | [], post, _ => rfl
  | y :: r, post, h => by
    show firstG lk a (y :: (r ++ post)) = _
    rw [firstG, if_pos (h y (.head _)), firstG_pre fun z hz => h z (.tail _ hz)]; rfl
end Mine

namespace Mine
open PySem PySem.W PySem.Calls PyProof.Rows

/-! First and Follow: lists of texts under names -/
abbrev FE := Str × Addr × List Str
def toNE (e : FE) : NE := (e.1, e.2.1, e.2.2.map .str)
def dF (e : FE) : Str × D := (e.1, .raw (.ref e.2.1))
def cF (e : FE) : Addr × C := (e.2.1, .lst (e.2.2.map .str))
def appF (k s : Str) : List FE → List FE
  | [] => []
  | e :: r => if (k == e.1) = true then (e.1, e.2.1, e.2.2 ++ [s]) :: r else e :: appF k s r
def lkF : List FE → Str → List Str
  | [], x => [x]
  | e :: r, x => if (x == e.1) = true then e.2.2 else lkF r x
def totF (L : List FE) : Nat := (L.map fun e => e.2.2.length).sum
theorem appF_keys (k s : Str) : ∀ L : List FE, (appF k s L).map (·.1) = L.map (·.1)
  | [] => rfl
  | e :: r => by
    unfold appF; split
    · rfl
    · simp [appF_keys k s r]
theorem appF_dF (k s : Str) : ∀ L : List FE, (appF k s L).map dF = L.map dF
  | [] => rfl
  | e :: r => by
    unfold appF; split
    · rfl
    · simp [appF_dF k s r]
theorem appF_tot {k s : Str} : ∀ {L : List FE}, k ∈ L.map (·.1) → totF (appF k s L) = totF L + 1
  | [], h => by cases h
  | e :: r, h => by
    unfold appF; split
    · simp [totF]; omega
    · rename_i hk
      have hk : ¬ k = e.1 := by simpa using hk
      simp only [List.map_cons, List.mem_cons, hk, false_or] at h
      have := appF_tot (s := s) h
      simp only [totF, List.map_cons, List.sum_cons] at this ⊢
      omega
theorem lkF_app {k s x : Str} : ∀ {L : List FE}, k ∈ L.map (·.1) → lkF (appF k s L) x = if (x == k) = true then lkF L x ++ [s] else lkF L x
  | [], h => by cases h
  | e :: r, h => by
    unfold appF; split
    · rename_i hk
      have hk := beq_iff_eq.mp hk
      simp only [lkF, ← hk]
      split <;> rfl
    · rename_i hk
      have hk : ¬ k = e.1 := by simpa using hk
      simp only [List.map_cons, List.mem_cons, hk, false_or] at h
      simp only [lkF]
      by_cases hx : x = e.1
      · have h1 : (x == e.1) = true := by simpa using hx
        have h2 : (x == k) = false := by simpa using fun z : x = k => hk (z ▸ hx)
        simp [h1, h2]
      · have h1 : (x == e.1) = false := by simpa using hx
        rw [h1]
        simp only [Bool.false_eq_true, if_false]
        exact lkF_app h
theorem lkF_none {x : Str} : ∀ {L : List FE}, x ∉ L.map (·.1) → lkF L x = [x]
  | [], _ => rfl
  | e :: r, h => by
    simp only [List.map_cons, List.mem_cons, not_or] at h
    have : (x == e.1) = false := by simpa using h.1
    simp only [lkF, this, Bool.false_eq_true, if_false]
    exact lkF_none h.2
theorem appF_upd {k s : Str} (r : Om) : ∀ {L : List FE}, k ∈ L.map (·.1) → ∃ a, (L.map dF).lookup k = some (.raw (.ref a)) ∧ (k, a, lkF L k) ∈ L ∧ Upd a (.lst ((lkF L k).map .str)) (.lst ((lkF L k).map .str ++ [.str s])) (L.map cF ++ r) ((appF k s L).map cF ++ r)
  | [], h => by cases h
  | e :: t, h => by
    obtain ⟨n, a, l⟩ := e
    by_cases hk : k = n
    · subst hk
      refine ⟨a, by simp [dF, List.lookup_cons], by simp [lkF], ?_⟩
      simp only [appF, lkF, beq_self_eq_true, if_true, List.map_cons, cF, List.cons_append, List.map_append, List.map_nil]
      exact .head
    · have hk' : (k == n) = false := by simpa using hk
      simp only [List.map_cons, List.mem_cons, hk, false_or] at h
      obtain ⟨a', h1, h2, h3⟩ := appF_upd (s := s) r (L := t) h
      refine ⟨a', by simp only [List.map_cons, dF, List.lookup_cons, hk']; exact h1, by simp only [lkF, hk', Bool.false_eq_true, if_false]; exact .tail _ h2, ?_⟩
      simp only [appF, lkF, hk', Bool.false_eq_true, if_false, List.map_cons, List.cons_append]
      exact .tail h3
theorem dF_none {k : Str} : ∀ {L : List FE}, k ∉ L.map (·.1) → (L.map dF).lookup k = none
  | [], _ => rfl
  | e :: r, h => by
    simp only [List.map_cons, List.mem_cons, not_or] at h
    simp only [List.map_cons, dF, List.lookup_cons]
    have : (k == e.1) = false := by simpa using h.1
    rw [this]; exact dF_none h.2
theorem lookup_app_none {k : Str} {d : List (Str × D)} : ∀ {l : List (Str × D)}, k ∉ l.map (·.1) → (l ++ d).lookup k = d.lookup k
  | [], _ => rfl
  | e :: r, h => by
    simp only [List.map_cons, List.mem_cons, not_or] at h
    obtain ⟨n, x⟩ := e
    simp only [List.cons_append, List.lookup_cons]
    have : (k == n) = false := by simpa using h.1
    rw [this]; exact lookup_app_none h.2
theorem lookup_none_of {k : Str} : ∀ {l : List (Str × D)}, k ∉ l.map (·.1) → l.lookup k = none
  | [], _ => rfl
  | e :: r, h => by
    simp only [List.map_cons, List.mem_cons, not_or] at h
    obtain ⟨n, x⟩ := e
    simp only [List.lookup_cons]
    have : (k == n) = false := by simpa using h.1
    rw [this]; exact lookup_none_of h.2
def tD (t : Str) : Str × D := (t, .list [.str t])
theorem tD_lookup {k : Str} {d : List (Str × D)} : ∀ {l : List Str}, k ∈ l → (l.map tD ++ d).lookup k = some (.list [.str k])
  | [], h => by cases h
  | t :: r, h => by
    simp only [List.map_cons, List.cons_append, tD, List.lookup_cons]
    by_cases hk : k = t
    · subst hk; simp
    · have : (k == t) = false := by simpa using hk
      rw [this]
      rcases List.mem_cons.mp h with h | h
      · exact absurd h hk
      · exact tD_lookup h
theorem tD_keys (l : List Str) : (l.map tD).map (·.1) = l := by simp [tD, Function.comp_def]
/-- First, told: terminals by themselves, then the names -/
def FD (ts : List Str) (FN : List FE) : List (Str × D) := (ts ++ [("$end" : Str)]).map tD ++ FN.map dF
def selfF (pl pn pm te no fi fo us st : D) : List (Str × D) := [("Productions", pl), ("Prodnames", pn), ("Prodmap", pm), ("Terminals", te), ("Nonterminals", no), ("First", fi), ("Follow", fo), ("Precedence", .dct []), ("UsedPrecedence", us), ("Start", st)]

structure FGood (ns : List Str) (Snd : Str → Str → Prop) (FN : List FE) : Prop where
  keys : FN.map (·.1) = ns
  nd : ∀ e ∈ FN, e.2.2.Nodup
  sound : ∀ e ∈ FN, ∀ f ∈ e.2.2, Snd e.1 f
theorem lkF_mem {L : List FE} {k : Str} (h : k ∈ L.map (·.1)) : ∃ a, (k, a, lkF L k) ∈ L := by
  obtain ⟨a, _, h2, _⟩ := appF_upd (s := k) [] h
  exact ⟨a, h2⟩
variable {ns : List Str} {Snd : Str → Str → Prop} {FN : List FE}
theorem FGood.snd (G : FGood ns Snd FN) {n f : Str} (hn : n ∈ ns) (h : f ∈ lkF FN n) : Snd n f := by
  obtain ⟨a, ha⟩ := lkF_mem (L := FN) (k := n) (by rw [G.keys]; exact hn)
  exact G.sound _ ha f h
theorem FGood.nodup (G : FGood ns Snd FN) {n : Str} (hn : n ∈ ns) : (lkF FN n).Nodup := by
  obtain ⟨a, ha⟩ := lkF_mem (L := FN) (k := n) (by rw [G.keys]; exact hn)
  exact G.nd _ ha
theorem nodup_len : ∀ {l U : List Str}, l.Nodup → (∀ x ∈ l, x ∈ U) → l.length ≤ U.length
  | [], _, _, _ => Nat.zero_le _
  | x :: r, U, hn, hs => by
    have hn := List.nodup_cons.mp hn
    have hx := hs x (.head _)
    have h1 := nodup_len (l := r) (U := U.erase x) hn.2 (fun y hy => (List.mem_erase_of_ne (fun e : y = x => hn.1 (by rw [← e]; exact hy))).mpr (hs y (.tail _ hy)))
    have h2 := List.length_erase_of_mem hx
    have h3 := List.length_pos_of_mem hx
    simp only [List.length_cons]; omega
theorem FGood.len (G : FGood ns Snd FN) {U : List Str} (hU : ∀ n f, Snd n f → f ∈ U) {n : Str} (hn : n ∈ ns) : (lkF FN n).length ≤ U.length :=
  nodup_len (G.nodup hn) fun f hf => hU n f (G.snd hn hf)
theorem FGood.tot (G : FGood ns Snd FN) {U : List Str} (hU : ∀ n f, Snd n f → f ∈ U) : totF FN ≤ U.length * ns.length := by
  have h1 := G.nd
  have h2 := G.sound
  rw [← G.keys]
  clear G
  induction FN with
  | nil => simp [totF]
  | cons e r ih =>
    have h3 := ih (fun e he => h1 e (.tail _ he)) (fun e he => h2 e (.tail _ he))
    have h4 := nodup_len (h1 e (.head _)) fun f hf => hU _ f (h2 e (.head _) f hf)
    simp only [totF, List.map_cons, List.sum_cons, List.length_cons, List.length_map, Nat.mul_succ] at h3 ⊢
    omega
theorem FGood.app (G : FGood ns Snd FN) {n f : Str} (hn : n ∈ ns) (hf : f ∉ lkF FN n) (hs : Snd n f) : FGood ns Snd (appF n f FN) := by
  refine ⟨by rw [appF_keys]; exact G.keys, ?_, ?_⟩
  · have h1 := G.nd
    have hk : n ∈ FN.map (·.1) := by rw [G.keys]; exact hn
    clear G hn hs
    induction FN with
    | nil => intro e he; cases he
    | cons e' r ih =>
      intro e he
      unfold appF at he
      simp only [lkF] at hf
      split at he
      · rename_i hk'
        rw [if_pos hk'] at hf
        rcases List.mem_cons.mp he with rfl | he
        · dsimp only
          rw [List.nodup_append]
          refine ⟨h1 e' (.head _), by simp, fun a ha b hb => ?_⟩
          have : b = f := by simpa using hb
          subst this; rintro rfl; exact hf ha
        · exact h1 e (.tail _ he)
      · rename_i hk'
        rw [if_neg hk'] at hf
        have hk'' : ¬ n = e'.1 := by simpa using hk'
        simp only [List.map_cons, List.mem_cons, hk'', false_or] at hk
        rcases List.mem_cons.mp he with rfl | he
        · exact h1 e (.head _)
        · exact ih hf (fun e he => h1 e (.tail _ he)) hk e he
  · have h2 := G.sound
    clear G hn hf
    induction FN with
    | nil => intro e he; cases he
    | cons e' r ih =>
      intro e he
      unfold appF at he
      split at he
      · rename_i hk'
        have hk' := beq_iff_eq.mp hk'
        rcases List.mem_cons.mp he with rfl | he
        · intro g hg
          rcases List.mem_append.mp hg with hg | hg
          · exact h2 e' (.head _) g hg
          · rw [List.mem_singleton.mp hg]
            dsimp only
            rw [← hk']; exact hs
        · exact h2 e (.tail _ he)
      · rcases List.mem_cons.mp he with rfl | he
        · exact h2 e (.head _)
        · exact ih (fun e he => h2 e (.tail _ he)) e he
end Mine

namespace Mine
open PySem PySem.W PySem.Calls PyProof.Rows

/-! a list put anew under a name -/
def setF (k : Str) (a : Addr) (l : List Str) : List FE → List FE
  | [] => []
  | e :: r => if (k == e.1) = true then (e.1, a, l) :: r else e :: setF k a l r
variable {k s : Str} {a : Addr} {l : List Str}
theorem setF_keys : ∀ L : List FE, (setF k a l L).map (·.1) = L.map (·.1)
  | [] => rfl
  | e :: r => by
    unfold setF; split
    · rfl
    · simp [setF_keys r]
theorem setF_mem : ∀ {L : List FE} {e : FE}, e ∈ setF k a l L → e ∈ L ∨ e = (k, a, l)
  | [], e, h => by cases h
  | e' :: r, e, h => by
    unfold setF at h
    split at h
    · rename_i hk
      have hk := beq_iff_eq.mp hk
      rcases List.mem_cons.mp h with rfl | h
      · right; rw [hk]
      · exact .inl (.tail _ h)
    · rcases List.mem_cons.mp h with rfl | h
      · exact .inl (.head _)
      · rcases setF_mem h with h | h
        · exact .inl (.tail _ h)
        · exact .inr h
theorem lkF_setF : ∀ {L : List FE}, k ∈ L.map (·.1) → lkF (setF k a l L) k = l
  | [], h => by cases h
  | e :: r, h => by
    unfold setF; split
    · rename_i hk
      simp only [lkF]; rw [if_pos hk]
    · rename_i hk
      simp only [lkF]; rw [if_neg hk]
      have hk : ¬ k = e.1 := by simpa using hk
      simp only [List.map_cons, List.mem_cons, hk, false_or] at h
      exact lkF_setF h
theorem put_setF {L : List FE} (hn : (L.map (·.1)).Nodup) (h : k ∈ L.map (·.1)) : put (L.map dF) k (.raw (.ref a)) = (setF k a l L).map dF := by
  have h1 : ((L.map dF).any fun kv => decide (kv.1 = k)) = true := by
    rw [List.any_eq_true]
    obtain ⟨e, he, hk⟩ := List.mem_map.mp h
    exact ⟨dF e, List.mem_map_of_mem he, decide_eq_true hk⟩
  unfold put
  rw [if_pos h1]
  clear h1
  induction L with
  | nil => rfl
  | cons e r ih =>
    simp only [List.map_cons, List.nodup_cons, List.mem_cons] at hn h
    unfold setF
    by_cases hk : k = e.1
    · have h2 : (k == e.1) = true := by simpa using hk
      rw [if_pos h2]
      simp only [List.map_cons, dF, hk, if_true, List.cons.injEq, true_and]
      have : ∀ x ∈ r.map dF, (if x.1 = e.1 then (x.1, D.raw (.ref a)) else x) = x := by
        intro x hx
        obtain ⟨y, hy, rfl⟩ := List.mem_map.mp hx
        have : ¬ (dF y).1 = e.1 := fun z => hn.1 (by rw [← z]; exact List.mem_map_of_mem (f := (·.1)) hy)
        rw [if_neg this]
      exact (List.map_congr_left this).trans (by simp)
    · have h2 : ¬ (k == e.1) = true := by simpa using hk
      rw [if_neg h2]
      have h3 : ¬ e.1 = k := fun z => hk z.symm
      simp only [List.map_cons, dF, h3, if_false, List.cons.injEq, true_and]
      rcases h with h | h
      · exact absurd h hk
      · exact ih hn.2 h
theorem setF_cells : ∀ {L : List FE}, k ∈ L.map (·.1) → ∃ e0, (e0 :: (setF k a l L).map cF).Perm ((a, .lst (l.map .str)) :: L.map cF)
  | [], h => by cases h
  | e :: r, h => by
    unfold setF; split
    · exact ⟨cF e, .swap ..⟩
    · rename_i hk
      have hk : ¬ k = e.1 := by simpa using hk
      simp only [List.map_cons, List.mem_cons, hk, false_or] at h
      obtain ⟨e0, p⟩ := setF_cells h
      exact ⟨e0, ((List.Perm.swap ..).trans (p.cons _)).trans (.swap ..)⟩
theorem isSome_lookup {l : List (Str × D)} : (l.lookup s).isSome = decide (s ∈ l.map (·.1)) := by
  induction l with
  | nil => simp
  | cons e r ih =>
    obtain ⟨n, x⟩ := e
    simp only [List.lookup_cons, List.map_cons, List.mem_cons]
    by_cases h : s = n
    · have : (s == n) = true := by simpa using h
      rw [this]; simp [h]
    · have : (s == n) = false := by simpa using h
      rw [this]; simp only [h, false_or]; exact ih
theorem opens_mem {lk : Str → List Str} {x : Str} : ∀ {ss : List Str}, Opens lk x ss → ∃ y ∈ ss, x ∈ lk y
  | y :: r, h => by
    rcases h with h | ⟨_, h⟩
    · exact ⟨y, .head _, h⟩
    · obtain ⟨z, hz, h⟩ := opens_mem h
      exact ⟨z, .tail _ hz, h⟩
theorem firstF_mem {lk : Str → List Str} {x : Str} {ss : List Str} (h : x ∈ firstF lk ss) : x = epsS ∨ ∃ y ∈ ss, x ∈ lk y := by
  rcases mem_firstF.mp h with ⟨_, h⟩ | ⟨h, _⟩
  · exact .inr (opens_mem h)
  · exact .inl h
/-- what a loop has done since FN2 (the sweep began at FN) -/
structure SX (FN FN2 FN' : List FE) (c2 c : Bool) (cond : Prop) : Prop where
  le : totF FN2 ≤ totF FN'
  no : c = false → c2 = false ∧ FN' = FN2 ∧ cond
  yes : c = true → totF FN < totF FN'
theorem perm_lift {α : Type} {e0 x d f : α} {l l' ω : List α} (h : (e0 :: l).Perm (x :: l')) : (e0 :: d :: f :: (l ++ ω)).Perm (x :: d :: f :: (l' ++ ω)) :=
  ((List.perm_middle (l₁ := [d, f]) (l₂ := l ++ ω) (a := e0)).symm.trans ((h.append_right ω).append_left [d, f])).trans (List.perm_middle (l₁ := [d, f]) (l₂ := l' ++ ω) (a := x))
end Mine

namespace Mine
open PySem PySem.W PySem.Calls PyProof.Rows PySem.Spec

/-! sorted texts -/
def leS (a b : Str) : Bool := !ltCps b.cps.toList a.cps.toList
theorem leS_iff {a b : Str} : leS a b = true ↔ a.cps.toList ≤ b.cps.toList := by
  unfold leS; rw [ltCps_eq]; simp [List.not_lt]
theorem leS_trans (a b c : Str) (h : leS a b = true) (h' : leS b c = true) : leS a c = true := by
  rw [leS_iff] at *; exact List.le_trans h h'
theorem leS_total (a b : Str) : (leS a b || leS b a) = true := by
  rw [Bool.or_eq_true, leS_iff, leS_iff]; exact List.le_total _ _
theorem leS_anti {a b : Str} (h : leS a b = true) (h' : leS b a = true) : a = b := by
  rw [leS_iff] at *
  have := List.le_antisymm h h'
  obtain ⟨⟨x⟩⟩ := a
  obtain ⟨⟨y⟩⟩ := b
  simp at this
  rw [this]
theorem pw_unique : ∀ {l m : List Str}, l.Pairwise (fun a b => leS a b = true) → m.Pairwise (fun a b => leS a b = true) → l.Perm m → l = m
  | [], m, _, _, p => (List.Perm.nil_eq p)
  | x :: l, [], _, _, p => by have := p.length_eq; simp at this
  | x :: l, y :: m, hl, hm, p => by
    rw [List.pairwise_cons] at hl hm
    have hxy : x = y := by
      have h1 : x ∈ y :: m := p.mem_iff.mp (.head _)
      have h2 : y ∈ x :: l := p.mem_iff.mpr (.head _)
      rcases List.mem_cons.mp h1 with h1 | h1
      · exact h1
      · rcases List.mem_cons.mp h2 with h2 | h2
        · exact h2.symm
        · exact leS_anti (hl.1 y h2) (hm.1 x h1)
    subst hxy
    rw [pw_unique hl.2 hm.2 (List.Perm.cons_inv p)]
theorem risingS_pw : ∀ {p : Str} {l : List Str}, risingS p l = true → (p :: l).Pairwise (fun a b => leS a b = true)
  | p, [], _ => by simp
  | p, x :: r, h => by
    simp only [risingS, Bool.and_eq_true] at h
    have ih := risingS_pw h.2
    have hx : leS p x = true := h.1
    rw [List.pairwise_cons]
    refine ⟨fun y hy => ?_, ih⟩
    rcases List.mem_cons.mp hy with rfl | hy
    · exact hx
    · rw [List.pairwise_cons] at ih
      exact leS_trans _ _ _ hx (ih.1 y hy)
theorem sortedS_pw {l : List Str} (h : sortedS l = true) : l.Pairwise (fun a b => leS a b = true) := by
  cases l with
  | nil => exact .nil
  | cons x r => exact risingS_pw h
def sortS (l : List Str) : List Str := l.mergeSort leS
theorem sortS_perm (l : List Str) : (sortS l).Perm l := List.mergeSort_perm l leS
theorem sortS_pw (l : List Str) : (sortS l).Pairwise (fun a b => leS a b = true) := List.pairwise_mergeSort leS_trans leS_total l
theorem sortS_of {l m : List Str} (p : m.Perm l) (h : sortedS m = true) : m = sortS l := pw_unique (sortedS_pw h) (sortS_pw l) (p.trans (sortS_perm l).symm)
theorem sortS_congr {l m : List Str} (p : l.Perm m) : sortS l = sortS m := pw_unique (sortS_pw l) (sortS_pw m) (((sortS_perm l).trans p).trans (sortS_perm m).symm)
theorem sortS_mem {l : List Str} {x : Str} : x ∈ sortS l ↔ x ∈ l := (sortS_perm l).mem_iff
theorem perm_of_mem : ∀ {l m : List Str}, l.Nodup → m.Nodup → (∀ x, x ∈ l ↔ x ∈ m) → l.Perm m
  | [], m, _, _, h => by
    cases m with
    | nil => exact .nil
    | cons y m => exact absurd ((h y).mpr (.head _)) (by simp)
  | x :: l, m, hl, hm, h => by
    rw [List.nodup_cons] at hl
    have hx : x ∈ m := (h x).mp (.head _)
    have p := List.perm_cons_erase hx
    refine (List.Perm.cons x (perm_of_mem hl.2 (hm.erase x) fun y => ?_)).trans p.symm
    by_cases hy : y = x
    · subst hy
      constructor
      · intro h'; exact absurd h' hl.1
      · intro h'; exact absurd h' (List.Nodup.not_mem_erase hm)
    · rw [List.mem_erase_of_ne hy, ← h y]
      simp [hy]
variable {X : Cx} {A : Around} {env : Env} {σ : Sg} {P : D → Sg → Prop}
theorem ol_sortedF {d : D} {ss : List Str} (l : Lst X σ d (ss.map D.str)) (h64 : ss.length < 64) (p : P (.list ((sortS ss).map D.str)) σ) : OpL X A env σ (fun vs => call (.builtin "sorted") vs) [d] P :=
  ol_sorted l h64 fun ss' h1 h2 => by rw [sortS_of h1 h2]; exact p
end Mine

namespace Mine
open PySem PySem.W PySem.Calls PyProof.Rows

/-! the grammar's cells, frozen -/
def fE (e : NE) : Str × D := (e.1, .list e.2.2)
def fF (e : FE) : Str × D := (e.1, .list (e.2.2.map .str))
variable {X : Cx} {A : Around} {env : Env} {σ : Sg} {P : D → Sg → Prop} {Q : Fl → Sg → Prop}
theorem ret_NE {ω : Om} {fz : List Addr} : ∀ {L : List NE}, (∀ e ∈ L, cE e ∈ ω ∧ e.2.1 ∈ fz) → RetKv X ω fz (L.map dE) (L.map fE)
  | [], _ => .nil
  | e :: r, h => .cons (.lst (h e (.head _)).1 (h e (.head _)).2 (.same _)) (ret_NE fun x hx => h x (.tail _ hx))
theorem ret_FE {ω : Om} {fz : List Addr} : ∀ {L : List FE}, (∀ e ∈ L, cF e ∈ ω ∧ e.2.1 ∈ fz) → RetKv X ω fz (L.map dF) (L.map fF)
  | [], _ => .nil
  | e :: r, h => .cons (.lst (h e (.head _)).1 (h e (.head _)).2 (.same _)) (ret_FE fun x hx => h x (.tail _ hx))
theorem RetKv.append {ω : Om} {fz : List Addr} : ∀ {a a' b b' : List (Str × D)}, RetKv X ω fz a a' → RetKv X ω fz b b' → RetKv X ω fz (a ++ b) (a' ++ b')
  | _, _, _, _, .nil, h => h
  | _, _, _, _, .cons x r, h => .cons x (RetKv.append r h)
/-- what is told of the object when its containers have been frozen -/
def selfG (g : GA) (prods : List D) (pm : List (Str × D)) (TT NT PN : List NE) : List (Str × D) :=
  selfF (.list prods) (.dct (PN.map fE)) (.dct pm) (.dct (TT.map fE)) (.dct (NT.map fE)) (.raw (.ref g.fi)) (.raw (.ref g.fo)) (.raw (.ref g.us)) .none
theorem trF_freezeG {t : Sem Flow} {g : GA} {prods : List D} {pm : List (Str × D)} {TT NT PN : List NE} {ρ : List (Str × D)} {ω : Om}
    (h : TrF X A env ⟨ρ, (g.d, .dct (selfG g prods pm TT NT PN)) :: (g.fi, .dct []) :: (g.fo, .dct []) :: ω⟩ t Q) : TrF X A env ⟨ρ, ωG g prods pm TT NT PN ω⟩ t Q := by
  have mT : ∀ e ∈ TT, cE e ∈ ωG g prods pm TT NT PN ω := fun e he => .tail _ (.tail _ (.tail _ (.tail _ (.tail _ (.tail _ (.tail _ (.tail _ (List.mem_append_left _ (List.mem_map_of_mem he)))))))))
  have mN : ∀ e ∈ NT, cE e ∈ ωG g prods pm TT NT PN ω := fun e he => .tail _ (.tail _ (.tail _ (.tail _ (.tail _ (.tail _ (.tail _ (.tail _ (List.mem_append_right _ (List.mem_append_left _ (List.mem_map_of_mem he))))))))))
  have mP : ∀ e ∈ PN, cE e ∈ ωG g prods pm TT NT PN ω := fun e he => .tail _ (.tail _ (.tail _ (.tail _ (.tail _ (.tail _ (.tail _ (.tail _ (List.mem_append_right _ (List.mem_append_right _ (List.mem_append_left _ (List.mem_map_of_mem he)))))))))))
  have mo : ∀ p ∈ ω, p ∈ ωG g prods pm TT NT PN ω := fun p hp => .tail _ (.tail _ (.tail _ (.tail _ (.tail _ (.tail _ (.tail _ (.tail _ (List.mem_append_right _ (List.mem_append_right _ (List.mem_append_right _ hp))))))))))
  refine trF_refreeze (ρ' := ρ) ([g.pr, g.pn, g.pm, g.te, g.no] ++ (TT.map (·.2.1) ++ (NT.map (·.2.1) ++ PN.map (·.2.1)))) ?_ ?_ (fun x d e => ⟨d, e, .same d⟩) h
  · intro a ha
    rcases List.mem_append.mp ha with ha | ha
    · simp only [List.mem_cons, List.not_mem_nil, or_false] at ha
      rcases ha with rfl | rfl | rfl | rfl | rfl <;> simp [ωG]
    · rcases List.mem_append.mp ha with ha | ha
      · obtain ⟨e, he, rfl⟩ := List.mem_map.mp ha; exact List.mem_map_of_mem (f := (·.1)) (mT e he)
      · rcases List.mem_append.mp ha with ha | ha
        · obtain ⟨e, he, rfl⟩ := List.mem_map.mp ha; exact List.mem_map_of_mem (f := (·.1)) (mN e he)
        · obtain ⟨e, he, rfl⟩ := List.mem_map.mp ha; exact List.mem_map_of_mem (f := (·.1)) (mP e he)
  · intro hn
    have hp : ((ωG g prods pm TT NT PN ω).map (·.1)).Perm (([g.d, g.fi, g.fo] ++ ω.map (·.1)) ++ ([g.pr, g.pn, g.pm, g.te, g.no] ++ (TT.map (·.2.1) ++ (NT.map (·.2.1) ++ PN.map (·.2.1))))) := by
      refine List.perm_iff_count.mpr fun x => ?_
      have e1 : (TT.map cE).map (·.1) = TT.map (·.2.1) := by rw [List.map_map]; rfl
      have e2 : (NT.map cE).map (·.1) = NT.map (·.2.1) := by rw [List.map_map]; rfl
      have e3 : (PN.map cE).map (·.1) = PN.map (·.2.1) := by rw [List.map_map]; rfl
      simp only [ωG, List.map_cons, List.map_append, e1, e2, e3, List.count_cons, List.count_append, List.count_nil]
      omega
    have hn' := (hp.nodup_iff).mp hn
    rw [List.nodup_append] at hn'
    obtain ⟨n1, _, n3⟩ := hn'
    have fzm : ∀ a ∈ [g.pr, g.pn, g.pm, g.te, g.no], a ∈ ([g.pr, g.pn, g.pm, g.te, g.no] ++ (TT.map (·.2.1) ++ (NT.map (·.2.1) ++ PN.map (·.2.1)))) := fun a ha => List.mem_append_left _ ha
    refine ⟨fun p hp => ⟨fun z => ?_, ?_⟩, by simpa using n1⟩
    · refine n3 p.1 ?_ p.1 z rfl
      have := List.mem_map_of_mem (f := (·.1)) hp
      simpa using this
    · rcases List.mem_cons.mp hp with rfl | hp
      · refine ⟨_, .head _, ?_⟩
        show RetKv X _ _ (selfD g) (selfG g prods pm TT NT PN)
        refine .cons (.lst (ds := prods) (.tail _ (.head _)) (fzm _ (by simp)) (.same _)) (.cons (.dct (.tail _ (.tail _ (.head _))) (fzm _ (by simp)) (ret_NE fun e he => ⟨mP e he, List.mem_append_right _ (List.mem_append_right _ (List.mem_append_right _ (List.mem_map_of_mem he)))⟩))
          (.cons (.dct (.tail _ (.tail _ (.tail _ (.head _)))) (fzm _ (by simp)) (.same _)) (.cons (.dct (.tail _ (.tail _ (.tail _ (.tail _ (.head _))))) (fzm _ (by simp)) (ret_NE fun e he => ⟨mT e he, List.mem_append_right _ (List.mem_append_left _ (List.mem_map_of_mem he))⟩))
          (.cons (.dct (.tail _ (.tail _ (.tail _ (.tail _ (.tail _ (.head _)))))) (fzm _ (by simp)) (ret_NE fun e he => ⟨mN e he, List.mem_append_right _ (List.mem_append_right _ (List.mem_append_left _ (List.mem_map_of_mem he)))⟩)) (.same _)))))
      · rcases List.mem_cons.mp hp with rfl | hp
        · exact ⟨_, .tail _ (.tail _ (.tail _ (.tail _ (.tail _ (.tail _ (.head _)))))), RetC.same _⟩
        · rcases List.mem_cons.mp hp with rfl | hp
          · exact ⟨_, .tail _ (.tail _ (.tail _ (.tail _ (.tail _ (.tail _ (.tail _ (.head _))))))), RetC.same _⟩
          · exact ⟨_, mo p hp, RetC.same _⟩
/-- First, frozen -/
def FDf (ts : List Str) (FN : List FE) : List (Str × D) := (ts ++ [("$end" : Str)]).map tD ++ FN.map fF
theorem trF_freezeF {t : Sem Flow} {d fi fo : Addr} {pl pn pm te no us st : D} {ts : List Str} {FN : List FE} {ρ ρ' : List (Str × D)} {ω : Om}
    (hρ : ∀ x d', ρ'.lookup x = some d' → ρ.lookup x = some d' ∨ (ρ.lookup x = some (.raw (.ref fi)) ∧ d' = .dct (FDf ts FN)))
    (h : TrF X A env ⟨ρ', (d, .dct (selfF pl pn pm te no (.dct (FDf ts FN)) (.raw (.ref fo)) us st)) :: (fo, .dct []) :: ω⟩ t Q) :
    TrF X A env ⟨ρ, (d, .dct (selfF pl pn pm te no (.raw (.ref fi)) (.raw (.ref fo)) us st)) :: (fi, .dct (FD ts FN)) :: (fo, .dct []) :: (FN.map cF ++ ω)⟩ t Q := by
  generalize hW : ((d, C.dct (selfF pl pn pm te no (.raw (.ref fi)) (.raw (.ref fo)) us st)) :: (fi, .dct (FD ts FN)) :: (fo, .dct []) :: (FN.map cF ++ ω) : Om) = W
  have mF : ∀ e ∈ FN, cF e ∈ W := fun e he => by rw [← hW]; exact .tail _ (.tail _ (.tail _ (List.mem_append_left _ (List.mem_map_of_mem he))))
  have mo : ∀ p ∈ ω, p ∈ W := fun p hp => by rw [← hW]; exact .tail _ (.tail _ (.tail _ (List.mem_append_right _ hp)))
  have mfi : (fi, C.dct (FD ts FN)) ∈ W := by rw [← hW]; exact .tail _ (.head _)
  have hfi : Ret X W ([fi] ++ FN.map (·.2.1)) (.raw (.ref fi)) (.dct (FDf ts FN)) :=
    .dct mfi (by simp) ((RetKv.same _).append (ret_FE fun e he => ⟨mF e he, List.mem_append_right _ (List.mem_map_of_mem he)⟩))
  refine trF_refreeze ([fi] ++ FN.map (·.2.1)) ?_ ?_ (fun x d' e => ?_) h
  · intro a ha
    rcases List.mem_append.mp ha with ha | ha
    · rw [List.mem_singleton.mp ha]; exact List.mem_map_of_mem (f := (·.1)) mfi
    · obtain ⟨e, he, rfl⟩ := List.mem_map.mp ha; exact List.mem_map_of_mem (f := (·.1)) (mF e he)
  · intro hn
    have hp : (W.map (·.1)).Perm (([d, fo] ++ ω.map (·.1)) ++ ([fi] ++ FN.map (·.2.1))) := by
      rw [← hW]
      refine List.perm_iff_count.mpr fun x => ?_
      have e1 : (FN.map cF).map (·.1) = FN.map (·.2.1) := by rw [List.map_map]; rfl
      simp only [List.map_cons, List.map_append, e1, List.count_cons, List.count_append, List.count_nil]
      omega
    have hn' := (hp.nodup_iff).mp hn
    rw [List.nodup_append] at hn'
    obtain ⟨n1, _, n3⟩ := hn'
    refine ⟨fun p hp => ⟨fun z => ?_, ?_⟩, by simpa using n1⟩
    · refine n3 p.1 ?_ p.1 z rfl
      have := List.mem_map_of_mem (f := (·.1)) hp
      simpa using this
    · rcases List.mem_cons.mp hp with rfl | hp
      · refine ⟨C.dct (selfF pl pn pm te no (.raw (.ref fi)) (.raw (.ref fo)) us st), by rw [← hW]; exact .head _, ?_⟩
        exact .cons (.same _) (.cons (.same _) (.cons (.same _) (.cons (.same _) (.cons (.same _) (.cons hfi (.same _))))))
      · rcases List.mem_cons.mp hp with rfl | hp
        · exact ⟨_, by rw [← hW]; exact .tail _ (.tail _ (.head _)), RetC.same _⟩
        · exact ⟨_, mo p hp, RetC.same _⟩
  · rcases hρ x d' e with e' | ⟨e', rfl⟩
    · exact ⟨d', e', .same _⟩
    · exact ⟨_, e', hfi⟩
/-- Follow, frozen; the object itself left behind -/
theorem trF_freezeL {t : Sem Flow} {d fo : Addr} {c : C} {FO : List FE} {ρ ρ' : List (Str × D)} {ω : Om}
    (hρ : ∀ x d', ρ'.lookup x = some d' → ρ.lookup x = some d' ∨ (ρ.lookup x = some (.raw (.ref fo)) ∧ d' = .dct (FO.map fF)))
    (h : TrF X A env ⟨ρ', ω⟩ t Q) : TrF X A env ⟨ρ, (d, c) :: (fo, .dct (FO.map dF)) :: (FO.map cF ++ ω)⟩ t Q := by
  generalize hW : ((d, c) :: (fo, .dct (FO.map dF)) :: (FO.map cF ++ ω) : Om) = W
  have mF : ∀ e ∈ FO, cF e ∈ W := fun e he => by rw [← hW]; exact .tail _ (.tail _ (List.mem_append_left _ (List.mem_map_of_mem he)))
  have mo : ∀ p ∈ ω, p ∈ W := fun p hp => by rw [← hW]; exact .tail _ (.tail _ (List.mem_append_right _ hp))
  have mfo : (fo, C.dct (FO.map dF)) ∈ W := by rw [← hW]; exact .tail _ (.head _)
  have hfo : Ret X W ([fo] ++ FO.map (·.2.1)) (.raw (.ref fo)) (.dct (FO.map fF)) :=
    .dct mfo (by simp) (ret_FE fun e he => ⟨mF e he, List.mem_append_right _ (List.mem_map_of_mem he)⟩)
  refine trF_refreeze ([fo] ++ FO.map (·.2.1)) ?_ ?_ (fun x d' e => ?_) h
  · intro a ha
    rcases List.mem_append.mp ha with ha | ha
    · rw [List.mem_singleton.mp ha]; exact List.mem_map_of_mem (f := (·.1)) mfo
    · obtain ⟨e, he, rfl⟩ := List.mem_map.mp ha; exact List.mem_map_of_mem (f := (·.1)) (mF e he)
  · intro hn
    have hp : (W.map (·.1)).Perm (([d] ++ ω.map (·.1)) ++ ([fo] ++ FO.map (·.2.1))) := by
      rw [← hW]
      refine List.perm_iff_count.mpr fun x => ?_
      have e1 : (FO.map cF).map (·.1) = FO.map (·.2.1) := by rw [List.map_map]; rfl
      simp only [List.map_cons, List.map_append, e1, List.count_cons, List.count_append, List.count_nil]
      omega
    have hn' := (hp.nodup_iff).mp hn
    rw [List.nodup_append] at hn'
    obtain ⟨n1, _, n3⟩ := hn'
    rw [List.nodup_append] at n1
    refine ⟨fun p hp => ⟨fun z => ?_, _, mo p hp, RetC.same _⟩, n1.2.1⟩
    exact n3 p.1 (List.mem_append_right _ (List.mem_map_of_mem hp)) p.1 z rfl
  · rcases hρ x d' e with e' | ⟨e', rfl⟩
    · exact ⟨d', e', .same _⟩
    · exact ⟨_, e', hfo⟩
end Mine

namespace Mine
/-! conjunctions under one constructor -/
inductive EA03 (H1 H2 H3 : Prop) : Prop
  | mk (h1 : H1) (h2 : H2) (h3 : H3)
inductive EA13 {α : Type} (H1 H2 H3 : α → Prop) : Prop
  | mk (a : α) (h1 : H1 a) (h2 : H2 a) (h3 : H3 a)
inductive EA14 {α : Type} (H1 H2 H3 H4 : α → Prop) : Prop
  | mk (a : α) (h1 : H1 a) (h2 : H2 a) (h3 : H3 a) (h4 : H4 a)
inductive EA15 {α : Type} (H1 H2 H3 H4 H5 : α → Prop) : Prop
  | mk (a : α) (h1 : H1 a) (h2 : H2 a) (h3 : H3 a) (h4 : H4 a) (h5 : H5 a)
inductive EA24 {α β : Type} (H1 H2 H3 H4 : α → β → Prop) : Prop
  | mk (a : α) (b : β) (h1 : H1 a b) (h2 : H2 a b) (h3 : H3 a b) (h4 : H4 a b)
inductive EA25 {α β : Type} (H1 H2 H3 H4 H5 : α → β → Prop) : Prop
  | mk (a : α) (b : β) (h1 : H1 a b) (h2 : H2 a b) (h3 : H3 a b) (h4 : H4 a b) (h5 : H5 a b)
inductive EA26 {α β : Type} (H1 H2 H3 H4 H5 H6 : α → β → Prop) : Prop
  | mk (a : α) (b : β) (h1 : H1 a b) (h2 : H2 a b) (h3 : H3 a b) (h4 : H4 a b) (h5 : H5 a b) (h6 : H6 a b)
inductive EA27 {α β : Type} (H1 H2 H3 H4 H5 H6 H7 : α → β → Prop) : Prop
  | mk (a : α) (b : β) (h1 : H1 a b) (h2 : H2 a b) (h3 : H3 a b) (h4 : H4 a b) (h5 : H5 a b) (h6 : H6 a b) (h7 : H7 a b)
inductive EA34 {α β γ : Type} (H1 H2 H3 H4 : α → β → γ → Prop) : Prop
  | mk (a : α) (b : β) (c : γ) (h1 : H1 a b c) (h2 : H2 a b c) (h3 : H3 a b c) (h4 : H4 a b c)
theorem pinA {α : Type} {x : α} {p l r : List α} : (p ++ ((l ++ [x]) ++ r)).Perm (x :: (p ++ (l ++ r))) := by
  have h := List.perm_middle (a := x) (l₁ := p ++ l) (l₂ := r)
  simpa using h
theorem pinB {α : Type} {x : α} {p l₁ l r : List α} : (p ++ (l₁ ++ ((l ++ [x]) ++ r))).Perm (x :: (p ++ (l₁ ++ (l ++ r)))) := by
  have h := List.perm_middle (a := x) (l₁ := p ++ (l₁ ++ l)) (l₂ := r)
  simpa using h
theorem pinC {α : Type} {x : α} {p l₁ l₂ l r : List α} : (p ++ (l₁ ++ (l₂ ++ ((l ++ [x]) ++ r)))).Perm (x :: (p ++ (l₁ ++ (l₂ ++ (l ++ r))))) := by
  have h := List.perm_middle (a := x) (l₁ := p ++ (l₁ ++ (l₂ ++ l))) (l₂ := r)
  simpa using h
end Mine

namespace Mine
open PySem PySem.W PySem.Calls PyProof.Rows
noncomputable abbrev X3 (w : World) (mg mb : Str → Option Value) (fr : List Env) : Cx := ⟨PySem.Challenge.rw_rp0001_03.row.prog, w, kx.heap_1 w.params, view3, looseW view3 loose3, mg, mb, fr⟩
variable {w : World} {mg mb : Str → Option Value} {fr : List Env} {A : Around} {env : Env} {σ : Sg} {P : D → Sg → Prop} {Q : Fl → Sg → Prop}

/-! names -/
inductive Nm where
  | S | A | B
  deriving DecidableEq
def nm : Nm → Str
  | .S => "S"
  | .A => "A"
  | .B => "B"
def lt : Nm → Str
  | .S => "s"
  | .A => "a"
  | .B => "b"
def dN (x : Nm) : D := .str (nm x)
theorem strOkN (x : Nm) : PyData.strOk (nm x) = true := by cases x <;> decide +kernel
theorem okN (n : Nat) (x : Nm) : okd n (dN x) = true := by cases n <;> exact strOkN x
theorem okNs (n : Nat) (l : List Nm) : (l.map dN).all (okd n) = true := by simp [okN]
theorem nm_inj {x y : Nm} : nm x = nm y ↔ x = y := by cases x <;> cases y <;> decide
theorem deqN (x y : Nm) : deq (dN x) (dN y) = decide (x = y) := by
  show (nm x == nm y) = _
  cases x <;> cases y <;> rfl
theorem anyN (l : List Nm) (x : Nm) : ((l.map dN).any fun y => deq y (dN x)) = decide (x ∈ l) := by
  induction l with
  | nil => rfl
  | cons y r ih =>
    rw [List.map_cons, List.any_cons, ih, deqN]
    simp only [List.mem_cons, Bool.decide_or, eq_comm]

abbrev Rule := Nm × List Nm
def dRule (r : Rule) : D := .tup [dN r.1, .list (r.2.map dN)]
abbrev dRules (l : List Rule) : D := .list (l.map dRule)

def vanT (known : List Nm) (r : Rule) : List Nm := if (!decide (r.1 ∈ known) && r.2.all fun s => decide (s ∈ known)) = true then known ++ [r.1] else known
def van1 (rules : List Rule) (known : List Nm) : List Nm := rules.foldl vanT known
def vanN (rules : List Rule) : Nat → List Nm
  | 0 => []
  | n + 1 => van1 rules (vanN rules n)
theorem vanT_len (known : List Nm) (r : Rule) : (vanT known r).length ≤ known.length + 1 := by
  unfold vanT; split <;> simp
theorem van1_len (rules : List Rule) : ∀ known : List Nm, (van1 rules known).length ≤ known.length + rules.length := by
  induction rules with
  | nil => intro k; simp [van1]
  | cons r rs ih =>
    intro k
    have h1 := ih (vanT k r)
    have h2 := vanT_len k r
    simp only [van1, List.foldl_cons, List.length_cons] at h1 ⊢
    omega
theorem vanN_len (rules : List Rule) : ∀ n, (vanN rules n).length ≤ n * rules.length
  | 0 => by simp [vanN]
  | n + 1 => by
    have h1 := van1_len rules (vanN rules n)
    have h2 := vanN_len rules n
    have e : (n + 1) * rules.length = n * rules.length + rules.length := Nat.succ_mul _ _
    rw [e]
    simp only [vanN]
    omega

theorem next_nil {t : Addr} {k : Nat} (R : ARoom (k + 1) A) (h : (t, C.lst []) ∈ σ.ω) (p : P (.int 0) σ) : OpL (X3 w mg mb fr) A env σ (fun vs => call (.ref 261) vs) [.raw (.ref t)] P := by
  refine fn_call (dbs := [("tape", .raw (.ref t))]) ⟨⟨_, _, _, rfl⟩, rfl, rfl, rfl, rfl, rfl, rfl, rfl, rfl, rfl, rfl, rfl, rfl⟩ R.room ?_ rfl rfl ?_
  · intro s b vs T hb r
    cases r with
    | cons r q => cases q; cases r; exact ⟨_, BindsTo.of_eq rfl, .cons (.raw _) .nil⟩
  · intro L
    refine exs_cons (ex_ret (ev_if (te_plain (ev_var rfl rfl ?_ rfl rfl) rfl)))
    refine ob_list (ds := []) (.cell h) (by decide) (ite_f rfl ?_)
    exact ev_int p
theorem next_cons {t : Addr} {n : Int} {ns : List D} {ω' : Om} {k : Nat} (R : ARoom (k + 1) A) (u : Upd t (.lst (.int n :: ns)) (.lst ns) σ.ω ω') (hz : ns.length < sizeLine) (p : P (.int n) ⟨σ.ρ, ω'⟩) : OpL (X3 w mg mb fr) A env σ (fun vs => call (.ref 261) vs) [.raw (.ref t)] P := by
  refine fn_call (dbs := [("tape", .raw (.ref t))]) ⟨⟨_, _, _, rfl⟩, rfl, rfl, rfl, rfl, rfl, rfl, rfl, rfl, rfl, rfl, rfl, rfl⟩ R.room ?_ rfl rfl ?_
  · intro s b vs T hb r
    cases r with
    | cons r q => cases q; cases r; exact ⟨_, BindsTo.of_eq rfl, .cons (.raw _) .nil⟩
  · intro L
    refine exs_cons (ex_ret (ev_if (te_plain (ev_var rfl rfl ?_ rfl rfl) rfl)))
    refine ob_list (ds := .int n :: ns) (.cell u.mem) hz (ite_t rfl ?_)
    refine ev_meth (T := "list") (id := "list.pop") (ev_var rfl rfl ⟨isTy_lst (.cell u.mem), trl_cons (ev_int (trl_nil ?_)) rfl⟩ rfl rfl) F.plainAttrs_list F.slot_list_pop F.type_list_pop rfl rfl rfl rfl rfl
    exact ol_pop0 u hz p

theorem turned_ok {ds : List D} {k : Nat} (R : ARoom (k + 1) A) (hz : ds.length ≤ 1000) (p : P (.list ds.reverse) σ) : OpL (X3 w mg mb fr) A env σ (fun vs => call (.ref 273) vs) [.list ds] P := by
  refine fn_call (dbs := [("symbols", .list ds)]) ⟨⟨_, _, _, rfl⟩, rfl, rfl, rfl, rfl, rfl, rfl, rfl, rfl, rfl, rfl, rfl, rfl⟩ R.room ?_ rfl rfl ?_
  · intro s b vs T hb r
    cases r with
    | cons r q => cases q; exact ⟨_, BindsTo.of_eq rfl, .cons r .nil⟩
  · intro L
    refine exs_cons (ex_assign (ev_list (trl_nil ⟨Nat.le_of_ble_eq_true rfl, ?_⟩)) rfl rfl)
    refine exs_cons (ex_forL ds (fun d => d) (fun pre => [("turned", .list pre.reverse), ("symbols", .list ds)]) (fun _ => σ.ω) (src_of (ev_var rfl rfl ⟨by rw [List.map_id']; exact itb_list R.hd, .cons rfl (.cons rfl .nil), rfl⟩ rfl rfl)) ?_ (exs_nil ?_) (fun _ => rfl))
    · intro pre x post e
      refine asg_name rfl ?_
      refine exs_cons (ex_assign (ev_bin (ev_list (trl_cons (ev_var rfl rfl (trl_nil ⟨Nat.le_of_ble_eq_true rfl, ev_var rfl rfl ?_ rfl rfl⟩) rfl rfl) rfl))) rfl rfl)
      refine op_addl .data .data ?_ (exs_nil ⟨?_, rfl⟩)
      · have h1 := congrArg List.length e
        simp at h1 ⊢
        have : sizeLine = 2 ^ 24 := rfl
        omega
      · refine .cons ?_ (.cons rfl .nil)
        simp
    · exact exs_cons (ex_ret (ev_var rfl rfl p rfl rfl))

set_option maxHeartbeats 400000
theorem vanishing_ok {rules : List Rule} {k : Nat} (R : ARoom (k + 1) A) (hz : rules.length ≤ 1000) (hz2 : ∀ r ∈ rules, r.2.length ≤ 1000) (p : P (.list ((vanN rules 3).map dN)) σ) : OpL (X3 w mg mb fr) A env σ (fun vs => call (.ref 278) vs) [dRules rules] P := by
  refine fn_call (dbs := [("rules", dRules rules)]) ⟨⟨_, _, _, rfl⟩, rfl, rfl, rfl, rfl, rfl, rfl, rfl, rfl, rfl, rfl, rfl, rfl⟩ R.room ?_ rfl rfl ?_
  · intro s b vs T hb r
    cases r with
    | cons r q => cases q; exact ⟨_, BindsTo.of_eq rfl, .cons r .nil⟩
  · intro L
    have R' : ∀ e, ARoom k (A.deeper e) := fun e => R.deeper
    refine exs_cons (ex_assign (ev_listC (trl_nil ⟨Nat.le_of_ble_eq_true rfl, fun a => ?_⟩)) rfl rfl)
    refine exs_cons (ex_forL (List.range 3) (fun i => .int (i : Nat)) (fun pre => [("known", .raw (.ref a)), ("rules", dRules rules)]) (fun pre => (a, .lst ((vanN rules pre.length).map dN)) :: σ.ω)
      (src_of (ev_callT (ev_blt rfl (by boot_fast) (by decide) rfl ⟨rfl, trl_cons (ev_int (trl_nil (ol_range (n := 3) ⟨itb_rng R.hd (by decide), .cons rfl (.cons rfl .nil), rfl⟩))) rfl⟩ rfl) rfl rfl rfl)) ?_ (exs_nil ?_) (fun _ => rfl))
    · intro pre x post e
      have hpre : pre.length < 3 := by have := congrArg List.length e; simp at this; omega
      refine asg_name rfl ?_
      refine exs_cons (ex_forL rules dRule (fun q => [("known", .raw (.ref a)), ("rules", dRules rules)]) (fun q => (a, .lst ((van1 q (vanN rules pre.length)).map dN)) :: σ.ω)
        (src_of (ev_var rfl rfl ⟨itb_list R.hd, .cons rfl (.cons rfl .nil), rfl⟩ rfl rfl)) ?_ (exs_nil (exs_nil ⟨.cons rfl (.cons rfl .nil), ?_⟩)) (fun _ => rfl))
      · intro q r post' e'
        have hlen : (van1 q (vanN rules pre.length)).length ≤ 5000 := by
          have h1 := van1_len q (vanN rules pre.length)
          have h2 := vanN_len rules pre.length
          have h3 : pre.length * rules.length ≤ 2 * rules.length := Nat.mul_le_mul_right _ (by omega)
          have h4 : q.length ≤ rules.length := by rw [e']; simp
          omega
        have hr : r.2.length ≤ 1000 := hz2 r (by rw [e']; simp)
        have hstep : van1 (q ++ [r]) (vanN rules pre.length) = vanT (van1 q (vanN rules pre.length)) r := by simp [van1]
        rw [hstep]
        generalize van1 q (vanN rules pre.length) = known at hlen ⊢
        refine asg_tup2 R.hd rfl rfl ?_
        refine exs_cons (ex_if (te_and (te_cmp (ev_var rfl rfl (ev_var rfl rfl (op_notin (R' _) (.cell mem_head) (okN 0 _) (okNs 0 _) (by decide) (ob_bool (ite_b (fun h1 => ?_) (fun h1 => ?_)))) rfl rfl) rfl rfl) rfl)))
        · refine te_and (te_plain (ev_callB (ev_blt rfl (by boot_fast) (by decide) rfl ⟨rfl, trl_cons (ev_comp rfl (compL r.2 dN (fun pre => (pre.map fun s => decide (s ∈ known)).map D.bool) (fun _ => (a, .lst (known.map dN)) :: σ.ω) ?_ rfl ?_ ?_ ?_) (fun _ => rfl)) rfl⟩ rfl) rfl rfl rfl) rfl)
          · exact src_of (ev_var rfl rfl ⟨itb_list R.hd, rfl, rfl⟩ rfl rfl)
          · intro pre hp
            have : sizeLine = 2 ^ 24 := rfl
            simp; omega
          · intro cl C acc pre s post e
            refine asg_name rfl (ts_nil (ite_t rfl ?_))
            refine ev_cmp (ev_var rfl rfl (ev_var rfl rfl (op_in (R' _) (.cell (.tail _ mem_head)) (okN 0 _) (okNs 0 _) (by decide) ⟨rfl, ?_⟩) rfl rfl) rfl rfl) rfl
            rw [anyN]; simp
          · refine trl_nil (ol_all R.hd .data (ob_bool (ite_b (fun h2 => te_and_nil (ite_t rfl ?_)) (fun h2 => ite_f rfl ?_))))
            · refine exs_cons (ex_expr (ev_meth (T := "list") (id := "list.append") (ev_var rfl rfl ⟨isTy_lst (.cell mem_head), trl_cons (ev_var rfl rfl (trl_nil (ol_append .head (by simp; have : sizeLine = 2 ^ 24 := rfl; omega) ⟨rfl, exs_nil (exs_nil ⟨.cons rfl (.cons rfl .nil), ?_⟩)⟩)) rfl rfl) rfl⟩ rfl rfl) F.plainAttrs_list F.slot_list_append F.type_list_append rfl rfl rfl rfl rfl) rfl rfl)
              rw [anyN] at h1
              have h3 : (r.2.all fun s => decide (s ∈ known)) = true := by simpa [List.all_map] using h2
              simp only [vanT, h1, h3, Bool.and_self, if_true]
              simp
            · refine exs_nil (exs_nil ⟨.cons rfl (.cons rfl .nil), ?_⟩)
              have h3 : (r.2.all fun s => decide (s ∈ known)) = false := by
                cases q : (r.2.all fun s => decide (s ∈ known)) with
                | false => rfl
                | true => rw [← h2]; simp only [List.all_map]; exact q ▸ rfl
              simp only [vanT, h3, Bool.and_false]
              simp
        · refine ite_f rfl (exs_nil (exs_nil ⟨.cons rfl (.cons rfl .nil), ?_⟩))
          rw [anyN] at h1
          simp only [vanT, h1, Bool.false_and]
          simp
      · simp [vanN]
    · exact exs_cons (ex_ret (tr_freeze (ev_var rfl rfl ⟨a, _, _, rfl, rfl, p⟩ rfl rfl)))
end Mine

namespace Mine
open PySem PySem.W PySem.Calls PyProof.Rows
variable {w : World} {mg mb : Str → Option Value} {fr : List Env} {A : Around} {env : Env} {σ : Sg} {P : D → Sg → Prop} {Q : Fl → Sg → Prop}

def allN : List Nm := [.S, .A, .B]
theorem names_rp (b : Heap) (T : (X3 w mg mb fr).Top b) : Rp (X3 w mg mb fr) b (.ref 253) (.list (allN.map dN)) := .list (T.inK _ _ rfl) (.cons (.str ..) (.cons (.str ..) (.cons (.str ..) .nil)))

abbrev NP := Nm × Nm
def dP (p : NP) : D := .tup [dN p.1, dN p.2]
theorem okP (n : Nat) (p : NP) : okd (n + 1) (dP p) = true := by show [dN p.1, dN p.2].all (okd n) = true; simp [okN]
theorem okPs (n : Nat) (l : List NP) : (l.map dP).all (okd (n + 1)) = true := by simp [okP]
theorem deqP (p q : NP) : deq (dP p) (dP q) = decide (p = q) := by
  show (PyData.eqv (dN p.1).py (dN q.1).py && (PyData.eqv (dN p.2).py (dN q.2).py && true)) = _
  have h1 := deqN p.1 q.1
  have h2 := deqN p.2 q.2
  unfold deq at h1 h2
  rw [h1, h2, Bool.and_true, ← Bool.decide_and]
  congr 1
  rw [Prod.ext_iff]
theorem anyP (l : List NP) (x : NP) : ((l.map dP).any fun y => deq y (dP x)) = decide (x ∈ l) := by
  induction l with
  | nil => rfl
  | cons y r ih =>
    rw [List.map_cons, List.any_cons, ih, deqP]
    simp only [List.mem_cons, Bool.decide_or, eq_comm]

/-- the symbols at the front: up to the first that does not vanish -/
def front (van : List Nm) : List Nm → List Nm
  | [] => []
  | s :: r => s :: (if decide (s ∈ van) = true then front van r else [])
theorem front_all {van : List Nm} : ∀ {l : List Nm}, (∀ x ∈ l, x ∈ van) → front van l = l
  | [], _ => rfl
  | s :: r, h => by
    have : decide (s ∈ van) = true := by simpa using h s (.head _)
    simp only [front, this, if_true]
    rw [front_all fun x hx => h x (.tail _ hx)]
theorem front_stop {van : List Nm} {x : Nm} {post : List Nm} (hx : x ∉ van) : ∀ {pre : List Nm}, (∀ y ∈ pre, y ∈ van) → front van (pre ++ x :: post) = pre ++ [x]
  | [], _ => by simp [front, hx]
  | s :: r, h => by
    have : decide (s ∈ van) = true := by simpa using h s (.head _)
    simp only [List.cons_append, front, this, if_true]
    rw [front_stop hx fun y hy => h y (.tail _ hy)]
theorem front_len {van : List Nm} : ∀ {l : List Nm}, (front van l).length ≤ l.length
  | [] => by simp [front]
  | s :: r => by
    simp only [front, List.length_cons]
    split
    · have := front_len (van := van) (l := r); omega
    · simp
def stepsF (van : List Nm) (rules : List Rule) : List NP := rules.flatMap fun r => (front van r.2).map fun s => (r.1, s)
theorem stepsF_len {van : List Nm} : ∀ {rules : List Rule}, (∀ r ∈ rules, r.2.length ≤ 1000) → (stepsF van rules).length ≤ 1000 * rules.length
  | [], _ => by simp [stepsF]
  | r :: rs, h => by
    have h1 := stepsF_len (van := van) (rules := rs) fun x hx => h x (.tail _ hx)
    have h2 := h r (.head _)
    have h3 := front_len (van := van) (l := r.2)
    simp only [stepsF, List.flatMap_cons, List.length_append, List.length_map, List.length_cons] at h1 ⊢
    omega
def wayB (steps : List NP) (p : NP) : Bool := decide (p.1 = p.2) || (decide (p ∈ steps) || allN.any fun m => decide ((p.1, m) ∈ steps) && decide ((m, p.2) ∈ steps))
def allP : List NP := allN.flatMap fun o => allN.map fun t => (o, t)
def waysF (steps : List NP) : List NP := allP.filter (wayB steps)

set_option maxHeartbeats 1000000
theorem ways_ok {rules : List Rule} {van : List Nm} {k : Nat} (R : ARoom (k + 1) A) (hz : rules.length ≤ 1000) (hz2 : ∀ r ∈ rules, r.2.length ≤ 1000) (hv : van.length ≤ 1000)
    (p : P (.list ((waysF (stepsF van rules)).map dP)) σ) : OpL (X3 w mg mb fr) A env σ (fun vs => call (.ref 283) vs) [dRules rules, .list (van.map dN)] P := by
  refine fn_call (dbs := [("rules", dRules rules), ("vanish", .list (van.map dN))]) ⟨⟨_, _, _, rfl⟩, rfl, rfl, rfl, rfl, rfl, rfl, rfl, rfl, rfl, rfl, rfl, rfl⟩ R.room ?_ rfl rfl ?_
  · intro s b vs T hb r
    cases r with
    | cons r q => cases q with
      | cons r' q => cases q; exact ⟨_, BindsTo.of_eq rfl, .cons r (.cons r' .nil)⟩
  · intro L
    have R' : ∀ e, ARoom k (A.deeper e) := fun e => R.deeper
    have hsl : sizeLine = 2 ^ 24 := rfl
    refine exs_cons (ex_assign (ev_listC (trl_nil ⟨Nat.le_of_ble_eq_true rfl, fun a => ?_⟩)) rfl rfl)
    refine exs_cons (ex_forL rules dRule (fun pre => [("steps", .raw (.ref a)), ("rules", dRules rules), ("vanish", .list (van.map dN))]) (fun pre => (a, .lst ((stepsF van pre).map dP)) :: σ.ω)
      (src_of (ev_var rfl rfl ⟨itb_list R.hd, .cons rfl (.cons rfl (.cons rfl .nil)), rfl⟩ rfl rfl)) ?_ (exs_nil ?_) (fun _ => rfl))
    · intro pre r post e
      have hlen : (stepsF van pre).length ≤ 1000000 := by
        have h1 := stepsF_len (van := van) (rules := pre) fun x hx => hz2 x (by rw [e]; simp [hx])
        have h4 : pre.length ≤ rules.length := by rw [e]; simp
        omega
      have hr : r.2.length ≤ 1000 := hz2 r (by rw [e]; simp)
      have hst : stepsF van (pre ++ [r]) = stepsF van pre ++ (front van r.2).map fun s => (r.1, s) := by simp [stepsF]
      rw [hst]
      generalize stepsF van pre = st at hlen ⊢
      refine asg_tup2 R.hd rfl rfl ?_
      refine exs_cons (ex_forLI r.2 dN (fun q => [("steps", .raw (.ref a)), ("rules", dRules rules), ("vanish", .list (van.map dN)), ("name", dN r.1)]) (fun q => (a, .lst ((st ++ q.map fun s => (r.1, s)).map dP)) :: σ.ω) (fun q => ∀ y ∈ q, y ∈ van)
        (src_of (ev_var rfl rfl ⟨itb_list R.hd, .cons rfl (.cons rfl (.cons rfl (.cons rfl .nil))), by simp⟩ rfl rfl)) (by simp) ?_ (fun hI => exs_nil (exs_nil ⟨.cons rfl (.cons rfl (.cons rfl .nil)), by rw [front_all hI]⟩)) (fun _ => rfl))
      intro q s post' e' hI
      refine asg_name rfl ?_
      refine exs_cons (ex_expr (ev_meth (T := "list") (id := "list.append") (ev_var rfl rfl ⟨isTy_lst (.cell mem_head), trl_cons (ev_tup (trl_cons (ev_var rfl rfl (trl_cons (ev_var rfl rfl (trl_nil ⟨Nat.le_of_ble_eq_true rfl, trl_nil (ol_append .head ?_ ⟨rfl, ?_⟩)⟩) rfl rfl) rfl) rfl rfl) rfl)) rfl⟩ rfl rfl) F.plainAttrs_list F.slot_list_append F.type_list_append rfl rfl rfl rfl rfl) rfl rfl)
      · have : q.length ≤ r.2.length := by rw [e']; simp
        simp; omega
      · refine exs_cons (ex_if (te_cmp (ev_var rfl rfl (ev_var rfl rfl (op_notin (R' _) .data (okN 0 _) (okNs 0 _) (by decide) (ob_bool (ite_b (fun h1 => ?_) (fun h1 => ?_)))) rfl rfl) rfl rfl) rfl))
        · rw [anyN] at h1
          have hs : s ∉ van := by simpa using h1
          refine exs_cons (ex_brk (exs_nil ⟨.cons rfl (.cons rfl (.cons rfl .nil)), ?_⟩))
          rw [e', front_stop hs hI]
          simp [dP]
        · rw [anyN] at h1
          have hs : s ∈ van := by simpa using h1
          refine exs_nil (exs_nil ⟨.cons rfl (.cons rfl (.cons rfl (.cons rfl .nil))), ?_, ?_⟩)
          · simp [dP]
          · intro y hy
            rcases List.mem_append.mp hy with hy | hy
            · exact hI y hy
            · rw [List.mem_singleton.mp hy]; exact hs
    · have hlen : (stepsF van rules).length ≤ 1000000 := by
        have h1 := stepsF_len (van := van) hz2
        omega
      generalize stepsF van rules = st at hlen p ⊢
      refine exs_cons (ex_assign (ev_listC (trl_nil ⟨Nat.le_of_ble_eq_true rfl, fun c => ?_⟩)) rfl rfl)
      refine exs_cons (ex_forL allN dN (fun pre => [("ways", .raw (.ref c)), ("steps", .raw (.ref a))]) (fun pre => (c, .lst (((pre.flatMap fun o => allN.map fun t => (o, t)).filter (wayB st)).map dP)) :: (a, .lst (st.map dP)) :: σ.ω)
        (src_of (ev_glob rfl names_rp rfl ⟨itb_list R.hd, .cons rfl (.cons rfl .nil), rfl⟩ rfl)) ?_ (exs_nil ?_) (fun _ => rfl))
      · intro pre one post e
        have hpre : pre.length ≤ 2 := by have := congrArg List.length e; simp [allN] at this; omega
        have ho : ((pre.flatMap fun o => allN.map fun t => (o, t)).filter (wayB st)).length ≤ 100 := by
          have h1 := List.length_filter_le (wayB st) (pre.flatMap fun o => allN.map fun t => (o, t))
          have h2 : (pre.flatMap fun o => allN.map fun t => (o, t)).length = 3 * pre.length := by
            clear h1 e hpre
            induction pre with
            | nil => rfl
            | cons x r ih => simp only [List.flatMap_cons, List.length_append, ih]; simp [allN]; omega
          omega
        have hst : (((pre ++ [one]).flatMap fun o => allN.map fun t => (o, t)).filter (wayB st)) = ((pre.flatMap fun o => allN.map fun t => (o, t)).filter (wayB st)) ++ (allN.map fun t => (one, t)).filter (wayB st) := by simp
        rw [hst]
        generalize (pre.flatMap fun o => allN.map fun t => (o, t)).filter (wayB st) = out at ho ⊢
        refine asg_name rfl ?_
        refine exs_cons (ex_forL allN dN (fun q => [("ways", .raw (.ref c)), ("steps", .raw (.ref a)), ("one", dN one)]) (fun q => (c, .lst ((out ++ (q.map fun t => (one, t)).filter (wayB st)).map dP)) :: (a, .lst (st.map dP)) :: σ.ω)
          (src_of (ev_glob rfl names_rp rfl ⟨itb_list R.hd, .cons rfl (.cons rfl (.cons rfl .nil)), by simp⟩ rfl)) ?_ (exs_nil (exs_nil ⟨.cons rfl (.cons rfl .nil), rfl⟩)) (fun _ => rfl))
        intro q other post' e'
        have hq : q.length ≤ 2 := by have := congrArg List.length e'; simp [allN] at this; omega
        have hst2 : (((q ++ [other]).map fun t => (one, t)).filter (wayB st)) = (q.map fun t => (one, t)).filter (wayB st) ++ (if wayB st (one, other) then [(one, other)] else []) := by
          simp [List.filter_cons]
        rw [hst2]
        have hq2 : ((q.map fun t => (one, t)).filter (wayB st)).length ≤ 2 := by
          have h1 := List.length_filter_le (wayB st) (q.map fun t => (one, t))
          simp at h1; simp; omega
        generalize (q.map fun t => (one, t)).filter (wayB st) = out2 at hq2 ⊢
        refine asg_name rfl ?_
        refine exs_cons (ex_assign_comp rfl (compL allN dN (fun pre => (pre.map fun m => decide ((one, m) ∈ st) && decide ((m, other) ∈ st)).map D.bool) (fun _ => (c, .lst ((out ++ out2).map dP)) :: (a, .lst (st.map dP)) :: σ.ω)
          (src_of (ev_glob rfl names_rp rfl ⟨itb_list R.hd, rfl, rfl⟩ rfl)) rfl ?_ ?_ ?_) rfl rfl (fun _ => rfl))
        · intro pre hp; have : allN.length = 3 := rfl; simp; omega
        · intro cl C acc pre mid post e
          refine asg_name rfl (ts_nil (ite_t rfl ?_))
          refine ev_and (ev_cmp (ev_tup (trl_cons (ev_var rfl rfl (trl_cons (ev_var rfl rfl (trl_nil ⟨Nat.le_of_ble_eq_true rfl, ev_var rfl rfl (op_in (x := dP (one, mid)) (R' _) (.cell (.tail _ (.tail _ mem_head))) (okP 0 _) (okPs 0 _) (by decide) (ob_bool (ite_b (fun h1 => ev_one (ev_cmp (ev_tup (trl_cons (ev_var rfl rfl (trl_cons (ev_var rfl rfl (trl_nil ⟨Nat.le_of_ble_eq_true rfl, ev_var rfl rfl (op_in (x := dP (mid, other)) (R' _) (.cell (.tail _ (.tail _ mem_head))) (okP 0 _) (okPs 0 _) (by decide) ⟨rfl, ?_⟩) rfl rfl⟩) rfl rfl) rfl) rfl rfl) rfl)) rfl)) (fun h1 => ⟨rfl, ?_⟩)))) rfl rfl⟩) rfl rfl) rfl) rfl rfl) rfl)) rfl)
          · rw [anyP] at h1 ⊢
            simp [h1]
          · rw [anyP] at h1 ⊢
            simp [h1]
        · refine exs_cons (ex_if (TrB.mono (P := fun b σ₁ => b = wayB st (one, other) ∧ σ₁ = _) (te_or (te_cmp (ev_var rfl rfl (ev_var rfl rfl (op_eq (x := dN one) (y := dN other) (R' _) (okN 0 _) (okN 0 _) (by decide) (ob_bool (ite_b (fun h1 => ⟨?_, rfl⟩) (fun h1 => te_or (te_cmp (ev_tup (trl_cons (ev_var rfl rfl (trl_cons (ev_var rfl rfl (trl_nil ⟨Nat.le_of_ble_eq_true rfl, ev_var rfl rfl (op_in (x := dP (one, other)) (R' _) (.cell (.tail _ mem_head)) (okP 0 _) (okPs 0 _) (by decide) (ob_bool (ite_b (fun h2 => ⟨?_, rfl⟩) (fun h2 => te_or (te_plain (ev_callB (ev_blt rfl (by boot_fast) (by decide) rfl ⟨rfl, trl_cons (ev_var rfl rfl (trl_nil (ol_any R.hd .data (ob_bool (ite_b (fun h3 => ⟨?_, rfl⟩) (fun h3 => te_or_nil ⟨?_, rfl⟩))))) rfl rfl) rfl⟩ rfl) rfl rfl rfl) rfl))))) rfl rfl⟩) rfl rfl) rfl) rfl rfl) rfl)) rfl))))) rfl rfl) rfl rfl) rfl)) ?_))
          · rw [deqN] at h1; simp only [wayB, h1, Bool.true_or]
          · rw [deqN] at h1; rw [anyP] at h2; simp only [wayB, h1, h2, Bool.true_or, Bool.false_or]
          · rw [deqN] at h1; rw [anyP] at h2; rw [List.any_map] at h3
            simp only [wayB, h1, h2, Bool.false_or]; exact h3.symm
          · rw [deqN] at h1; rw [anyP] at h2; rw [List.any_map] at h3
            simp only [wayB, h1, h2, Bool.false_or]; exact h3.symm
          · rintro b σ' ⟨rfl, rfl⟩
            refine ite_b (fun h => ?_) (fun h => ?_)
            · refine exs_cons (ex_expr (ev_meth (T := "list") (id := "list.append") (ev_var rfl rfl ⟨isTy_lst (.cell mem_head), trl_cons (ev_tup (trl_cons (ev_var rfl rfl (trl_cons (ev_var rfl rfl (trl_nil ⟨Nat.le_of_ble_eq_true rfl, trl_nil (ol_append .head ?_ ⟨rfl, exs_nil (exs_nil ⟨.cons rfl (.cons rfl (.cons rfl .nil)), ?_⟩)⟩)⟩) rfl rfl) rfl) rfl rfl) rfl)) rfl⟩ rfl rfl) F.plainAttrs_list F.slot_list_append F.type_list_append rfl rfl rfl rfl rfl) rfl rfl)
              · simp; omega
              · simp [h, dP]
            · exact exs_nil (exs_nil ⟨.cons rfl (.cons rfl (.cons rfl .nil)), by simp [h]⟩)
      · exact exs_cons (ex_ret (tr_drop (tr_freeze (ev_var rfl rfl ⟨c, _, _, rfl, rfl, σ.ω, List.sublist_cons_self _ _, p⟩ rfl rfl))))
end Mine

namespace Mine
open PySem PySem.W PySem.Calls PyProof.Rows
variable {w : World} {mg mb : Str → Option Value} {fr : List Env} {A : Around} {env : Env} {σ : Sg} {P : D → Sg → Prop} {Q : Fl → Sg → Prop}

theorem enumD_map {α : Type} (l : List α) (g : α → D) : enumD (l.map g) = l.zipIdx.map fun p => .tup [.int (p.2 : Nat), g p.1] := by
  unfold enumD
  rw [List.zipIdx_map, List.map_map]
  rfl
theorem zipIdx_split {α : Type} {l : List α} {pre post : List (α × Nat)} {x : α} {i : Nat} (h : l.zipIdx = pre ++ (x, i) :: post) : i = pre.length ∧ i < l.length := by
  have h1 : l.zipIdx[pre.length]? = some (x, i) := by rw [h]; simp
  rw [List.getElem?_zipIdx] at h1
  cases q : l[pre.length]? with
  | none => rw [q] at h1; cases h1
  | some y =>
    rw [q] at h1
    simp at h1
    have := (List.getElem?_eq_some_iff.mp q).1
    exact ⟨h1.2.symm, by rw [← h1.2]; exact this⟩

def nearAdd (n : List NP) (p : NP) : List NP := if decide (p ∈ n) = true then n else n ++ [p]
def nearI (van : List Nm) (syms : List Nm) (n : List NP) (p : Nm × Nat) : List NP := (front van (syms.drop (p.2 + 1))).foldl (fun n o => nearAdd n (p.1, o)) n
def nearR (van : List Nm) (n : List NP) (r : Rule) : List NP := r.2.zipIdx.foldl (nearI van r.2) n
def nearF (van : List Nm) (rules : List Rule) : List NP := rules.foldl (nearR van) []
theorem nearAdd_len (n : List NP) (p : NP) : (nearAdd n p).length ≤ n.length + 1 := by unfold nearAdd; split <;> simp
theorem foldAdd_len (x : Nm) : ∀ (l : List Nm) (n : List NP), (l.foldl (fun n o => nearAdd n (x, o)) n).length ≤ n.length + l.length
  | [], n => by simp
  | y :: r, n => by
    have h1 := foldAdd_len x r (nearAdd n (x, y))
    have h2 := nearAdd_len n (x, y)
    simp only [List.foldl_cons, List.length_cons] at h1 ⊢
    omega
theorem nearI_len (van syms : List Nm) (n : List NP) (p : Nm × Nat) : (nearI van syms n p).length ≤ n.length + syms.length := by
  have h1 := foldAdd_len p.1 (front van (syms.drop (p.2 + 1))) n
  have h2 := front_len (van := van) (l := syms.drop (p.2 + 1))
  simp only [List.length_drop] at h2
  unfold nearI; omega
theorem foldI_len (van syms : List Nm) : ∀ (l : List (Nm × Nat)) (n : List NP), (l.foldl (nearI van syms) n).length ≤ n.length + l.length * syms.length
  | [], n => by simp
  | y :: r, n => by
    have h1 := foldI_len van syms r (nearI van syms n y)
    have h2 := nearI_len van syms n y
    simp only [List.foldl_cons, List.length_cons, Nat.succ_mul] at h1 ⊢
    omega
theorem nearR_len {van : List Nm} {n : List NP} {r : Rule} (h : r.2.length ≤ 10) : (nearR van n r).length ≤ n.length + 100 := by
  have h1 := foldI_len van r.2 r.2.zipIdx n
  rw [List.length_zipIdx] at h1
  have : r.2.length * r.2.length ≤ 10 * 10 := Nat.mul_le_mul h h
  unfold nearR; omega
theorem foldR_len {van : List Nm} : ∀ (l : List Rule) (n : List NP), (∀ r ∈ l, r.2.length ≤ 10) → (l.foldl (nearR van) n).length ≤ n.length + 100 * l.length
  | [], n, _ => by simp
  | y :: r, n, h => by
    have h1 := foldR_len (van := van) r (nearR van n y) fun x hx => h x (.tail _ hx)
    have h2 := nearR_len (van := van) (n := n) (h y (.head _))
    simp only [List.foldl_cons, List.length_cons] at h1 ⊢
    omega

set_option maxHeartbeats 1000000
theorem near_ok {rules : List Rule} {van : List Nm} {k : Nat} (R : ARoom (k + 1) A) (hz : rules.length ≤ 100) (hz2 : ∀ r ∈ rules, r.2.length ≤ 10) (hv : van.length ≤ 1000)
    (p : P (.list ((nearF van rules).map dP)) σ) : OpL (X3 w mg mb fr) A env σ (fun vs => call (.ref 290) vs) [dRules rules, .list (van.map dN)] P := by
  refine fn_call (dbs := [("rules", dRules rules), ("vanish", .list (van.map dN))]) ⟨⟨_, _, _, rfl⟩, rfl, rfl, rfl, rfl, rfl, rfl, rfl, rfl, rfl, rfl, rfl, rfl⟩ R.room ?_ rfl rfl ?_
  · intro s b vs T hb r
    cases r with
    | cons r q => cases q with
      | cons r' q => cases q; exact ⟨_, BindsTo.of_eq rfl, .cons r (.cons r' .nil)⟩
  · intro L
    have R' : ∀ e, ARoom k (A.deeper e) := fun e => R.deeper
    have hsl : sizeLine = 2 ^ 24 := rfl
    refine exs_cons (ex_assign (ev_listC (trl_nil ⟨Nat.le_of_ble_eq_true rfl, fun a => ?_⟩)) rfl rfl)
    refine exs_cons (ex_forL rules dRule (fun pre => [("near", .raw (.ref a)), ("rules", dRules rules), ("vanish", .list (van.map dN))]) (fun pre => (a, .lst ((nearF van pre).map dP)) :: σ.ω)
      (src_of (ev_var rfl rfl ⟨itb_list R.hd, .cons rfl (.cons rfl (.cons rfl .nil)), rfl⟩ rfl rfl)) ?_ (exs_nil ?_) (fun _ => rfl))
    · intro pre r post e
      have hlen : (nearF van pre).length ≤ 10000 := by
        have h1 := foldR_len (van := van) pre [] fun x hx => hz2 x (by rw [e]; simp [hx])
        have h4 : pre.length ≤ rules.length := by rw [e]; simp
        simp only [List.length_nil] at h1
        unfold nearF; omega
      have hr : r.2.length ≤ 10 := hz2 r (by rw [e]; simp)
      have hst : nearF van (pre ++ [r]) = nearR van (nearF van pre) r := by simp [nearF]
      rw [hst]
      generalize nearF van pre = nr at hlen ⊢
      refine asg_tup2 R.hd rfl rfl ?_
      refine exs_cons (ex_forL r.2.zipIdx (fun p => .tup [.int (p.2 : Nat), dN p.1]) (fun q => [("near", .raw (.ref a)), ("rules", dRules rules), ("vanish", .list (van.map dN)), ("symbols", .list (r.2.map dN))]) (fun q => (a, .lst ((q.foldl (nearI van r.2) nr).map dP)) :: σ.ω)
        (by rw [← enumD_map]; exact src_enum R.hd (ev_blt rfl (by boot_fast) (by decide) rfl ⟨rfl, ev_var rfl rfl ⟨rfl, .cons rfl (.cons rfl (.cons rfl (.cons rfl .nil))), rfl⟩ rfl rfl⟩ rfl) rfl rfl) ?_ (exs_nil (exs_nil ⟨.cons rfl (.cons rfl (.cons rfl .nil)), rfl⟩)) (fun _ => rfl))
      rintro q ⟨one, i⟩ post' e'
      obtain ⟨hi, hi2⟩ := zipIdx_split e'
      have hlen2 : (q.foldl (nearI van r.2) nr).length ≤ 20000 := by
        have h1 := foldI_len van r.2 q nr
        have h2 : q.length ≤ 10 := by omega
        have h3 : q.length * r.2.length ≤ 10 * 10 := Nat.mul_le_mul h2 hr
        omega
      have hst2 : (q ++ [(one, i)]).foldl (nearI van r.2) nr = nearI van r.2 (q.foldl (nearI van r.2) nr) (one, i) := by simp
      rw [hst2]
      generalize q.foldl (nearI van r.2) nr = n2 at hlen2 ⊢
      refine asg_tup2 R.hd rfl rfl ?_
      refine exs_cons (ex_forLI (r.2.drop (i + 1)) dN (fun q => [("near", .raw (.ref a)), ("rules", dRules rules), ("vanish", .list (van.map dN)), ("symbols", .list (r.2.map dN)), ("one", dN one)]) (fun q => (a, .lst ((q.foldl (fun n o => nearAdd n (one, o)) n2).map dP)) :: σ.ω) (fun q => ∀ y ∈ q, y ∈ van)
        (src_of (ev_slice_fromA (ev_var rfl rfl (ev_bin (ev_var rfl rfl (ev_int (op_add ⟨r.2.map dN, i + 1, rfl, by simp; omega, by simp; omega, .data, ?_⟩)) rfl rfl)) rfl rfl) rfl)) (by simp) ?_
        (fun hI => exs_nil (exs_nil ⟨.cons rfl (.cons rfl (.cons rfl (.cons rfl .nil))), by unfold nearI; rw [front_all hI]⟩)) (fun _ => rfl))
      · refine ⟨?_, .cons rfl (.cons rfl (.cons rfl (.cons rfl (.cons rfl .nil)))), rfl⟩
        rw [← List.map_drop]; exact itb_list R.hd
      · intro q3 other post3 e3 hI
        have hq3 : q3.length ≤ 10 := by
          have := congrArg List.length e3
          simp at this; omega
        have hlen3 : (q3.foldl (fun n o => nearAdd n (one, o)) n2).length ≤ 30000 := by
          have h1 := foldAdd_len one q3 n2
          omega
        have hst3 : (q3 ++ [other]).foldl (fun n o => nearAdd n (one, o)) n2 = nearAdd (q3.foldl (fun n o => nearAdd n (one, o)) n2) (one, other) := by simp
        have hfin : other ∉ van → nearI van r.2 n2 (one, i) = (q3 ++ [other]).foldl (fun n o => nearAdd n (one, o)) n2 := fun ho => by
          unfold nearI
          dsimp only
          rw [e3, front_stop ho hI]
        rw [hst3] at hfin ⊢
        generalize q3.foldl (fun n o => nearAdd n (one, o)) n2 = n3 at hlen3 hfin ⊢
        refine asg_name rfl ?_
        refine exs_cons (ex_if (te_cmp (ev_tup (trl_cons (ev_var rfl rfl (trl_cons (ev_var rfl rfl (trl_nil ⟨Nat.le_of_ble_eq_true rfl, ev_var rfl rfl (op_notin (x := dP (one, other)) (R' _) (.cell mem_head) (okP 0 _) (okPs 0 _) (by decide) (ob_bool (ite_b (fun h1 => ?_) (fun h1 => ?_)))) rfl rfl⟩) rfl rfl) rfl) rfl rfl) rfl)) rfl))
        · rw [anyP] at h1
          have hs : nearAdd n3 (one, other) = n3 ++ [(one, other)] := by unfold nearAdd; simp at h1; simp [h1]
          rw [hs] at hfin ⊢
          refine exs_cons (ex_expr (ev_meth (T := "list") (id := "list.append") (ev_var rfl rfl ⟨isTy_lst (.cell mem_head), trl_cons (ev_tup (trl_cons (ev_var rfl rfl (trl_cons (ev_var rfl rfl (trl_nil ⟨Nat.le_of_ble_eq_true rfl, trl_nil (ol_append .head (by simp; omega) ⟨rfl, exs_nil ?_⟩)⟩) rfl rfl) rfl) rfl rfl) rfl)) rfl⟩ rfl rfl) F.plainAttrs_list F.slot_list_append F.type_list_append rfl rfl rfl rfl rfl) rfl rfl)
          refine exs_cons (ex_if (te_cmp (ev_var rfl rfl (ev_var rfl rfl (op_notin (R' _) .data (okN 0 _) (okNs 0 _) (by decide) (ob_bool (ite_b (fun h1 => ?_) (fun h1 => ?_)))) rfl rfl) rfl rfl) rfl))
          · rw [anyN] at h1
            have hs : other ∉ van := by simpa using h1
            refine exs_cons (ex_brk (exs_nil ⟨.cons rfl (.cons rfl (.cons rfl (.cons rfl .nil))), ?_⟩))
            rw [hfin hs]
            simp [dP]
          · rw [anyN] at h1
            have hs : other ∈ van := by simpa using h1
            refine exs_nil (exs_nil ⟨.cons rfl (.cons rfl (.cons rfl (.cons rfl (.cons rfl .nil)))), ?_, ?_⟩)
            · simp [dP]
            · intro y hy
              rcases List.mem_append.mp hy with hy | hy
              · exact hI y hy
              · rw [List.mem_singleton.mp hy]; exact hs
        · rw [anyP] at h1
          have hs : nearAdd n3 (one, other) = n3 := by unfold nearAdd; simp at h1; simp [h1]
          rw [hs] at hfin ⊢
          refine exs_nil ?_
          refine exs_cons (ex_if (te_cmp (ev_var rfl rfl (ev_var rfl rfl (op_notin (R' _) .data (okN 0 _) (okNs 0 _) (by decide) (ob_bool (ite_b (fun h1 => ?_) (fun h1 => ?_)))) rfl rfl) rfl rfl) rfl))
          · rw [anyN] at h1
            have hs : other ∉ van := by simpa using h1
            refine exs_cons (ex_brk (exs_nil ⟨.cons rfl (.cons rfl (.cons rfl (.cons rfl .nil))), ?_⟩))
            rw [hfin hs]
          · rw [anyN] at h1
            have hs : other ∈ van := by simpa using h1
            refine exs_nil (exs_nil ⟨.cons rfl (.cons rfl (.cons rfl (.cons rfl (.cons rfl .nil)))), rfl, ?_⟩)
            intro y hy
            rcases List.mem_append.mp hy with hy | hy
            · exact hI y hy
            · rw [List.mem_singleton.mp hy]; exact hs
    · exact exs_cons (ex_ret (tr_freeze (ev_var rfl rfl ⟨a, _, _, rfl, rfl, p⟩ rfl rfl)))
end Mine

namespace Mine
open PySem PySem.W PySem.Calls PyProof.Rows
/-! the walk's own steps -/
local macro_rules | `(tactic| walk_at "mem") => `(tactic| first | exact List.Mem.head _ | (refine' List.Mem.tail _ ?uu; (case uu => walk_at "mem")) | (refine' List.mem_append_right _ ?uu; (case uu => walk_at "mem")) | fail "mem")
local macro_rules | `(tactic| walk_at "upd") => `(tactic| first | exact Upd.head | (refine' Upd.tail ?uu; (case uu => walk_at "upd")) | (refine' Upd.skip _ ?uu; (case uu => walk_at "upd")) | fail "upd")
local macro_rules | `(tactic| walk_at "m1") => `(tactic| first
  | with_reducible refine' exs_cons ?_
  | with_reducible refine' exs_nil ?_
  | ((with_reducible refine' ex_assign ?h ?a ?b); (case a => exact rfl); (case b => exact rfl))
  | ((with_reducible refine' ex_setattr_new ?h ?a); (case a => exact rfl))
  | ((with_reducible refine' ex_dset ?h ?a); (case a => exact rfl))
  | with_reducible refine' ex_if ?_
  | with_reducible refine' ex_ret ?_
  | ((with_reducible refine' ex_expr ?h ?a ?b); (case a => exact rfl); (case b => exact rfl))
  | with_reducible refine' ex_pass ?_
  | ((with_reducible refine' ev_var ?a ?b ?h ?c ?d); (case a => exact rfl); (case b => exact rfl); (case c => exact rfl); (case d => exact rfl))
  | with_reducible refine' ev_int ?_
  | with_reducible refine' ev_str ?_
  | with_reducible refine' ev_none ?_
  | with_reducible refine' ev_bool ?_
  | ((with_reducible refine' ev_attr ?h ?a); (case a => exact rfl))
  | ((with_reducible refine' ev_cmp ?h ?a); (case a => exact rfl))
  | with_reducible refine' ev_bin ?_
  | with_reducible refine' ev_tup ?_
  | with_reducible refine' ev_if ?_
  | ((with_reducible refine' trl_cons ?h ?a); (case a => exact rfl))
  | with_reducible refine' trl_nil ?_
  | ((with_reducible refine' te_cmp ?h ?a); (case a => exact rfl))
  | with_reducible refine' te_and ?_
  | with_reducible refine' te_or ?_
  | with_reducible refine' te_and_nil ?_
  | with_reducible refine' te_or_nil ?_
  | with_reducible refine' te_not ?_
  | ((with_reducible refine' te_plain ?h ?a); (case a => exact rfl))
  | ((with_reducible refine' ⟨_, _, _, _, rfl, ?u, ?n, ?a, ?b, ?h⟩); (case u => walk_at "upd"); (case n => exact rfl); (case a => exact rfl); (case b => exact Nat.le_of_ble_eq_true rfl); (try dsimp only [List.cons_append, List.nil_append]))
  | ((with_reducible refine' ⟨_, _, _, .cell ?m, ?a, ?b, ?c, ?h⟩); (case m => walk_at "mem"); (case a => exact rfl); (case b => exact rfl); (case c => exact rfl))
  | ((with_reducible refine' ⟨_, _, _, .data, ?a, ?b, ?c, ?h⟩); (case a => exact rfl); (case b => exact rfl); (case c => exact rfl))
  | ((with_reducible refine' ⟨?a, ?h⟩); (case a => exact Nat.le_of_ble_eq_true rfl))
  | fail "m1")
local macro_rules | `(tactic| walk_at "m") => `(tactic| (repeat' walk_at "m1"))

section
variable {w : World} {mg mb : Str → Option Value} {fr : List Env} {A : Around} {env : Env} {σ : Sg} {P : D → Sg → Prop} {Q : Fl → Sg → Prop}
abbrev aProd : Addr := 100
set_option maxHeartbeats 2000000 in
theorem prodInit_ok {n : Int} {p : Str × List Str} {a : Addr} {k : Nat} {ω : Om} (R : ARoom (k + 1) A) (hw : σ.ω = (a, .dct []) :: ω) (hz : p.2.length ≤ 1000) (hs : ∀ s ∈ p.2, s.length ≤ 100 ∧ PyData.strOk s = true) (hn : p.1.length ≤ 100)
    (pp : ∀ u, P .none ⟨σ.ρ, (u, .lst ((usymsF p.2).map .str)) :: (a, .dct (prodB (.raw (.ref u)) n p)) :: ω⟩) :
    OpC (X3 w mg mb fr) A env σ 62 [.obj aProd a, .int n, .str p.1, .list (p.2.map .str), .tup [.str "right", .int 0], .none, .str "", .int 0] P := by
  refine fn_callC (dbs := [("self", .obj aProd a), ("number", .int n), ("name", .str p.1), ("prod", .list (p.2.map .str)), ("precedence", .tup [.str "right", .int 0]), ("func", .none), ("file", .str ""), ("line", .int 0)]) ⟨⟨_, _, _, rfl⟩, rfl, rfl, rfl, rfl, rfl, rfl, rfl, rfl, rfl, rfl, rfl, rfl⟩ R.room ?_ rfl rfl ?_
  · intro s b vs T hb r
    obtain ⟨v1, _, rfl, r1, r⟩ := r.inv
    obtain ⟨v2, _, rfl, r2, r⟩ := r.inv
    obtain ⟨v3, _, rfl, r3, r⟩ := r.inv
    obtain ⟨v4, _, rfl, r4, r⟩ := r.inv
    obtain ⟨v5, _, rfl, r5, r⟩ := r.inv
    obtain ⟨v6, _, rfl, r6, r⟩ := r.inv
    obtain ⟨v7, _, rfl, r7, r⟩ := r.inv
    obtain ⟨v8, _, rfl, r8, r⟩ := r.inv
    cases r.inv0
    exact ⟨_, binds_K (T.inK.keeps hb) rfl rfl rfl rfl rfl, .cons r1 (.cons r2 (.cons r3 (.cons r4 (.cons r5 (.cons r6 (.cons r7 (.cons r8 .nil)))))))⟩
  · intro L
    rw [hw]
    try dsimp only
    have R' : ∀ e, ARoom k (A.deeper e) := fun e => R.deeper
    have hsl' := hsl
    walk_at "m"
    refine ev_callT (ev_blt rfl (by boot_fast) (by decide) rfl ⟨rfl, ?_⟩ rfl) rfl rfl rfl
    walk_at "m"
    refine ol_tupOf .data (by simp; omega) ?_
    walk_at "m"
    refine ev_callB (ev_blt rfl (by boot_fast) (by decide) rfl ⟨rfl, ?_⟩ rfl) rfl rfl rfl
    walk_at "m"
    refine ol_lenT (by simp; omega) ?_
    walk_at "m"
    refine ev_listC (trl_nil ⟨Nat.le_of_ble_eq_true rfl, fun u => ?_⟩)
    try dsimp only
    walk_at "m"
    refine ex_forL p.2 D.str (fun pre => [("self", .obj aProd a), ("number", .int n), ("name", .str p.1), ("prod", .list (p.2.map .str))])
      (fun pre => (u, .lst ((usymsF pre).map .str)) :: (a, .dct [("name", .str p.1), ("prod", .tup (p.2.map .str)), ("number", .int n), ("func", .none), ("callable", .none), ("file", .str ""), ("line", .int 0), ("prec", .tup [.str "right", .int 0]), ("len", .int (p.2.map D.str).length), ("usyms", .raw (.ref u))]) :: ω) ?_ ?_ ?_ (fun _ => rfl)
    · refine src_of ?_
      walk_at "m"
      exact ⟨itb_tup R.hd, .cons rfl (.cons rfl (.cons rfl (.cons rfl .nil))), rfl⟩
    · intro pre s post e
      have hs' := hs s (by rw [e]; simp)
      have hpre : (usymsF pre).length ≤ 1000 := by
        have h1 := usymsF_len pre
        have h2 := congrArg List.length e
        simp at h2; omega
      have hst : usymsF (pre ++ [s]) = usymT (usymsF pre) s := by simp [usymsF]
      have hus : ∀ x ∈ usymsF pre, PyData.strOk x = true := fun x hx => (hs x (by rw [e]; simp [usymsF_mem x hx])).2
      rw [hst]
      generalize usymsF pre = us at hpre hus ⊢
      refine asg_name rfl ?_
      try dsimp only
      walk_at "m"
      refine op_notin (n := 0) (R' _) (.cell (by walk_at "mem")) hs'.2 (ok_strs hus 0) (by decide) (ob_bool (ite_b (fun h1 => ?_) (fun h1 => ?_)))
      · rw [any_str] at h1
        have h2 : usymT us s = us ++ [s] := by unfold usymT; rw [if_neg]; intro z; rw [z] at h1; cases h1
        rw [h2]
        walk_at "m"
        refine ev_meth (T := "list") (id := "list.append") ?_ F.plainAttrs_list F.slot_list_append F.type_list_append rfl rfl rfl rfl rfl
        walk_at "m"
        refine ⟨isTy_lst (.cell (by walk_at "mem")), ?_⟩
        walk_at "m"
        refine ol_append .head (by simp; omega) ⟨rfl, ?_⟩
        walk_at "m"
        exact ⟨.cons rfl (.cons rfl (.cons rfl (.cons rfl .nil))), by simp⟩
      · rw [any_str] at h1
        have h2 : usymT us s = us := by unfold usymT; rw [if_pos]; simpa using h1
        rw [h2]
        walk_at "m"
        exact ⟨.cons rfl (.cons rfl (.cons rfl (.cons rfl .nil))), rfl⟩
    · walk_at "m"
      refine ev_list (trl_nil ⟨Nat.le_of_ble_eq_true rfl, ?_⟩)
      walk_at "m"
      have hpp := pp u
      refine ob_tup (by simp; omega) (ite_b (fun h1 => ?_) (fun h1 => ?_))
      · have hstr : prodStr p = p.1 ++ PySem.Str.ofString " -> " ++ Txt.join (PySem.Str.ofString " ") p.2 := by
          unfold prodStr; rw [if_neg]; simpa using h1
        walk_at "m"
        refine ev_joined (trj_cons (ev_fmt_str ?_) rfl)
        walk_at "m"
        refine ⟨_, rfl, by omega, _, rfl, ?_, trj_cons (ev_str ⟨_, rfl, ?_, trj_cons (ev_fmt_str ?_) rfl⟩) rfl⟩
        · rw [empty_app']; omega
        · rw [empty_app', PySem.Str.length_append]
          have : (PySem.Str.ofString " -> ").length = 4 := by decide +kernel
          omega
        · refine ev_meth (T := "str") (id := "str.join") (ev_str ⟨isTy_str, ?_⟩) F.plainAttrs_str F.slot_str_join F.type_str_join rfl rfl rfl rfl rfl
          walk_at "m"
          have hj := join_len hz hs
          refine ol_join hj.1 ⟨_, rfl, by omega, _, rfl, ?_, trj_nil ⟨?_, ?_⟩⟩
          · rw [empty_app', PySem.Str.length_append, PySem.Str.length_append]
            have : (PySem.Str.ofString " -> ").length = 4 := by decide +kernel
            omega
          · rw [empty_app', PySem.Str.length_append, PySem.Str.length_append]
            have : (PySem.Str.ofString " -> ").length = 4 := by decide +kernel
            omega
          · rw [empty_app']
            walk_at "m"
            rw [← hstr]
            exact hpp
      · have hstr : prodStr p = p.1 ++ PySem.Str.ofString " -> <empty>" := by
          unfold prodStr; rw [if_pos]; simpa using h1
        rw [← (by decide +kernel : fmtE = PySem.Str.ofString "%s -> <empty>")]
        walk_at "m"
        refine op_pct_e (by omega) ?_
        walk_at "m"
        rw [← hstr]
        exact hpp
end

section
variable {w : World} {mg mb : Str → Option Value} {fr : List Env} {A : Around} {env : Env} {σ : Sg} {P : D → Sg → Prop} {Q : Fl → Sg → Prop}
/-! _is_identifier, rightmost_terminal -/
def identS : Str := "abcdefghijklmnopqrstuvwxyzABCDEFGHIJKLMNOPQRSTUVWXYZ0123456789_-"
theorem ident_occ : ∀ c ∈ symCodes, (Builtin.Str.occurrences identS (symS c) 0 identS.length 1).isEmpty = false := by decide +kernel
theorem sym_ascii : ∀ c ∈ symCodes, (symS c).cps.all (· < 128) = true := by decide +kernel
theorem ident_ok {c : Nat} {k : Nat} (R : ARoom (k + 1) A) (hc : c ∈ symCodes) (p : P (.bool true) σ) : OpL (X3 w mg mb fr) A env σ (fun vs => call (.ref 39) vs) [.str (symS c)] P := by
  refine fn_call (dbs := [("s", .str (symS c))]) ⟨⟨_, _, _, rfl⟩, rfl, rfl, rfl, rfl, rfl, rfl, rfl, rfl, rfl, rfl, rfl, rfl⟩ R.room ?_ rfl rfl ?_
  · intro s b vs T hb r
    obtain ⟨v1, _, rfl, r1, r⟩ := r.inv
    cases r.inv0
    exact ⟨_, BindsTo.of_eq rfl, .cons r1 .nil⟩
  · intro L
    try dsimp only
    walk_at "m"
    refine ev_and ?_
    walk_at "m"
    refine ev_callB (ev_blt rfl (by boot_fast) (by decide) rfl ⟨rfl, ?_⟩ rfl) rfl rfl rfl
    walk_at "m"
    refine ol_lenS (Nat.le_of_ble_eq_true rfl) ?_
    walk_at "m"
    refine op_gt ?_
    refine ob_bool (ite_t rfl (ev_one ?_))
    refine ev_callB (ev_blt rfl (by boot_fast) (by decide) rfl ⟨rfl, trl_cons (ev_comp rfl (compL [c] (fun c => .str (symS c)) (fun pre => (pre.map fun _ => true).map D.bool) (fun _ => σ.ω) ?_ rfl ?_ ?_ ?_) (fun _ => rfl)) rfl⟩ rfl) rfl rfl rfl
    · refine src_of ?_
      walk_at "m"
      exact ⟨itb_str R.hd (sym_ascii c hc), rfl, rfl⟩
    · intro pre hp
      have := hsl
      simp at hp ⊢; omega
    · intro cl C acc pre s post e
      have hs : s = c := by
        have h1 : s ∈ [c] := by rw [e]; simp
        simpa using h1
      subst hs
      refine asg_name rfl (ts_nil (ite_t rfl ?_))
      refine ev_cmp ?_ rfl
      walk_at "m"
      refine ev_glob (d := .str identS) rfl (fun b T => .str ..) rfl ?_ rfl
      refine op_instr ?_
      rw [ident_occ s hc]
      exact ⟨rfl, by simp⟩
    · exact trl_nil (ol_all R.hd .data p)

theorem right_ok {ss : List Str} {t : Addr} {kds : List (Str × D)} {k : Nat} (R : ARoom (k + 1) A) (hz : ss.length ≤ 1000) (ht : (t, C.dct kds) ∈ σ.ω) (p : ∀ s, P (.str s) σ) (p0 : P .none σ) :
    OpL (X3 w mg mb fr) A env σ (fun vs => call (.ref 111) vs) [.list (ss.map .str), .raw (.ref t)] P := by
  refine fn_call (dbs := [("symbols", .list (ss.map .str)), ("terminals", .raw (.ref t))]) ⟨⟨_, _, _, rfl⟩, rfl, rfl, rfl, rfl, rfl, rfl, rfl, rfl, rfl, rfl, rfl, rfl⟩ R.room ?_ rfl rfl ?_
  · intro s b vs T hb r
    obtain ⟨v1, _, rfl, r1, r⟩ := r.inv
    obtain ⟨v2, _, rfl, r2, r⟩ := r.inv
    cases r.inv0
    exact ⟨_, BindsTo.of_eq rfl, .cons r1 (.cons r2 .nil)⟩
  · intro L
    try dsimp only
    have hsl' := hsl
    walk_at "m"
    refine ev_callB (ev_blt rfl (by boot_fast) (by decide) rfl ⟨rfl, ?_⟩ rfl) rfl rfl rfl
    walk_at "m"
    refine ol_len .data (by simp; omega) ?_
    walk_at "m"
    refine op_sub ?_
    walk_at "m"
    let Iv1 : Nat → Sg → Prop := fun n σ' => n ≤ ss.length ∧ Sub σ'.ρ [("i", .int ((n : Int) - 1)), ("symbols", .list (ss.map .str)), ("terminals", .raw (.ref t))] ∧ σ'.ω = σ.ω
    refine ex_while Iv1 ss.length ⟨Nat.le_refl _, ?_, rfl⟩ ?_
    · exact .cons (by simp [List.lookup_cons]) (.cons rfl (.cons rfl .nil))
    · rintro n ⟨ρ', ω'⟩ ⟨hn, hsub, hω⟩
      dsimp only at hsub hω
      subst hω
      refine TrB.sub hsub ?_
      walk_at "m"
      refine op_ge (ob_bool (ite_b (fun h1 => ?_) (fun h1 => ?_)))
      · have hn1 : 1 ≤ n := by
          have : (1 : Int) ≤ n := by simpa using h1
          omega
        have hi : ((n : Int) - 1).toNat < ss.length := by omega
        have hx : (ss.map D.str)[((n : Int) - 1).toNat]? = some (.str (ss[((n : Int) - 1).toNat])) := by simp [hi]
        walk_at "m"
        refine ev_sub ?_
        walk_at "m"
        refine op_item .data (by omega) hx (by simp; omega) ?_ (fun _ _ => rfl)
        walk_at "m"
        refine op_din (.cell ht) (ob_bool (ite_b (fun h2 => ?_) (fun h2 => ?_)))
        · walk_at "m"
          refine ev_sub ?_
          walk_at "m"
          exact op_item .data (by omega) hx (by simp; omega) (p _) (fun _ _ => rfl)
        · walk_at "m"
          refine ex_aug_sub (m := 1) rfl rfl ?_
          walk_at "m"
          refine ⟨rfl, ?_⟩
          walk_at "m"
          refine ⟨n - 1, by omega, by omega, ?_, rfl⟩
          refine .cons ?_ (.cons rfl (.cons rfl .nil))
          simp [List.lookup_cons]; omega
      · walk_at "m"
        exact p0
end

section
variable {w : World} {mg mb : Str → Option Value} {fr : List Env} {A : Around} {env : Env} {σ : Sg} {P : D → Sg → Prop} {Q : Fl → Sg → Prop}
theorem prod_call {n : Int} {p : GPr} {k : Nat} (R : ARoom (k + 2) A) (hz : p.2.length ≤ 1000) (hs : ∀ s ∈ p.2, s.length ≤ 100 ∧ PyData.strOk s = true) (hn : p.1.length ≤ 100) (pp : P (.inst aProd (prodA n p)) σ) :
    OpL (X3 w mg mb fr) A env σ (fun vs => call (.ref aProd) vs) [.int n, .str p.1, .list (p.2.map .str), .tup [.str "right", .int 0], .none, .str "", .int 0] P := by
  refine ol_refreeze (cls_call (fI := 62) rfl rfl rfl fun a A' h1 h2 h3 h4 => ?_)
  refine prodInit_ok (R.made h1 h2 h3 h4) rfl hz hs hn fun u => ⟨rfl, [u, a], .inst aProd (prodA n p), σ.ω, ?_, ?_, ?_, pp⟩
  · intro x hx
    rcases List.mem_cons.mp hx with rfl | hx
    · simp
    · rw [List.mem_singleton.mp hx]; simp
  · intro hnd
    simp only [List.map_cons, List.nodup_cons, List.mem_cons, not_or] at hnd
    refine ⟨fun q hq => ⟨?_, q.2, .tail _ (.tail _ hq), RetC.same _⟩, hnd.2.2⟩
    have hm := List.mem_map_of_mem (f := (·.1)) hq
    intro z
    rcases List.mem_cons.mp z with z | z
    · exact hnd.1.2 (z ▸ hm)
    · rw [List.mem_singleton] at z; exact hnd.2.1 (z ▸ hm)
  · refine Ret.inst (ds := prodB (.raw (.ref u)) n p) (.tail _ (.head _)) (by simp) ?_
    refine .cons (.same _) (.cons (.same _) (.cons (.same _) (.cons (.same _) (.cons (.same _) (.cons (.same _) (.cons (.same _) (.cons (.same _) (.cons (.same _) (.cons (.lst (.head _) (by simp) (RetAll.same _)) (.cons (.same _) (.cons (.same _) (.cons (.same _) .nil))))))))))))
end

section
variable {w : World} {mg mb : Str → Option Value} {fr : List Env} {A : Around} {env : Env} {σ : Sg} {P : D → Sg → Prop} {Q : Fl → Sg → Prop}
abbrev aGr : Addr := 248
theorem gram_call {ts : List Str} {k : Nat} (R : ARoom (k + 2) A) (hz : ts.length ≤ 1000) (hn : ts.Nodup) (he : ("error" : Str) ∉ ts)
    (pp : ∀ g TT, TT.map (·.1) = ts ++ [("error" : Str)] → (∀ e ∈ TT, e.2.2 = []) → P (.obj aGr g.d) ⟨σ.ρ, ωG g [.none] [] TT [] [] σ.ω⟩) :
    OpL (X3 w mg mb fr) A env σ (fun vs => call (.ref aGr) vs) [.list (ts.map .str)] P := by
  refine ol_perm (cls_call (fI := 137) rfl rfl rfl fun d A' h1 h2 h3 h4 => ?_)
  have R1 : ARoom (k + 1) A' := R.made h1 h2 h3 h4
  refine fn_callC (dbs := [("self", .obj aGr d), ("terminals", .list (ts.map .str))]) ⟨⟨_, _, _, rfl⟩, rfl, rfl, rfl, rfl, rfl, rfl, rfl, rfl, rfl, rfl, rfl, rfl⟩ R1.room ?_ rfl rfl ?_
  · intro s b vs T hb r
    obtain ⟨v1, _, rfl, r1, r⟩ := r.inv
    obtain ⟨v2, _, rfl, r2, r⟩ := r.inv
    cases r.inv0
    exact ⟨_, BindsTo.of_eq rfl, .cons r1 (.cons r2 .nil)⟩
  · intro L
    have hsl' := hsl
    try dsimp only
    walk_at "m"
    refine ev_listC ?_
    walk_at "m"
    intro pr
    try dsimp only
    walk_at "m"
    refine ev_dictC fun pn => ?_
    try dsimp only
    walk_at "m"
    refine ev_dictC fun pm => ?_
    try dsimp only
    walk_at "m"
    refine ev_dictC fun te => ?_
    try dsimp only
    walk_at "m"
    let Iv1 : PI ts := fun pre σ' => ∃ TT : List NE, TT.map (·.1) = pre ∧ (∀ e ∈ TT, e.2.2 = []) ∧ Sub σ'.ρ [("self", .obj aGr d), ("terminals", .list (ts.map .str))] ∧
      σ'.ω = TT.reverse.map cE ++ ((te, .dct (TT.map dE)) :: (pm, .dct []) :: (pn, .dct []) :: (pr, .lst [.none]) :: (d, .dct [("Productions", .raw (.ref pr)), ("Prodnames", .raw (.ref pn)), ("Prodmap", .raw (.ref pm)), ("Terminals", .raw (.ref te))]) :: σ.ω)
    refine ex_forP ts D.str Iv1 ?_ ?_ ?_ (fun _ => rfl)
    · refine src_of ?_
      walk_at "m"
      exact ⟨itb_list R1.hd, [], rfl, by simp, .cons rfl (.cons rfl .nil), rfl⟩
    · rintro pre x post ⟨ρ', ω'⟩ hsp ⟨TT, hk, he', hsub, hω⟩
      dsimp only at hsub hω
      subst hω
      refine Asg.sub hsub ?_
      refine asg_name rfl ?_
      try dsimp only
      walk_at "m"
      refine ev_listC (trl_nil ⟨Nat.le_of_ble_eq_true rfl, fun a => ?_⟩)
      try dsimp only
      walk_at "m"
      have hx : x ∉ TT.map (·.1) := by
        rw [hk]; intro z
        rw [hsp] at hn
        exact (List.nodup_append.mp hn).2.2 x z x (.head _) rfl
      refine ⟨_, _, _, _, rfl, rfl, .tail (Upd.skip _ .head), ?_, ?_⟩
      · have : (TT.map (·.1)).length ≤ ts.length := by rw [hk, hsp]; simp
        simp at this ⊢; omega
      · rw [put_new (dE_none hx)]
        walk_at "m"
        refine ⟨TT ++ [(x, a, [])], by simp [hk], ?_, .cons rfl (.cons rfl .nil), by simp [cE, dE]⟩
        intro e he2
        rcases List.mem_append.mp he2 with he2 | he2
        · exact he' e he2
        · rw [List.mem_singleton.mp he2]
    · rintro ⟨ρ', ω'⟩ ⟨TT, hk, he', hsub, hω⟩
      dsimp only at hsub hω
      subst hω
      refine TrF.sub hsub ?_
      walk_at "m"
      refine ev_listC (trl_nil ⟨Nat.le_of_ble_eq_true rfl, fun er => ?_⟩)
      try dsimp only
      walk_at "m"
      have hx : ("error" : Str) ∉ TT.map (·.1) := by rw [hk]; exact he
      refine ⟨_, _, _, _, rfl, rfl, .tail (Upd.skip _ .head), ?_, ?_⟩
      · have : (TT.map (·.1)).length ≤ ts.length := by rw [hk]; simp
        simp at this ⊢; omega
      rw [put_new (dE_none hx)]
      try dsimp only
      walk_at "m"
      refine ev_dictC fun no => ?_
      try dsimp only
      walk_at "m"
      refine ev_dictC fun fi => ?_
      try dsimp only
      walk_at "m"
      refine ev_dictC fun fo => ?_
      try dsimp only
      walk_at "m"
      refine ev_dict0 ?_
      walk_at "m"
      refine ev_callT0 (ev_blt rfl (by boot_fast) (by decide) rfl ⟨rfl, ol_set0 fun us => ?_⟩ rfl) rfl
      walk_at "m"
      refine ⟨rfl, _, perm_of_count ?_, pp ⟨d, pr, pn, pm, te, no, fi, fo, us⟩ (TT ++ [(("error" : Str), er, [])]) (by simp [hk]) ?_⟩
      · intro x
        simp only [ωG, selfD, List.map_append, List.map_cons, List.map_nil, List.map_reverse, List.count_cons, List.count_append, List.count_reverse, List.count_nil, dE, cE, List.append_nil, List.nil_append]
        omega
      · intro e he2
        rcases List.mem_append.mp he2 with he2 | he2
        · exact he' e he2
        · rw [List.mem_singleton.mp he2]
end

section
variable {w : World} {mg mb : Str → Option Value} {fr : List Env} {A : Around} {env : Env} {σ : Sg} {P : D → Sg → Prop} {Q : Fl → Sg → Prop}
theorem exs_cut {X : Cx} {st : Stmt} {rest : List Stmt} (I : Sg → Prop) (h1 : Ex X A env σ st (fun f σ' => f = .next ∧ I σ')) (h2 : ∀ σ', I σ' → Exs X A env σ' rest Q) : Exs X A env σ (st :: rest) Q :=
  exs_cons (TrF.mono h1 fun f σ' ⟨hf, hi⟩ => by subst hf; exact h2 σ' hi)
theorem quote_occ : ∀ c ∈ symCodes, (Builtin.Str.occurrences ("'\"" : Str) (symS c) 0 ("'\"" : Str).length 1).isEmpty = true := by decide +kernel
theorem not_prec : ∀ c ∈ symCodes, (symS c == ("%prec" : Str)) = false := by decide +kernel
theorem not_error : ∀ c ∈ symCodes, (symS c == ("error" : Str)) = false := by decide +kernel
theorem precOk : PyData.strOk ("%prec" : Str) = true := by decide +kernel
theorem errorOk : PyData.strOk ("error" : Str) = true := by decide +kernel

set_option maxHeartbeats 4000000
theorem addp_ok {g : GA} {ts : List Str} {qs : List CPr} {q : CPr} {TT NT PN : List NE} {ω : Om} {k : Nat} (R : ARoom (k + 4) A) (FR : A.frames = some fr) (hts : ts.Nodup)
    (hw : σ.ω = ωG g (.none :: psD aProd (qs.map gpr)) (pmD aProd (qs.map gpr)) TT NT PN ω) (G : GN ts (qs.map gpr) (20 * qs.length) TT NT) (GQ : GP aProd (qs.map gpr) PN)
    (hq : q.ok) (hqs : ∀ x ∈ qs, x.ok) (hnt : symS q.1 ∉ ts) (hlen : q.2.length ≤ 20) (hl2 : qs.length ≤ 1000) (hl3 : ts.length ≤ 1000) (hl4 : NT.length ≤ 1000) (hl5 : PN.length ≤ 1000) (hnew : q ∉ qs)
    (pp : ∀ TT' NT' PN', GN ts ((qs ++ [q]).map gpr) (20 * (qs ++ [q]).length) TT' NT' → GP aProd ((qs ++ [q]).map gpr) PN' → P .none ⟨σ.ρ, ωG g (.none :: psD aProd ((qs ++ [q]).map gpr)) (pmD aProd ((qs ++ [q]).map gpr)) TT' NT' PN' ω⟩) :
    OpL (X3 w mg mb fr) A env σ (fun vs => call (.ref 166) vs) [.obj aGr g.d, .str (symS q.1), .list ((q.2.map symS).map .str)] P := by
  refine ol_perm ?_
  refine fn_call (dbs := [("self", .obj aGr g.d), ("prodname", .str (symS q.1)), ("syms", .list ((q.2.map symS).map .str)), ("func", .none), ("file", .str ""), ("line", .int 0)]) ⟨⟨_, _, _, rfl⟩, rfl, rfl, rfl, rfl, rfl, rfl, rfl, rfl, rfl, rfl, rfl, rfl⟩ R.room ?_ rfl rfl ?_
  · intro s b vs T hb r
    obtain ⟨v1, _, rfl, r1, r⟩ := r.inv
    obtain ⟨v2, _, rfl, r2, r⟩ := r.inv
    obtain ⟨v3, _, rfl, r3, r⟩ := r.inv
    cases r.inv0
    exact ⟨_, binds_K (T.inK.keeps hb) rfl rfl rfl rfl rfl, .cons r1 (.cons r2 (.cons r3 (.cons .none (.cons (.str ..) (.cons (.int ..) .nil)))))⟩
  · intro L
    have hsl' := hsl
    have R' : ∀ e, ARoom (k + 3) (A.deeper e) := fun e => R.deeper
    try dsimp only
    rw [hw]
    unfold ωG
    have hk : ∀ c ∈ q.2, c ∈ symCodes := hq.2
    walk_at "m"
    refine op_din (.cell (by walk_at "mem")) (ob_bool (ite_f (by rw [dE_isSome, G.tk]; simpa using hnt) ?_))
    walk_at "m"
    refine op_eq (n := 0) (R' _) (sym_strOk _ hq.1) errorOk (by decide) (ob_bool (ite_f (not_error _ hq.1) ?_))
    walk_at "m"
    refine ev_callO (ev_glob (v := .ref 39) rfl (fun _ _ => .raw _) rfl ⟨rfl, ?_⟩ rfl) rfl rfl rfl rfl
    walk_at "m"
    refine ident_ok (R' _) hq.1 (ob_bool (ite_f rfl ?_))
    walk_at "m"
    -- the symbols
    refine ex_forL (q.2.map symS).zipIdx (fun p => .tup [.int (p.2 : Nat), .str p.1]) (fun pre => [("self", .obj aGr g.d), ("prodname", .str (symS q.1)), ("syms", .list ((q.2.map symS).map .str)), ("func", .none), ("file", .str ""), ("line", .int 0)]) (fun _ => ωG g (.none :: psD aProd (qs.map gpr)) (pmD aProd (qs.map gpr)) TT NT PN ω) ?_ ?_ ?_ (fun _ => rfl)
    · rw [← enumD_map]
      exact src_enum R.hd (ev_blt rfl (by boot_fast) (by decide) rfl ⟨rfl, ev_var rfl rfl ⟨rfl, .cons rfl (.cons rfl (.cons rfl (.cons rfl (.cons rfl (.cons rfl .nil))))), rfl⟩ rfl rfl⟩ rfl) rfl rfl
    · rintro pre ⟨s, i⟩ post e
      obtain ⟨c, hc, rfl⟩ : ∃ c ∈ q.2, symS c = s := by
        have h1 : (s, i) ∈ (q.2.map symS).zipIdx := by rw [e]; simp
        have h2 := List.mem_map_of_mem (f := (·.1)) h1
        simpa using h2
      refine asg_tup2 R.hd rfl rfl ?_
      try dsimp only
      walk_at "m"
      refine ev_sub ?_
      walk_at "m"
      refine op_stritem (c := c) (by decide) (by decide) rfl ?_ (fun _ _ => rfl) (fun _ _ => rfl)
      walk_at "m"
      refine op_instr (ob_bool (ite_f (by rw [show (⟨#[c]⟩ : Str) = symS c from rfl, quote_occ c (hk c hc)]; rfl) ?_))
      walk_at "m"
      refine ev_callO (ev_glob (v := .ref 39) rfl (fun _ _ => .raw _) rfl ⟨rfl, ?_⟩ rfl) rfl rfl rfl rfl
      walk_at "m"
      refine ident_ok (R' _) (hk c hc) (ob_bool (ite_f rfl (ite_f rfl ?_)))
      walk_at "m"
      exact ⟨.cons rfl (.cons rfl (.cons rfl (.cons rfl (.cons rfl (.cons rfl .nil))))), rfl⟩
    · unfold ωG
      refine exs_nil ?_
      try dsimp only
      refine exs_cut (fun σ' => Sub σ'.ρ [("prodprec", .tup [.str "right", .int 0]), ("self", .obj aGr g.d), ("prodname", .str (symS q.1)), ("syms", .list ((q.2.map symS).map .str)), ("func", .none), ("file", .str ""), ("line", .int 0)] ∧ σ'.ω = ωG g (.none :: psD aProd (qs.map gpr)) (pmD aProd (qs.map gpr)) TT NT PN ω) ?_ ?_
      · walk_at "m"
        refine op_in (n := 0) (R' _) .data precOk (ok_strs (by intro s hs; obtain ⟨c, hc, rfl⟩ := List.mem_map.mp hs; exact sym_strOk c (hk c hc)) 0) (by decide) (ob_bool (ite_f ?_ ?_))
        · rw [any_str, List.any_eq_false]
          intro s hs
          obtain ⟨c, hc, rfl⟩ := List.mem_map.mp hs
          rw [not_prec c (hk c hc)]; simp
        walk_at "m"
        refine ev_callO (ev_glob (v := .ref 111) rfl (fun _ _ => .raw _) rfl ⟨rfl, ?_⟩ rfl) rfl rfl rfl rfl
        walk_at "m"
        refine right_ok (R' _) (by simp; omega) (by walk_at "mem") (fun s => ?_) ?_
        · walk_at "m"
          refine ev_meth (T := "dict") (id := "dict.get") ?_ F.plainAttrs_dict F.slot_dict_get F.type_dict_get rfl rfl rfl rfl rfl
          walk_at "m"
          refine ⟨isTy_dct .data, ?_⟩
          walk_at "m"
          refine ol_get .data ?_
          walk_at "m"
          exact ⟨rfl, .cons rfl (.cons rfl (.cons rfl (.cons rfl (.cons rfl (.cons rfl (.cons rfl .nil)))))), rfl⟩
        · walk_at "m"
          refine ev_meth (T := "dict") (id := "dict.get") ?_ F.plainAttrs_dict F.slot_dict_get F.type_dict_get rfl rfl rfl rfl rfl
          walk_at "m"
          refine ⟨isTy_dct .data, ?_⟩
          walk_at "m"
          refine ol_getN .data ?_
          walk_at "m"
          exact ⟨rfl, .cons rfl (.cons rfl (.cons rfl (.cons rfl (.cons rfl (.cons rfl (.cons rfl .nil)))))), rfl⟩
      rintro ⟨ρ', ω'⟩ ⟨hsub, hω⟩
      dsimp only at hsub hω
      subst hω
      refine TrF.sub hsub ?_
      clear hsub ρ'
      have hstr : ∀ s ∈ q.2.map symS, PyData.strOk s = true := by intro s hs; obtain ⟨c, hc, rfl⟩ := List.mem_map.mp hs; exact sym_strOk c (hk c hc)
      have hsh := shownS_len hk
      have harr : (PySem.Str.ofString " -> ").length = 4 := by decide +kernel
      unfold ωG
      walk_at "m"
      refine ev_joined (trj_cons (ev_fmt_str ?_) rfl)
      walk_at "m"
      refine ⟨_, rfl, by rw [sym_len]; omega, _, rfl, ?_, trj_cons (ev_str ⟨_, rfl, ?_, trj_cons (ev_fmt_list (R' _) ?_) rfl⟩) rfl⟩
      · rw [empty_app', sym_len]; omega
      · rw [empty_app', PySem.Str.length_append, sym_len]; omega
      walk_at "m"
      refine ⟨_, rfl, ok_strs hstr 4, by omega, _, rfl, ?_, trj_nil ⟨?_, ?_⟩⟩
      · rw [empty_app', PySem.Str.length_append, PySem.Str.length_append, sym_len]; omega
      · rw [empty_app', PySem.Str.length_append, PySem.Str.length_append, sym_len]; omega
      rw [empty_app']
      have hmap : symS q.1 ++ PySem.Str.ofString " -> " ++ shownS (q.2.map symS) = mapS (gpr q) := rfl
      rw [hmap]
      have hnone : (pmD aProd (qs.map gpr)).lookup (mapS (gpr q)) = none := pmD_none (by
        intro x hx z
        obtain ⟨y, hy, rfl⟩ := List.mem_map.mp hx
        exact hnew (mapS_inj (hqs y hy) hq z ▸ hy))
      walk_at "m"
      refine op_din (.cell (by walk_at "mem")) (ob_bool (ite_f (by rw [hnone]; rfl) ?_))
      walk_at "m"
      refine ev_callB (ev_blt rfl (by boot_fast) (by decide) rfl ⟨rfl, ?_⟩ rfl) rfl rfl rfl
      walk_at "m"
      have hpsl : (psD aProd (qs.map gpr)).length = qs.length := by simp [psD]
      refine ol_len (.cell (by walk_at "mem")) (by simp [hpsl]; omega) ?_
      have hnum : (((D.none :: psD aProd (qs.map gpr)).length : Nat) : Int) = ((qs.length + 1 : Nat) : Int) := by simp [hpsl]
      rw [hnum]
      try dsimp only
      have hN : ∀ {NT' : List NE} {m : Nat} {ps : List GPr}, GN ts ps m TT NT' → True := fun _ => trivial
      -- the name
      refine exs_cut (fun σ' => EA14 (fun NT' => GN ts (qs.map gpr ++ [(symS q.1, [])]) (20 * qs.length) TT NT') (fun NT' => NT'.length ≤ 1001) (fun NT' => Sub σ'.ρ [("pnumber", .int ((qs.length + 1 : Nat) : Int)), ("map", .str (mapS (gpr q))), ("prodprec", .tup [.str "right", .int 0]), ("self", .obj aGr g.d), ("prodname", .str (symS q.1)), ("syms", .list ((q.2.map symS).map .str)), ("func", .none), ("file", .str ""), ("line", .int 0)]) (fun NT' => (ωG g (.none :: psD aProd (qs.map gpr)) (pmD aProd (qs.map gpr)) TT NT' PN ω).Perm σ'.ω)) ?_ ?_
      · walk_at "m"
        refine op_dnotin (.cell (by walk_at "mem")) (ob_bool ?_)
        rw [dE_isSome]
        by_cases hin : symS q.1 ∈ NT.map (·.1)
        · refine ite_f (by simp [hin]) ?_
          walk_at "m"
          exact ⟨rfl, NT, G.declOld hin, by omega, .cons rfl (.cons rfl (.cons rfl (.cons rfl (.cons rfl (.cons rfl (.cons rfl (.cons rfl (.cons rfl .nil)))))))), .refl _⟩
        · refine ite_t (by simp [hin]) ?_
          walk_at "m"
          refine ev_listC (trl_nil ⟨Nat.le_of_ble_eq_true rfl, fun a => ?_⟩)
          try dsimp only
          walk_at "m"
          refine ⟨_, _, _, _, rfl, rfl, (by walk_at "upd"), by simp; omega, ?_⟩
          rw [put_new (dE_none hin)]
          walk_at "m"
          refine ⟨rfl, NT ++ [(symS q.1, a, [])], G.declNew hin hnt, by simp; omega, .cons rfl (.cons rfl (.cons rfl (.cons rfl (.cons rfl (.cons rfl (.cons rfl (.cons rfl (.cons rfl .nil)))))))), (by unfold ωG; rw [List.map_append, List.map_append]; exact pinB (p := [_, _, _, _, _, _, _, _]))⟩
      rintro ⟨ρ', ω'⟩ ⟨NT1, G1, hl1, hsub, hperm⟩
      dsimp only at hsub hperm
      refine TrF.sub hsub (trF_perm hperm ?_)
      clear hsub hperm
      -- the symbols
      let Iv1 : PI (q.2.map symS) := fun pre σ' => EA24 (fun TT' NT' => GN ts (qs.map gpr ++ [(symS q.1, pre)]) (20 * qs.length + pre.length) TT' NT') (fun TT' NT' => NT'.length ≤ 1001 + pre.length) (fun TT' NT' => Sub σ'.ρ [("pnumber", .int ((qs.length + 1 : Nat) : Int)), ("map", .str (mapS (gpr q))), ("prodprec", .tup [.str "right", .int 0]), ("self", .obj aGr g.d), ("prodname", .str (symS q.1)), ("syms", .list ((q.2.map symS).map .str)), ("func", .none), ("file", .str ""), ("line", .int 0)]) (fun TT' NT' => (ωG g (.none :: psD aProd (qs.map gpr)) (pmD aProd (qs.map gpr)) TT' NT' PN ω).Perm σ'.ω)
      refine exs_cons (ex_forP (q.2.map symS) D.str Iv1 ?_ ?_ ?_ (fun _ => rfl))
      · refine src_of ?_
        walk_at "m"
        exact ⟨itb_list R.hd, TT, NT1, G1, by simpa using hl1, .cons rfl (.cons rfl (.cons rfl (.cons rfl (.cons rfl (.cons rfl (.cons rfl (.cons rfl (.cons rfl .nil)))))))), .refl _⟩
      · rintro pre t post ⟨ρ', ω'⟩ hsp ⟨TT', NT', G', hl', hsub, hperm⟩
        dsimp only at hsub hperm
        refine Asg.sub hsub (asg_perm hperm ?_)
        clear hsub hperm
        have hpl : pre.length < q.2.length := by
          have := congrArg List.length hsp
          simp at this; omega
        have htl : ∀ e ∈ TT', e.2.2.length ≤ sizeLine := fun e he => by have := G'.tl e he; omega
        have hnl : ∀ e ∈ NT', e.2.2.length ≤ sizeLine := fun e he => by have := G'.nl e he; omega
        refine asg_name rfl ?_
        unfold ωG
        try dsimp only
        walk_at "m"
        refine op_din (.cell (by walk_at "mem")) (ob_bool ?_)
        rw [dE_isSome, G'.tk]
        by_cases hin : t ∈ ts
        · refine ite_t (by simp [hin]) ?_
          obtain ⟨a, l, h1, h2, h3⟩ := appE_upd (k := t) (.int ((qs.length + 1 : Nat) : Int)) (NT'.map cE ++ (PN.map cE ++ ω)) (L := TT') (by rw [G'.tk]; exact hin)
          walk_at "m"
          refine ev_meth (T := "list") (id := "list.append") ?_ F.plainAttrs_list F.slot_list_append F.type_list_append rfl rfl rfl rfl rfl
          refine ev_sub ?_
          walk_at "m"
          refine op_dget (.cell (by walk_at "mem")) h1 ?_ (fun _ _ => rfl)
          refine ⟨isTy_lst (.cell (.tail _ (.tail _ (.tail _ (.tail _ (.tail _ (.tail _ (.tail _ (.tail _ h3.mem))))))))), ?_⟩
          walk_at "m"
          refine ol_append (.tail (.tail (.tail (.tail (.tail (.tail (.tail (.tail h3)))))))) (htl _ h2) ⟨rfl, ?_⟩
          walk_at "m"
          refine ⟨appE t (.int ((qs.length + 1 : Nat) : Int)) TT', NT', ?_, by simp; omega, .cons rfl (.cons rfl (.cons rfl (.cons rfl (.cons rfl (.cons rfl (.cons rfl (.cons rfl (.cons rfl .nil)))))))), .of_eq ?_⟩
          · have := G'.term (x := .int ((qs.length + 1 : Nat) : Int)) hts hin
            simpa [Nat.add_assoc] using this
          · (try unfold ωG); rw [appE_dE]
        · refine ite_f (by simp [hin]) ?_
          refine exs_cut (fun σ' => EA15 (fun NT2 => (t ∈ NT2.map (·.1) ∧ ∀ x, GN ts (qs.map gpr ++ [(symS q.1, pre ++ [t])]) (20 * qs.length + pre.length + 1) TT' (appE t x NT2))) (fun NT2 => (∀ e ∈ NT2, e.2.2.length ≤ sizeLine)) (fun NT2 => NT2.length ≤ 1001 + pre.length + 1) (fun NT2 => Sub σ'.ρ [("t", .str t), ("pnumber", .int ((qs.length + 1 : Nat) : Int)), ("map", .str (mapS (gpr q))), ("prodprec", .tup [.str "right", .int 0]), ("self", .obj aGr g.d), ("prodname", .str (symS q.1)), ("syms", .list ((q.2.map symS).map .str)), ("func", .none), ("file", .str ""), ("line", .int 0)]) (fun NT2 => (ωG g (.none :: psD aProd (qs.map gpr)) (pmD aProd (qs.map gpr)) TT' NT2 PN ω).Perm σ'.ω)) ?_ ?_
          · walk_at "m"
            refine op_dnotin (.cell (by walk_at "mem")) (ob_bool ?_)
            rw [dE_isSome]
            by_cases hin2 : t ∈ NT'.map (·.1)
            · refine ite_f (by simp [hin2]) ?_
              walk_at "m"
              exact ⟨rfl, NT', ⟨hin2, fun x => G'.nonOld hin hin2⟩, hnl, by omega, .cons rfl (.cons rfl (.cons rfl (.cons rfl (.cons rfl (.cons rfl (.cons rfl (.cons rfl (.cons rfl (.cons rfl .nil))))))))), .refl _⟩
            · refine ite_t (by simp [hin2]) ?_
              walk_at "m"
              refine ev_listC (trl_nil ⟨Nat.le_of_ble_eq_true rfl, fun a => ?_⟩)
              try dsimp only
              walk_at "m"
              refine ⟨_, _, _, _, rfl, rfl, (by walk_at "upd"), by simp; omega, ?_⟩
              rw [put_new (dE_none hin2)]
              walk_at "m"
              refine ⟨rfl, NT' ++ [(t, a, [])], ⟨by simp, fun x => G'.nonNew hin hin2⟩, ?_, by simp; omega, .cons rfl (.cons rfl (.cons rfl (.cons rfl (.cons rfl (.cons rfl (.cons rfl (.cons rfl (.cons rfl (.cons rfl .nil))))))))), (by unfold ωG; rw [List.map_append, List.map_append]; exact pinB (p := [_, _, _, _, _, _, _, _]))⟩
              · intro e he
                rcases List.mem_append.mp he with he | he
                · exact hnl e he
                · rw [List.mem_singleton.mp he]; simp
          rintro ⟨ρ', ω'⟩ ⟨NT2, ⟨hk2, G2⟩, hnl2, hl2', hsub, hperm⟩
          dsimp only at hsub hperm
          refine TrF.sub hsub (trF_perm hperm ?_)
          clear hsub hperm
          unfold ωG
          obtain ⟨a, l, h1, h2, h3⟩ := appE_upd (k := t) (.int ((qs.length + 1 : Nat) : Int)) (PN.map cE ++ ω) (L := NT2) hk2
          have h3' := h3.skip (TT'.map cE)
          walk_at "m"
          refine ev_meth (T := "list") (id := "list.append") ?_ F.plainAttrs_list F.slot_list_append F.type_list_append rfl rfl rfl rfl rfl
          refine ev_sub ?_
          walk_at "m"
          refine op_dget (.cell (by walk_at "mem")) h1 ?_ (fun _ _ => rfl)
          refine ⟨isTy_lst (.cell (.tail _ (.tail _ (.tail _ (.tail _ (.tail _ (.tail _ (.tail _ (.tail _ h3'.mem))))))))), ?_⟩
          walk_at "m"
          refine ol_append (.tail (.tail (.tail (.tail (.tail (.tail (.tail (.tail h3')))))))) (hnl2 _ h2) ⟨rfl, ?_⟩
          walk_at "m"
          refine ⟨TT', appE t (.int ((qs.length + 1 : Nat) : Int)) NT2, ?_, ?_, .cons rfl (.cons rfl (.cons rfl (.cons rfl (.cons rfl (.cons rfl (.cons rfl (.cons rfl (.cons rfl .nil)))))))), .of_eq ?_⟩
          · have := G2 (.int ((qs.length + 1 : Nat) : Int))
            simpa [Nat.add_assoc] using this
          · have := congrArg List.length (appE_keys t (.int ((qs.length + 1 : Nat) : Int)) NT2)
            simp at this ⊢; omega
          · (try unfold ωG); rw [appE_dE]
      · rintro ⟨ρ', ω'⟩ ⟨TT', NT', G', hl', hsub, hperm⟩
        dsimp only at hsub hperm
        refine TrF.sub hsub (trF_perm hperm ?_)
        clear hsub hperm
        unfold ωG
        refine exs_nil ?_
        try dsimp only
        walk_at "m"
        refine ev_callO (ev_glob (v := .ref aProd) rfl (fun _ _ => .raw _) rfl ⟨rfl, ?_⟩ rfl) rfl rfl rfl rfl
        walk_at "m"
        refine prod_call (p := gpr q) (k := k + 1) (R' _) (by simp [gpr]; omega) (fun s hs => ?_) (by simp [gpr, sym_len]) ?_
        · obtain ⟨c, hc, rfl⟩ := List.mem_map.mp hs
          exact ⟨by rw [sym_len]; decide, sym_strOk c (hk c hc)⟩
        have hpd : D.inst aProd (prodA ((qs.length + 1 : Nat) : Int) (gpr q)) = prodD aProd (gpr q, (qs.map gpr).length + 1) := by simp [prodD]
        rw [hpd]
        generalize hPD : prodD aProd (gpr q, (qs.map gpr).length + 1) = PD
        walk_at "m"
        refine ev_meth (T := "list") (id := "list.append") ?_ F.plainAttrs_list F.slot_list_append F.type_list_append rfl rfl rfl rfl rfl
        walk_at "m"
        refine ⟨isTy_lst (.cell (by walk_at "mem")), ?_⟩
        walk_at "m"
        refine ol_append (by walk_at "upd") (by simp [hpsl]; omega) ⟨rfl, ?_⟩
        try dsimp only
        walk_at "m"
        refine ⟨_, _, _, _, rfl, rfl, (by walk_at "upd"), by simp [pmD]; omega, ?_⟩
        rw [put_new hnone]
        try dsimp only
        refine exs_cons ?_
        by_cases hin : symS q.1 ∈ PN.map (·.1)
        · have hpl : ∀ e ∈ PN, e.2.2.length ≤ sizeLine := fun e he => by
            rw [GQ.pc e he]
            have h1 := List.length_filter_le (fun x : GPr × Nat => x.1.1 == e.1) ((qs.map gpr).zipIdx 1)
            simp at h1 ⊢; omega
          obtain ⟨a, l, h1, h2, h3⟩ := appE_upd (k := symS q.1) PD ω (L := PN) hin
          have h3' := (h3.skip (NT'.map cE)).skip (TT'.map cE)
          refine ex_try_ok ?_
          walk_at "m"
          refine ev_meth (T := "list") (id := "list.append") ?_ F.plainAttrs_list F.slot_list_append F.type_list_append rfl rfl rfl rfl rfl
          refine ev_sub ?_
          walk_at "m"
          refine op_dget (.cell (by walk_at "mem")) h1 ?_ (fun _ _ => rfl)
          refine ⟨isTy_lst (.cell (.tail _ (.tail _ (.tail _ (.tail _ (.tail _ (.tail _ (.tail _ (.tail _ h3'.mem))))))))), ?_⟩
          walk_at "m"
          refine ol_append (.tail (.tail (.tail (.tail (.tail (.tail (.tail (.tail h3')))))))) (hpl _ h2) ⟨rfl, ?_⟩
          walk_at "m"
          have hGN : GN ts ((qs ++ [q]).map gpr) (20 * (qs ++ [q]).length) TT' NT' := by
            rw [List.map_append, List.length_append]
            exact G'.more (by simp; omega)
          have hGP : GP aProd ((qs ++ [q]).map gpr) (appE (symS q.1) PD PN) := by
            rw [List.map_append, ← hPD]
            exact GP.old GQ hin
          refine ⟨_, .of_eq ?_, pp TT' NT' _ hGN hGP⟩
          simp only [ωG, List.map_append, List.map_cons, List.map_nil, psD_snoc, pmD_snoc, hPD, appE_dE, List.cons_append]
        · refine ex_try_miss (outer := fr) rfl ?_ R.hd ?_ rfl rfl rfl rfl (fun _ _ _ => rfl)
          · exact Around.frames_deeper FR
          walk_at "m"
          refine ⟨_, _, .cell (by walk_at "mem"), rfl, dE_none hin, rfl, fun v => ?_⟩
          walk_at "m"
          refine ev_listC ?_
          walk_at "m"
          intro a
          try dsimp only
          walk_at "m"
          refine ⟨_, _, _, _, rfl, rfl, (by walk_at "upd"), by simp; omega, ?_⟩
          rw [put_new (dE_none hin)]
          walk_at "m"
          have hGN : GN ts ((qs ++ [q]).map gpr) (20 * (qs ++ [q]).length) TT' NT' := by
            rw [List.map_append, List.length_append]
            exact G'.more (by simp; omega)
          have hGP : GP aProd ((qs ++ [q]).map gpr) (PN ++ [(symS q.1, a, [PD])]) := by
            rw [List.map_append, ← hPD]
            exact GP.new GQ hin
          refine ⟨_, perm_of_count ?_, pp TT' NT' _ hGN hGP⟩
          intro x
          simp only [ωG, List.map_append, List.map_cons, List.map_nil, psD_snoc, pmD_snoc, hPD, List.cons_append, List.count_cons, List.count_append, List.count_nil, dE, cE]
          omega
end

section
variable {w : World} {mg mb : Str → Option Value} {fr : List Env} {A : Around} {env : Env} {σ : Sg} {P : D → Sg → Prop} {Q : Fl → Sg → Prop}
theorem epsOk : PyData.strOk epsS = true := by decide +kernel
set_option maxHeartbeats 2000000
theorem first_ok {d : Addr} {sd kds : List (Str × D)} {fd : D} {lk : Str → List Str} {ss : List Str} {k : Nat} (R : ARoom (k + 1) A) (hs : (d, C.dct sd) ∈ σ.ω) (hsf : sd.lookup ("First" : Str) = some fd) (hh : handedD fd = true) (hd : Dct (X3 w mg mb fr) σ fd kds)
    (hx : ∀ x ∈ ss, ∃ dx, kds.lookup x = some dx ∧ Lst (X3 w mg mb fr) σ dx ((lk x).map .str) ∧ (lk x).length ≤ 100 ∧ ∀ s ∈ lk x, PyData.strOk s = true) (hz : ss.length ≤ 20) (p : P (.list ((firstF lk ss).map .str)) σ) :
    OpL (X3 w mg mb fr) A env σ (fun vs => call (.ref 223) vs) [.obj aGr d, .tup (ss.map .str)] P := by
  refine fn_call (dbs := [("self", .obj aGr d), ("beta", .tup (ss.map .str))]) ⟨⟨_, _, _, rfl⟩, rfl, rfl, rfl, rfl, rfl, rfl, rfl, rfl, rfl, rfl, rfl, rfl⟩ R.room ?_ rfl rfl ?_
  · intro s b vs T hb r
    obtain ⟨v1, _, rfl, r1, r⟩ := r.inv
    obtain ⟨v2, _, rfl, r2, r⟩ := r.inv
    cases r.inv0
    exact ⟨_, BindsTo.of_eq rfl, .cons r1 (.cons r2 .nil)⟩
  · intro L
    have hsl' := hsl
    have R' : ∀ e, ARoom k (A.deeper e) := fun e => R.deeper
    try dsimp only
    walk_at "m"
    refine ev_listC (trl_nil ⟨Nat.le_of_ble_eq_true rfl, fun a => ?_⟩)
    try dsimp only
    walk_at "m"
    have hgl : ∀ pre : List Str, (∀ y ∈ pre, y ∈ ss) → pre.length ≤ 20 → (gathF lk pre).length ≤ 2000 ∧ ∀ s ∈ gathF lk pre, PyData.strOk s = true := fun pre h1 h2 => by
      refine ⟨?_, fun s hm => ?_⟩
      · have := gathF_len (lk := lk) (m := 100) (pre := pre) fun x hx' => by obtain ⟨_, _, _, h, _⟩ := hx x (h1 x hx'); exact h
        omega
      · obtain ⟨x, hx', hm'⟩ := gathF_mem hm
        obtain ⟨_, _, _, _, h⟩ := hx x (h1 x hx')
        exact h s hm'
    refine ex_forP ss D.str (fun pre σ' => (∀ y ∈ pre, ((lk y).any fun z => z == epsS) = true) ∧ Sub σ'.ρ [("result", .raw (.ref a)), ("self", .obj aGr d), ("beta", .tup (ss.map .str))] ∧ σ'.ω = (a, .lst ((gathF lk pre).map .str)) :: σ.ω) ?_ ?_ ?_ (fun _ => rfl)
    · refine src_of ?_
      walk_at "m"
      exact ⟨itb_tup R.hd, by simp, .cons rfl (.cons rfl (.cons rfl .nil)), rfl⟩
    · rintro pre x post ⟨ρ', ω'⟩ hsp ⟨hI, hsub, hω⟩
      dsimp only at hsub hω
      subst hω
      refine Asg.sub hsub (asg_name rfl ?_)
      clear hsub
      obtain ⟨dx, h1, h2, h3, h4⟩ := hx x (by rw [hsp]; simp)
      have hpre := hgl pre (fun y hy => by rw [hsp]; simp [hy]) (by have := congrArg List.length hsp; simp at this; omega)
      have hfin : firstF lk ss = firstG lk (gathF lk pre) (x :: post) := by
        unfold firstF
        rw [hsp, firstG_pre hI]; rfl
      have hsn : gathF lk (pre ++ [x]) = (lk x).foldl addF (gathF lk pre) := gathF_snoc lk pre x
      generalize gathF lk pre = acc at hpre hfin hsn ⊢
      try dsimp only
      walk_at "m"
      refine ex_forC dx (lk x) D.str (fun pre2 σ' => Sub σ'.ρ [("x_produces_empty", .bool (pre2.any fun z => z == epsS)), ("x", .str x), ("result", .raw (.ref a)), ("self", .obj aGr d), ("beta", .tup (ss.map .str))] ∧ σ'.ω = (a, .lst ((pre2.foldl addF acc).map .str)) :: σ.ω) R.hd ?_ ?_ ?_ ?_ (fun _ => rfl)
      · refine ev_sub ?_
        refine ev_attr (ev_var rfl rfl ⟨_, _, _, .cell (.tail _ hs), rfl, hsf, hh, ?_⟩ rfl rfl) rfl
        walk_at "m"
        refine op_dget (hd.to fun p hp => .tail _ hp) h1 ⟨rfl, ?_, rfl⟩ (fun _ _ => rfl)
        exact .cons rfl (.cons rfl (.cons rfl (.cons rfl (.cons rfl .nil))))
      · rintro pre2 σ' ⟨_, hω⟩
        exact h2.to fun p hp => by rw [hω]; exact .tail _ hp
      · rintro pre2 f post2 ⟨ρ', ω'⟩ hsp2 ⟨hsub, hω⟩
        dsimp only at hsub hω
        subst hω
        refine Asg.sub hsub (asg_name rfl ?_)
        clear hsub
        have hf : PyData.strOk f = true := h4 f (by rw [hsp2]; simp)
        have hl2 : pre2.length ≤ 100 := by have := congrArg List.length hsp2; simp at this; omega
        have hacc2 : (pre2.foldl addF acc).length ≤ 3000 ∧ ∀ s ∈ pre2.foldl addF acc, PyData.strOk s = true := by
          refine ⟨by have := foldF_len pre2 acc; omega, fun s hm => ?_⟩
          rcases mem_foldF.mp hm with hm | ⟨hm, _⟩
          · exact hpre.2 s hm
          · exact h4 s (by rw [hsp2]; simp [hm])
        have hst : (pre2 ++ [f]).foldl addF acc = addF (pre2.foldl addF acc) f := by simp
        have hsa : ((pre2 ++ [f]).any fun z => z == epsS) = ((pre2.any fun z => z == epsS) || (f == epsS)) := by simp
        rw [hst, hsa]
        generalize pre2.foldl addF acc = acc2 at hacc2 ⊢
        try dsimp only
        walk_at "m"
        refine op_eq (n := 0) (R' _) hf epsOk (by decide) (ob_bool (ite_b (fun h5 => ?_) (fun h5 => ?_)))
        · have h5 : (f == epsS) = true := h5
          have h6 : addF acc2 f = acc2 := by unfold addF; rw [if_pos h5]
          rw [h6]
          walk_at "m"
          refine ⟨.cons ?_ (.cons rfl (.cons rfl (.cons rfl (.cons rfl .nil)))), rfl⟩
          rw [h5, Bool.or_true]; rfl
        · have h5 : (f == epsS) = false := h5
          rw [h5, Bool.or_false]
          walk_at "m"
          refine op_notin (n := 0) (R' _) (.cell (by walk_at "mem")) hf (ok_strs hacc2.2 0) (by decide) (ob_bool (ite_b (fun h6 => ?_) (fun h6 => ?_)))
          · rw [any_str] at h6
            have h7 : addF acc2 f = acc2 ++ [f] := by
              unfold addF
              rw [if_neg (by rw [h5]; simp), if_neg (by intro z; rw [z] at h6; cases h6)]
            rw [h7]
            walk_at "m"
            refine ev_meth (T := "list") (id := "list.append") ?_ F.plainAttrs_list F.slot_list_append F.type_list_append rfl rfl rfl rfl rfl
            walk_at "m"
            refine ⟨isTy_lst (.cell (by walk_at "mem")), ?_⟩
            walk_at "m"
            refine ol_append .head (by simp; omega) ⟨rfl, ?_⟩
            walk_at "m"
            exact ⟨.cons rfl (.cons rfl (.cons rfl (.cons rfl (.cons rfl .nil)))), by simp⟩
          · rw [any_str] at h6
            have h7 : addF acc2 f = acc2 := by
              unfold addF
              rw [if_neg (by rw [h5]; simp), if_pos (by simpa using h6)]
            rw [h7]
            walk_at "m"
            exact ⟨.cons rfl (.cons rfl (.cons rfl (.cons rfl (.cons rfl .nil)))), rfl⟩
      · rintro ⟨ρ', ω'⟩ ⟨hsub, hω⟩
        dsimp only at hsub hω
        subst hω
        refine TrF.sub hsub ?_
        clear hsub
        walk_at "m"
        refine ob_bool (ite_b (fun h5 => ?_) (fun h5 => ?_))
        · walk_at "m"
          refine ⟨?_, .cons rfl (.cons rfl (.cons rfl .nil)), by rw [hsn]⟩
          intro y hy
          rcases List.mem_append.mp hy with hy | hy
          · exact hI y hy
          · rw [List.mem_singleton.mp hy]; exact h5
        · refine exs_cons (ex_brk ?_)
          refine exs_cons (ex_ret (tr_freeze ?_))
          walk_at "m"
          refine ⟨a, _, _, rfl, rfl, ?_⟩
          have : firstF lk ss = (lk x).foldl addF acc := by rw [hfin, firstG, if_neg (by rw [h5]; simp)]
          rw [← this]; exact p
    · rintro ⟨ρ', ω'⟩ ⟨hI, hsub, hω⟩
      dsimp only at hsub hω
      subst hω
      refine TrF.sub hsub ?_
      clear hsub
      have hpre := hgl ss (fun y hy => hy) hz
      have hfin : firstF lk ss = gathF lk ss ++ [epsS] := by
        have := firstG_pre (a := []) (post := []) hI
        rw [List.append_nil] at this
        unfold firstF
        rw [this]; rfl
      generalize gathF lk ss = acc at hpre hfin ⊢
      walk_at "m"
      refine ev_meth (T := "list") (id := "list.append") ?_ F.plainAttrs_list F.slot_list_append F.type_list_append rfl rfl rfl rfl rfl
      walk_at "m"
      refine ⟨isTy_lst (.cell (by walk_at "mem")), ?_⟩
      walk_at "m"
      refine ol_append .head (by simp; omega) ⟨rfl, ?_⟩
      refine exs_nil ?_
      refine exs_cons (ex_ret (tr_freeze ?_))
      walk_at "m"
      refine ⟨a, _, _, rfl, rfl, ?_⟩
      rw [hfin] at p
      simpa [epsS] using p
end

section
variable {w : World} {mg mb : Str → Option Value} {fr : List Env} {A : Around} {env : Env} {σ : Sg} {P : D → Sg → Prop} {Q : Fl → Sg → Prop}
theorem FD_term {ts : List Str} {FN : List FE} {t : Str} (h : t ∈ ts) : (FD ts FN).lookup t = some (.list [.str t]) := tD_lookup (by simp [h])
theorem FD_name {ts : List Str} {FN : List FE} {n : Str} (h : n ∉ ts) (h' : n ≠ "$end") : (FD ts FN).lookup n = (FN.map dF).lookup n := by
  unfold FD
  exact lookup_app_none (by rw [tD_keys]; simp [h, h'])
/-- what one sweep has done -/
structure SW (FN FN' : List FE) (c : Bool) (cond : Prop) : Prop where
  le : totF FN ≤ totF FN'
  no : c = false → FN' = FN ∧ cond
  yes : c = true → totF FN < totF FN'
theorem ne_beq {a b : Str} (h : a ≠ b) : (a == b) = false := by simpa using h
theorem endOk : PyData.strOk ("$end" : Str) = true := by decide +kernel
theorem cfirst_ok {d fi fo : Addr} {pl pm us st : D} {pn te no : List (Str × D)} {ts ns : List Str} {qsOf : Str → List (GPr × Nat)} {Snd : Str → Str → Prop} {U : List Str} {k : Nat} {ρ : List (Str × D)} {ω : Om} (R : ARoom (k + 2) A)
    (hte : te.map (·.1) = ts) (hno : no.map (·.1) = ns) (hts : ts.Nodup) (hend : ("$end" : Str) ∉ ts) (hns : ns.Nodup) (hdis : ∀ n ∈ ns, n ∉ ts ∧ n ≠ "$end")
    (hpn : ∀ n ∈ ns, pn.lookup n = some (.list ((qsOf n).map (prodD aProd)))) (hq : ∀ n ∈ ns, ∀ q ∈ qsOf n, q.1.2.length ≤ 20 ∧ ∀ s ∈ q.1.2, s ∈ ts ∨ s ∈ ns)
    (hU : ∀ n f, Snd n f → f ∈ U) (hUl : U.length ≤ 100) (hUo : ∀ f ∈ U, PyData.strOk f = true) (hto : ∀ t ∈ ts, PyData.strOk t = true)
    (hcl : ∀ FN, FGood ns Snd FN → ∀ n ∈ ns, ∀ q ∈ qsOf n, ∀ f ∈ firstF (lkF FN) q.1.2, Snd n f) (htl : ts.length ≤ 1000) (hnl : ns.length ≤ 1000)
    (p : ∀ FN, FGood ns Snd FN → (∀ n ∈ ns, ∀ q ∈ qsOf n, ∀ f ∈ firstF (lkF FN) q.1.2, f ∈ lkF FN n) →
      P (.raw (.ref fi)) ⟨ρ, (d, .dct (selfF pl (.dct pn) pm (.dct te) (.dct no) (.raw (.ref fi)) (.raw (.ref fo)) us st)) :: (fi, .dct (FD ts FN)) :: (fo, .dct []) :: (FN.map cF ++ ω)⟩) :
    OpL (X3 w mg mb fr) A env ⟨ρ, (d, .dct (selfF pl (.dct pn) pm (.dct te) (.dct no) (.raw (.ref fi)) (.raw (.ref fo)) us st)) :: (fi, .dct []) :: (fo, .dct []) :: ω⟩ (fun vs => call (.ref 230) vs) [.obj aGr d] P := by
  refine ol_perm ?_
  refine fn_call (dbs := [("self", .obj aGr d)]) ⟨⟨_, _, _, rfl⟩, rfl, rfl, rfl, rfl, rfl, rfl, rfl, rfl, rfl, rfl, rfl, rfl⟩ R.room ?_ rfl rfl ?_
  · intro s b vs T hb r
    obtain ⟨v1, _, rfl, r1, r⟩ := r.inv
    cases r.inv0
    exact ⟨_, BindsTo.of_eq rfl, .cons r1 .nil⟩
  · intro L
    have hsl' := hsl
    have R' : ∀ e, ARoom (k + 1) (A.deeper e) := fun e => R.deeper
    try dsimp only
    walk_at "m"
    refine ob_dict (.cell (by walk_at "mem")) (by decide) (ite_f rfl (exs_nil ?_))
    -- the terminals
    let Iv1 : PI ts := fun pre σ' => Sub σ'.ρ [("self", .obj aGr d)] ∧ σ'.ω = (d, .dct (selfF pl (.dct pn) pm (.dct te) (.dct no) (.raw (.ref fi)) (.raw (.ref fo)) us st)) :: (fi, .dct (pre.map tD)) :: (fo, .dct []) :: ω
    refine exs_cons (ex_forP ts D.str Iv1 ?_ ?_ ?_ (fun _ => rfl))
    · refine src_of ?_
      walk_at "m"
      refine ⟨?_, .cons rfl .nil, rfl⟩
      have : ts.map D.str = te.map (fun p => D.str p.1) := by rw [← hte, List.map_map]; rfl
      rw [this]
      exact itb_dct R.hd
    · rintro pre t post ⟨ρ', ω'⟩ hsp ⟨hsub, hω⟩
      dsimp only at hsub hω
      subst hω
      refine Asg.sub hsub (asg_name rfl ?_)
      clear hsub
      have hpl : pre.length ≤ 1000 := by have := congrArg List.length hsp; simp at this; omega
      have hnt : t ∉ pre := by
        rw [hsp, List.nodup_append] at hts
        intro z
        exact hts.2.2 t z t (.head _) rfl
      try dsimp only
      walk_at "m"
      refine ev_list ?_
      walk_at "m"
      refine ⟨_, _, _, _, rfl, rfl, (by walk_at "upd"), by simp; omega, ?_⟩
      rw [put_new (lookup_none_of (by rw [tD_keys]; exact hnt))]
      walk_at "m"
      exact ⟨.cons rfl .nil, by simp [tD]⟩
    rintro ⟨ρ', ω'⟩ ⟨hsub, hω⟩
    dsimp only at hsub hω
    subst hω
    refine TrF.sub hsub ?_
    clear hsub
    refine exs_nil ?_
    walk_at "m"
    refine ev_list ?_
    walk_at "m"
    refine ⟨_, _, _, _, rfl, rfl, (by walk_at "upd"), by simp; omega, ?_⟩
    rw [put_new (lookup_none_of (by rw [tD_keys]; exact hend))]
    have hFD0 : ts.map tD ++ [(("$end" : Str), D.list [.str ("$end" : Str)])] = FD ts [] := by simp [FD, tD]
    rw [hFD0]
    -- the names
    let Iv2 : PI ns := fun pre σ' => EA14 (fun FN => FN.map (·.1) = pre) (fun FN => (∀ e ∈ FN, e.2.2 = [])) (fun FN => Sub σ'.ρ [("self", .obj aGr d)]) (fun FN => ((d, .dct (selfF pl (.dct pn) pm (.dct te) (.dct no) (.raw (.ref fi)) (.raw (.ref fo)) us st)) :: (fi, C.dct (FD ts FN)) :: (fo, .dct []) :: (FN.map cF ++ ω)).Perm σ'.ω)
    refine exs_cons (ex_forP ns D.str Iv2 ?_ ?_ ?_ (fun _ => rfl))
    · refine src_of ?_
      walk_at "m"
      refine ⟨?_, [], rfl, by simp, .cons rfl .nil, .refl _⟩
      have : ns.map D.str = no.map (fun p => D.str p.1) := by rw [← hno, List.map_map]; rfl
      rw [this]
      exact itb_dct R.hd
    · rintro pre n post ⟨ρ', ω'⟩ hsp ⟨FN, hk, he, hsub, hperm⟩
      dsimp only at hsub hperm
      refine Asg.sub hsub (asg_perm hperm (asg_name rfl ?_))
      clear hsub hperm
      have hpl : pre.length ≤ 1000 := by have := congrArg List.length hsp; simp at this; omega
      have hnt : n ∉ pre := by
        rw [hsp, List.nodup_append] at hns
        intro z
        exact hns.2.2 n z n (.head _) rfl
      have hn : n ∈ ns := by rw [hsp]; simp
      have hlen : FN.length ≤ 1000 := by have := congrArg List.length hk; simp at this; omega
      try dsimp only
      walk_at "m"
      refine ev_listC (trl_nil ⟨Nat.le_of_ble_eq_true rfl, fun a => ?_⟩)
      try dsimp only
      walk_at "m"
      refine ⟨_, _, _, _, rfl, rfl, (by walk_at "upd"), by simp [FD]; omega, ?_⟩
      rw [put_new (by rw [FD_name (hdis n hn).1 (hdis n hn).2]; exact dF_none (by rw [hk]; exact hnt))]
      walk_at "m"
      refine ⟨FN ++ [(n, a, [])], by simp [hk], ?_, .cons rfl .nil, (by rw [List.map_append, show FD ts (FN ++ [(n, a, [])]) = FD ts FN ++ [(n, .raw (.ref a))] from by simp [FD, dF]]; exact pinA (p := [_, _, _]))⟩
      · intro e h
        rcases List.mem_append.mp h with h | h
        · exact he e h
        · rw [List.mem_singleton.mp h]
    rintro ⟨ρ', ω'⟩ ⟨FN0, hk0, he0, hsub, hperm⟩
    dsimp only at hsub hperm
    refine TrF.sub hsub (trF_perm hperm ?_)
    clear hsub hperm
    refine exs_nil ?_
    have G0 : FGood ns Snd FN0 := ⟨hk0, fun e h => by rw [he0 e h]; exact List.nodup_nil, fun e h f hf => by rw [he0 e h] at hf; cases hf⟩
    -- until nothing changes
    let Iv3 : Nat → Sg → Prop := fun m σ' => EA14 (fun FN => FGood ns Snd FN) (fun FN => m = U.length * ns.length - totF FN) (fun FN => Sub σ'.ρ [("self", .obj aGr d)]) (fun FN => ((d, .dct (selfF pl (.dct pn) pm (.dct te) (.dct no) (.raw (.ref fi)) (.raw (.ref fo)) us st)) :: (fi, C.dct (FD ts FN)) :: (fo, .dct []) :: (FN.map cF ++ ω)).Perm σ'.ω)
    refine exs_cons (ex_while Iv3 _ ⟨FN0, G0, rfl, .cons rfl .nil, .refl _⟩ ?_)
    rintro m ⟨ρ', ω'⟩ ⟨FN, G, hm, hsub, hperm⟩
    dsimp only at hsub hperm
    refine te_plain (ev_bool (ob_bool (ite_t rfl ?_))) rfl
    refine TrF.sub hsub (trF_perm hperm ?_)
    clear hsub hperm
    walk_at "m"
    let Iv4 : PI ns := fun pre σ' => EA24 (fun FN' c => FGood ns Snd FN') (fun FN' c => SW FN FN' c (∀ n ∈ pre, ∀ q ∈ qsOf n, ∀ f ∈ firstF (lkF FN) q.1.2, f ∈ lkF FN n)) (fun FN' c => Sub σ'.ρ [("some_change", .bool c), ("self", .obj aGr d)]) (fun FN' c => ((d, .dct (selfF pl (.dct pn) pm (.dct te) (.dct no) (.raw (.ref fi)) (.raw (.ref fo)) us st)) :: (fi, C.dct (FD ts FN')) :: (fo, .dct []) :: (FN'.map cF ++ ω)).Perm σ'.ω)
    refine ex_forP ns D.str Iv4 ?_ ?_ ?_ (fun _ => rfl)
    · refine src_of ?_
      walk_at "m"
      refine ⟨?_, FN, false, G, ⟨Nat.le_refl _, fun _ => ⟨rfl, by simp⟩, fun h => by cases h⟩, .cons rfl (.cons rfl .nil), .refl _⟩
      have : ns.map D.str = no.map (fun p => D.str p.1) := by rw [← hno, List.map_map]; rfl
      rw [this]
      exact itb_dct R.hd
    · rintro pre n post ⟨ρ', ω'⟩ hsp ⟨FN1, c1, G1, W1, hsub, hperm⟩
      dsimp only at hsub hperm
      refine Asg.sub hsub (asg_perm hperm (asg_name rfl ?_))
      clear hsub hperm
      have hn : n ∈ ns := by rw [hsp]; simp
      try dsimp only
      let Iv5 : PI (qsOf n) := fun pre2 σ' => EA24 (fun FN' c => FGood ns Snd FN') (fun FN' c => SW FN FN' c ((∀ n ∈ pre, ∀ q ∈ qsOf n, ∀ f ∈ firstF (lkF FN) q.1.2, f ∈ lkF FN n) ∧ (∀ q ∈ pre2, ∀ f ∈ firstF (lkF FN) q.1.2, f ∈ lkF FN n))) (fun FN' c => Sub σ'.ρ [("n", .str n), ("some_change", .bool c), ("self", .obj aGr d)]) (fun FN' c => ((d, .dct (selfF pl (.dct pn) pm (.dct te) (.dct no) (.raw (.ref fi)) (.raw (.ref fo)) us st)) :: (fi, C.dct (FD ts FN')) :: (fo, .dct []) :: (FN'.map cF ++ ω)).Perm σ'.ω)
      refine exs_cons (ex_forP (qsOf n) (prodD aProd) Iv5 ?_ ?_ ?_ (fun _ => rfl))
      · refine src_of ?_
        refine ev_sub ?_
        walk_at "m"
        refine op_dget .data (hpn n hn) ⟨itb_list R.hd, FN1, c1, G1, ⟨W1.le, fun h => ⟨(W1.no h).1, (W1.no h).2, by simp⟩, W1.yes⟩, .cons rfl (.cons rfl (.cons rfl .nil)), .refl _⟩ (fun _ _ => rfl)
      · rintro pre2 q post2 ⟨ρ', ω'⟩ hsp2 ⟨FN2, c2, G2, W2, hsub, hperm⟩
        dsimp only at hsub hperm
        refine Asg.sub hsub (asg_perm hperm (asg_name rfl ?_))
        clear hsub hperm
        have hqm : q ∈ qsOf n := by rw [hsp2]; simp
        obtain ⟨hq1, hq2⟩ := hq n hn q hqm
        try dsimp only
        let Iv6 : PI (firstF (lkF FN2) q.1.2) := fun pre3 σ' => EA26 (fun FN' c => FGood ns Snd FN') (fun FN' c => totF FN2 ≤ totF FN') (fun FN' c => (c = false → c2 = false ∧ FN' = FN2 ∧ ∀ f ∈ pre3, f ∈ lkF FN2 n)) (fun FN' c => (c = true → totF FN < totF FN')) (fun FN' c => Sub σ'.ρ [("p", prodD aProd q), ("n", .str n), ("some_change", .bool c), ("self", .obj aGr d)]) (fun FN' c => ((d, .dct (selfF pl (.dct pn) pm (.dct te) (.dct no) (.raw (.ref fi)) (.raw (.ref fo)) us st)) :: (fi, C.dct (FD ts FN')) :: (fo, .dct []) :: (FN'.map cF ++ ω)).Perm σ'.ω)
        refine exs_cons (ex_forP (firstF (lkF FN2) q.1.2) D.str Iv6 ?_ ?_ ?_ (fun _ => rfl))
        · refine src_of ?_
          refine ev_ometh ?_ rfl rfl rfl
          walk_at "m"
          refine ⟨aGr, _, 223, .cell (by walk_at "mem"), rfl, rfl, ?_⟩
          walk_at "m"
          refine first_ok (k := k) (lk := lkF FN2) (R' _) (by walk_at "mem") rfl rfl (.cell (kds := FD ts FN2) (by walk_at "mem")) (fun x hx => ?_) hq1 ⟨itb_list R.hd, FN2, c2, G2, Nat.le_refl _, fun h => ⟨h, rfl, by simp⟩, W2.yes, .cons rfl (.cons rfl (.cons rfl (.cons rfl .nil))), .refl _⟩
          rcases hq2 x hx with hx | hx
          · refine ⟨_, FD_term hx, ?_, ?_, ?_⟩
            · rw [lkF_none (by rw [G2.keys]; exact fun z => (hdis x z).1 hx)]; exact .data
            · rw [lkF_none (by rw [G2.keys]; exact fun z => (hdis x z).1 hx)]; simp
            · rw [lkF_none (by rw [G2.keys]; exact fun z => (hdis x z).1 hx)]
              intro s hs; rw [List.mem_singleton.mp hs]; exact hto x hx
          · obtain ⟨a, h1, h2, h3⟩ := appF_upd (s := x) ω (L := FN2) (k := x) (by rw [G2.keys]; exact hx)
            refine ⟨_, (FD_name (hdis x hx).1 (hdis x hx).2).trans h1, .cell ?_, ?_, ?_⟩
            · exact .tail _ (.tail _ (.tail _ h3.mem))
            · have := G2.len hU hx; omega
            · intro s hs; exact hUo s (hU x s (G2.snd hx hs))
        · rintro pre3 f post3 ⟨ρ', ω'⟩ hsp3 ⟨FN3, c3, G3, hle, hno3, hyes, hsub, hperm⟩
          dsimp only at hsub hperm
          refine Asg.sub hsub (asg_perm hperm (asg_name rfl ?_))
          clear hsub hperm
          have hfm : f ∈ firstF (lkF FN2) q.1.2 := by rw [hsp3]; simp
          have hfs : Snd n f := hcl FN2 G2 n hn q hqm f hfm
          have hfo : PyData.strOk f = true := hUo f (hU n f hfs)
          obtain ⟨a, h1, h2, h3⟩ := appF_upd (s := f) ω (L := FN3) (k := n) (by rw [G3.keys]; exact hn)
          have hl3 : (lkF FN3 n).length ≤ 100 := by have := G3.len hU hn; omega
          have ho3 : ∀ s ∈ lkF FN3 n, PyData.strOk s = true := fun s hs => hUo s (hU n s (G3.snd hn hs))
          try dsimp only
          refine exs_cons (ex_if (te_cmp (ev_var rfl rfl ?_ rfl rfl) rfl))
          refine ev_sub ?_
          walk_at "m"
          refine op_dget (.cell (by walk_at "mem")) ((FD_name (hdis n hn).1 (hdis n hn).2).trans h1) ?_ (fun _ _ => rfl)
          refine op_notin (n := 0) (R' _) (.cell (.tail _ (.tail _ (.tail _ h3.mem)))) hfo (ok_strs ho3 0) (by decide) (ob_bool (ite_b (fun h5 => ?_) (fun h5 => ?_)))
          · rw [any_str] at h5
            have h5 : f ∉ lkF FN3 n := fun z => by rw [any_eq.mpr z] at h5; cases h5
            refine exs_cons (ex_expr (ev_meth (T := "list") (id := "list.append") ?_ F.plainAttrs_list F.slot_list_append F.type_list_append rfl rfl rfl rfl rfl) rfl rfl)
            refine ev_sub ?_
            walk_at "m"
            refine op_dget (.cell (by walk_at "mem")) ((FD_name (hdis n hn).1 (hdis n hn).2).trans h1) ⟨isTy_lst (.cell (.tail _ (.tail _ (.tail _ h3.mem)))), ?_⟩ (fun _ _ => rfl)
            walk_at "m"
            refine ol_append (.tail (.tail (.tail h3))) (by simp; omega) ⟨rfl, ?_⟩
            walk_at "m"
            have ht : totF (appF n f FN3) = totF FN3 + 1 := appF_tot (by rw [G3.keys]; exact hn)
            refine ⟨appF n f FN3, true, G3.app hn h5 hfs, by omega, (fun h => by cases h), (fun _ => by have := W2.le; omega), .cons rfl (.cons rfl (.cons rfl (.cons rfl .nil))), .of_eq ?_⟩
            simp only [FD, appF_dF]
          · rw [any_str] at h5
            have h5 : f ∈ lkF FN3 n := any_eq.mp (by simpa using h5)
            walk_at "m"
            refine ⟨FN3, c3, G3, hle, fun h => ⟨(hno3 h).1, (hno3 h).2.1, fun g hg => ?_⟩, hyes, .cons rfl (.cons rfl (.cons rfl (.cons rfl .nil))), .refl _⟩
            rcases List.mem_append.mp hg with hg | hg
            · exact (hno3 h).2.2 g hg
            · rw [List.mem_singleton.mp hg, ← (hno3 h).2.1]; exact h5
        · rintro ⟨ρ', ω'⟩ ⟨FN3, c3, G3, hle, hno3, hyes, hsub, hperm⟩
          dsimp only at hsub hperm
          refine TrF.sub hsub ?_
          clear hsub
          refine exs_nil (exs_nil ⟨FN3, c3, G3, ⟨Nat.le_trans W2.le hle, fun h => ?_, hyes⟩, .cons rfl (.cons rfl (.cons rfl .nil)), hperm⟩)
          obtain ⟨h1, h2, h3⟩ := hno3 h
          obtain ⟨h4, h5⟩ := W2.no h1
          refine ⟨h2.trans h4, h5.1, fun q' hq' => ?_⟩
          rcases List.mem_append.mp hq' with hq' | hq'
          · exact h5.2 q' hq'
          · rw [List.mem_singleton.mp hq', ← h4]; exact h3
      · rintro ⟨ρ', ω'⟩ ⟨FN2, c2, G2, W2, hsub, hperm⟩
        dsimp only at hsub hperm
        refine TrF.sub hsub ?_
        clear hsub
        refine exs_nil (exs_nil ⟨FN2, c2, G2, ⟨W2.le, fun h => ?_, W2.yes⟩, .cons rfl (.cons rfl .nil), hperm⟩)
        obtain ⟨h4, h5⟩ := W2.no h
        refine ⟨h4, fun n' hn' => ?_⟩
        rcases List.mem_append.mp hn' with hn' | hn'
        · exact h5.1 n' hn'
        · rw [List.mem_singleton.mp hn']; exact h5.2
    · rintro ⟨ρ', ω'⟩ ⟨FN1, c1, G1, W1, hsub, hperm⟩
      dsimp only at hsub hperm
      refine TrF.sub hsub (trF_perm hperm ?_)
      clear hsub hperm
      refine exs_nil ?_
      walk_at "m"
      refine ob_bool (ite_b (fun h5 => ?_) (fun h5 => ?_))
      · have h5 : c1 = false := by simpa using h5
        obtain ⟨h6, h7⟩ := W1.no h5
        subst h6
        refine exs_cons (ex_brk ?_)
        walk_at "m"
        exact ⟨_, .refl _, p FN1 G1 h7⟩
      · have h5 : c1 = true := by simpa using h5
        have h6 := W1.yes h5
        have h7 := G1.tot hU
        walk_at "m"
        refine ⟨_, ?_, FN1, G1, rfl, .cons rfl .nil, .refl _⟩
        subst hm; omega
end

section
variable {w : World} {mg mb : Str → Option Value} {fr : List Env} {A : Around} {env : Env} {σ : Sg} {P : D → Sg → Prop} {Q : Fl → Sg → Prop}
set_option maxHeartbeats 4000000
theorem cfollow_ok {d fo : Addr} {pn pm te us st : D} {fd no : List (Str × D)} {qs : List (GPr × Nat)} {ns : List Str} {lk : Str → List Str} {start : Str} {Sn : Str → Str → Prop} {U : List Str} {k : Nat} {ρ : List (Str × D)} {ω : Om} (R : ARoom (k + 2) A)
    (hno : no.map (·.1) = ns) (hns : ns.Nodup) (hst : start ∈ ns) (hsl0 : (start.length : Int) ≠ 0) (hsl1 : start.length ≤ 100) (hfd : fd.isEmpty = false) (hfl : fd.length ≤ 1000)
    (hq : ∀ q ∈ qs, q.1.2.length ≤ 20 ∧ q.1.1 ∈ ns ∧ ∀ s ∈ q.1.2, PyData.strOk s = true ∧ fd.lookup s = some (.list ((lk s).map .str)) ∧ (lk s).length ≤ 100 ∧ ∀ f ∈ lk s, PyData.strOk f = true)
    (hU : ∀ n f, Sn n f → f ∈ U) (hUl : U.length ≤ 100) (hUo : ∀ f ∈ U, PyData.strOk f = true) (hS0 : Sn start "$end")
    (hcl1 : ∀ q ∈ qs, ∀ a B b, q.1.2 = a ++ B :: b → B ∈ ns → ∀ f ∈ firstF lk b, f ≠ epsS → Sn B f)
    (hcl2 : ∀ q ∈ qs, ∀ a B b, q.1.2 = a ++ B :: b → B ∈ ns → epsS ∈ firstF lk b → ∀ f, Sn q.1.1 f → Sn B f) (hnl : ns.length ≤ 1000) (hql : qs.length ≤ 1000)
    (p : ∀ FO, FGood ns Sn FO → ("$end" : Str) ∈ lkF FO start → (∀ q ∈ qs, ∀ a B b, q.1.2 = a ++ B :: b → B ∈ ns → (∀ f ∈ firstF lk b, f ≠ epsS → f ∈ lkF FO B) ∧ (epsS ∈ firstF lk b → ∀ f ∈ lkF FO q.1.1, f ∈ lkF FO B)) →
      P (.raw (.ref fo)) ⟨ρ, (d, .dct (selfF (.list (.none :: qs.map (prodD aProd))) pn pm te (.dct no) (.dct fd) (.raw (.ref fo)) us st)) :: (fo, .dct (FO.map dF)) :: (FO.map cF ++ ω)⟩) :
    OpL (X3 w mg mb fr) A env ⟨ρ, (d, .dct (selfF (.list (.none :: qs.map (prodD aProd))) pn pm te (.dct no) (.dct fd) (.raw (.ref fo)) us st)) :: (fo, .dct []) :: ω⟩ (fun vs => call (.ref 238) vs) [.obj aGr d, .str start] P := by
  refine ol_perm ?_
  refine fn_call (dbs := [("self", .obj aGr d), ("start", .str start)]) ⟨⟨_, _, _, rfl⟩, rfl, rfl, rfl, rfl, rfl, rfl, rfl, rfl, rfl, rfl, rfl, rfl⟩ R.room ?_ rfl rfl ?_
  · intro s b vs T hb r
    obtain ⟨v1, _, rfl, r1, r⟩ := r.inv
    obtain ⟨v2, _, rfl, r2, r⟩ := r.inv
    cases r.inv0
    exact ⟨_, binds_K (T.inK.keeps hb) rfl rfl rfl rfl rfl, .cons r1 (.cons r2 .nil)⟩
  · intro L
    have hsl' := hsl
    have R' : ∀ e, ARoom (k + 1) (A.deeper e) := fun e => R.deeper
    try dsimp only
    walk_at "m"
    refine ob_dict (.cell (by walk_at "mem")) (by decide) (ite_f rfl ?_)
    walk_at "m"
    refine ob_dict .data (by omega) (ite_f (by simp [hfd]) ?_)
    refine exs_nil ?_
    -- the names
    let Iv1 : PI ns := fun pre σ' => EA14 (fun (FO : List FE) => FO.map (·.1) = pre) (fun (FO : List FE) => (∀ e ∈ FO, e.2.2 = [])) (fun (FO : List FE) => Sub σ'.ρ [("self", .obj aGr d), ("start", .str start)]) (fun (FO : List FE) => ((d, .dct (selfF (.list (.none :: qs.map (prodD aProd))) pn pm te (.dct no) (.dct fd) (.raw (.ref fo)) us st)) :: (fo, C.dct (FO.map dF)) :: (FO.map cF ++ ω)).Perm σ'.ω)
    refine exs_cons (ex_forP ns D.str Iv1 ?_ ?_ ?_ (fun _ => rfl))
    · refine src_of ?_
      walk_at "m"
      refine ⟨?_, [], rfl, by simp, .cons rfl (.cons rfl .nil), .refl _⟩
      have : ns.map D.str = no.map (fun p => D.str p.1) := by rw [← hno, List.map_map]; rfl
      rw [this]
      exact itb_dct R.hd
    · rintro pre n post ⟨ρ', ω'⟩ hsp ⟨FO, hk, he, hsub, hperm⟩
      dsimp only at hsub hperm
      refine Asg.sub hsub (asg_perm hperm (asg_name rfl ?_))
      clear hsub hperm
      have hpl : pre.length ≤ 1000 := by have := congrArg List.length hsp; simp at this; omega
      have hnt : n ∉ pre := by
        rw [hsp, List.nodup_append] at hns
        intro z
        exact hns.2.2 n z n (.head _) rfl
      have hlen : FO.length ≤ 1000 := by have := congrArg List.length hk; simp at this; omega
      try dsimp only
      walk_at "m"
      refine ev_listC (trl_nil ⟨Nat.le_of_ble_eq_true rfl, fun a => ?_⟩)
      try dsimp only
      walk_at "m"
      refine ⟨_, _, _, _, rfl, rfl, (by walk_at "upd"), by simp; omega, ?_⟩
      rw [put_new (dF_none (by rw [hk]; exact hnt))]
      walk_at "m"
      refine ⟨FO ++ [(n, a, [])], by simp [hk], ?_, .cons rfl (.cons rfl .nil), (by rw [List.map_append, List.map_append]; exact pinA (p := [_, _]))⟩
      · intro e h
        rcases List.mem_append.mp h with h | h
        · exact he e h
        · rw [List.mem_singleton.mp h]
    rintro ⟨ρ', ω'⟩ ⟨FO1, hk1, he1, hsub, hperm⟩
    dsimp only at hsub hperm
    refine TrF.sub hsub (trF_perm hperm ?_)
    clear hsub hperm
    refine exs_nil ?_
    have hlen1 : FO1.length ≤ 1000 := by have := congrArg List.length hk1; simp at this; omega
    walk_at "m"
    refine ob_str (by omega) (ite_f (by simpa using hsl0) ?_)
    walk_at "m"
    refine ev_listC ?_
    walk_at "m"
    intro a0
    try dsimp only
    walk_at "m"
    refine ⟨_, _, _, _, rfl, rfl, (by walk_at "upd"), by simp; omega, ?_⟩
    rw [put_setF (by rw [hk1]; exact hns) (by rw [hk1]; exact hst) (l := [("$end" : Str)])]
    obtain ⟨e0, hp0⟩ := setF_cells (a := a0) (l := [("$end" : Str)]) (L := FO1) (k := start) (by rw [hk1]; exact hst)
    have G0 : FGood ns Sn (setF start a0 [("$end" : Str)] FO1) := by
      refine ⟨by rw [setF_keys]; exact hk1, fun e h => ?_, fun e h f hf => ?_⟩
      · rcases setF_mem h with h | rfl
        · rw [he1 e h]; exact List.nodup_nil
        · simp
      · rcases setF_mem h with h | rfl
        · rw [he1 e h] at hf; cases hf
        · rw [List.mem_singleton.mp hf]; exact hS0
    have hend0 : ("$end" : Str) ∈ lkF (setF start a0 [("$end" : Str)] FO1) start := by rw [lkF_setF (by rw [hk1]; exact hst)]; exact .head _
    generalize hFO : setF start a0 [("$end" : Str)] FO1 = FO0 at hp0 G0 hend0 ⊢
    have hP : (e0 :: (d, .dct (selfF (.list (.none :: qs.map (prodD aProd))) pn pm te (.dct no) (.dct fd) (.raw (.ref fo)) us st)) :: (fo, C.dct (FO0.map dF)) :: (FO0.map cF ++ ω)).Perm ((a0, C.lst ([("$end" : Str)].map .str)) :: (d, .dct (selfF (.list (.none :: qs.map (prodD aProd))) pn pm te (.dct no) (.dct fd) (.raw (.ref fo)) us st)) :: (fo, .dct (FO0.map dF)) :: (FO1.map cF ++ ω)) := by
      exact perm_lift hp0
    refine trF_perm hP (trF_drop (.cons _ (.refl _)) ?_)
    clear hP hp0 hFO
    -- until nothing is added
    let Iv2 : Nat → Sg → Prop := fun m σ' => EA15 (fun (FO : List FE) => FGood ns Sn FO) (fun (FO : List FE) => ("$end" : Str) ∈ lkF FO start) (fun (FO : List FE) => m = U.length * ns.length - totF FO) (fun (FO : List FE) => Sub σ'.ρ [("self", .obj aGr d), ("start", .str start)]) (fun (FO : List FE) => ((d, .dct (selfF (.list (.none :: qs.map (prodD aProd))) pn pm te (.dct no) (.dct fd) (.raw (.ref fo)) us st)) :: (fo, C.dct (FO.map dF)) :: (FO.map cF ++ ω)).Perm σ'.ω)
    refine exs_cons (ex_while Iv2 _ ⟨FO0, G0, hend0, rfl, .cons rfl (.cons rfl .nil), .refl _⟩ ?_)
    rintro m ⟨ρ', ω'⟩ ⟨FO, G, hend, hm, hsub, hperm⟩
    dsimp only at hsub hperm
    refine te_plain (ev_bool (ob_bool (ite_t rfl ?_))) rfl
    refine TrF.sub hsub (trF_perm hperm ?_)
    clear hsub hperm
    walk_at "m"
    let Iv3 : PI qs := fun pre σ' => EA25 (fun FO' c => FGood ns Sn FO') (fun FO' c => SX FO FO FO' false c (∀ q ∈ pre, ∀ a B b, q.1.2 = a ++ B :: b → B ∈ ns → (∀ f ∈ firstF lk b, f ≠ epsS → f ∈ lkF FO B) ∧ (epsS ∈ firstF lk b → ∀ f ∈ lkF FO q.1.1, f ∈ lkF FO B))) (fun FO' c => ("$end" : Str) ∈ lkF FO' start) (fun FO' c => Sub σ'.ρ [("didadd", .bool c), ("self", .obj aGr d), ("start", .str start)]) (fun FO' c => ((d, .dct (selfF (.list (.none :: qs.map (prodD aProd))) pn pm te (.dct no) (.dct fd) (.raw (.ref fo)) us st)) :: (fo, C.dct (FO'.map dF)) :: (FO'.map cF ++ ω)).Perm σ'.ω)
    refine ex_forP qs (prodD aProd) Iv3 ?_ ?_ ?_ (fun _ => rfl)
    · refine src_of (ev_slice_fromA ?_ rfl)
      walk_at "m"
      refine ⟨_, 1, rfl, by simp, by simp; omega, .data, itb_list R.hd, FO, false, G, ⟨Nat.le_refl _, fun _ => ⟨rfl, rfl, by simp⟩, fun h => by cases h⟩, hend, .cons rfl (.cons rfl (.cons rfl .nil)), .refl _⟩
    · rintro pre q post ⟨ρ', ω'⟩ hsp ⟨FO1, c1, G1, W1, hend1, hsub, hperm⟩
      dsimp only at hsub hperm
      refine Asg.sub hsub (asg_perm hperm (asg_name rfl ?_))
      clear hsub hperm
      have hqm : q ∈ qs := by rw [hsp]; simp
      obtain ⟨hq1, hq2, hq3⟩ := hq q hqm
      try dsimp only
      let Iv4 : PI q.1.2.zipIdx := fun pre2 σ' => EA25 (fun FO' c => FGood ns Sn FO') (fun FO' c => SX FO FO1 FO' c1 c (∀ a B b, q.1.2 = a ++ B :: b → a.length < pre2.length → B ∈ ns → (∀ f ∈ firstF lk b, f ≠ epsS → f ∈ lkF FO1 B) ∧ (epsS ∈ firstF lk b → ∀ f ∈ lkF FO1 q.1.1, f ∈ lkF FO1 B))) (fun FO' c => ("$end" : Str) ∈ lkF FO' start) (fun FO' c => Sub σ'.ρ [("p", prodD aProd q), ("didadd", .bool c), ("self", .obj aGr d), ("start", .str start)]) (fun FO' c => ((d, .dct (selfF (.list (.none :: qs.map (prodD aProd))) pn pm te (.dct no) (.dct fd) (.raw (.ref fo)) us st)) :: (fo, C.dct (FO'.map dF)) :: (FO'.map cF ++ ω)).Perm σ'.ω)
      refine exs_cons (ex_forP q.1.2.zipIdx (fun p => .tup [.int (p.2 : Nat), .str p.1]) Iv4 ?_ ?_ ?_ (fun _ => rfl))
      · rw [← enumD_map]
        refine src_enumT R.hd (ev_blt rfl (by boot_fast) (by decide) rfl ⟨rfl, ?_⟩ rfl) rfl rfl
        walk_at "m"
        refine ⟨rfl, FO1, c1, G1, ⟨Nat.le_refl _, fun h => ⟨h, rfl, fun a B b _ h => absurd h (by simp)⟩, W1.yes⟩, hend1, .cons rfl (.cons rfl (.cons rfl (.cons rfl .nil))), .refl _⟩
      · rintro pre2 ⟨B, i⟩ post2 ⟨ρ', ω'⟩ hsp2 ⟨FO2, c2, G2, W2, hend2, hsub, hperm⟩
        dsimp only at hsub hperm
        refine Asg.sub hsub (asg_perm hperm (asg_tup2 R.hd rfl rfl ?_))
        clear hsub hperm
        obtain ⟨hi, hil⟩ := zipIdx_split hsp2
        subst hi
        obtain ⟨hB, hsplit⟩ : q.1.2[pre2.length]? = some B ∧ q.1.2 = q.1.2.take pre2.length ++ B :: q.1.2.drop (pre2.length + 1) := by
          have h1 : q.1.2.zipIdx[pre2.length]? = some (B, pre2.length) := by rw [hsp2]; simp
          rw [List.getElem?_zipIdx] at h1
          have h2 : q.1.2[pre2.length]? = some B := by
            cases hx : q.1.2[pre2.length]? with
            | none => rw [hx] at h1; cases h1
            | some y => rw [hx] at h1; simp at h1; rw [h1]
          exact ⟨h2, split_at h2⟩
        have hone : ∀ a B' b, q.1.2 = a ++ B' :: b → a.length < (pre2 ++ [(B, pre2.length)]).length → a.length < pre2.length ∨ (B' = B ∧ b = q.1.2.drop (pre2.length + 1)) := by
          intro a B' b h1 h2
          rw [List.length_append, List.length_singleton] at h2
          rcases Nat.lt_or_ge a.length pre2.length with h3 | h3
          · exact .inl h3
          · right
            have h4 : a.length = pre2.length := by omega
            rw [← h4, h1] at hB
            rw [← h4, h1]
            simp at hB ⊢
            exact hB
        have hBm : B ∈ q.1.2 := List.mem_of_getElem? hB
        try dsimp only
        walk_at "m"
        refine op_din .data (ob_bool ?_)
        rw [isSome_lookup, hno]
        by_cases hBn : B ∈ ns
        · refine ite_t (by simp [hBn]) ?_
          have hdl : q.1.2.drop (pre2.length + 1) = q.1.2.drop (pre2.length + 1) := rfl
          walk_at "m"
          refine ev_ometh ?_ rfl rfl rfl
          walk_at "m"
          refine ⟨aGr, _, 223, .cell (by walk_at "mem"), rfl, rfl, ?_⟩
          refine trl_cons (ev_slice_fromTA ?_ rfl) rfl
          walk_at "m"
          refine op_add ?_
          refine ⟨_, pre2.length + 1, rfl, by omega, by simp; omega, by simp; omega, rfl, ?_⟩
          walk_at "m"
          rw [← List.map_drop]
          have hbm : ∀ x ∈ q.1.2.drop (pre2.length + 1), x ∈ q.1.2 := fun x hx => List.mem_of_mem_drop hx
          have hbl : (q.1.2.drop (pre2.length + 1)).length ≤ 20 := by rw [List.length_drop]; omega
          generalize hbe : q.1.2.drop (pre2.length + 1) = bs at hbm hbl hsplit hone ⊢
          refine first_ok (k := k) (lk := lk) (R' _) (by walk_at "mem") rfl rfl (.data (kds := fd)) (fun x hx => ?_) hbl ?_
          · obtain ⟨h1, h2, h3, h4⟩ := hq3 x (hbm x hx)
            exact ⟨_, h2, .data, h3, h4⟩
          have hfo : ∀ f ∈ firstF lk bs, PyData.strOk f = true := fun f hf => by
            rcases firstF_mem hf with rfl | ⟨y, hy, hf⟩
            · exact epsOk
            · exact (hq3 y (hbm y hy)).2.2.2 f hf
          have hc1 : ∀ f ∈ firstF lk bs, f ≠ epsS → Sn B f := hcl1 q hqm _ B bs hsplit hBn
          have hlast : pre2.length + 1 = q.1.2.length → epsS ∈ firstF lk bs := fun h => by
            have : bs = [] := by rw [← hbe, h]; simp
            rw [this]; exact .head _
          try dsimp only
          walk_at "m"
          let Iv5 : PI (firstF lk bs) := fun pre3 σ' => EA25 (fun FO' c => FGood ns Sn FO') (fun FO' c => SX FO FO2 FO' c2 c (∀ f ∈ pre3, f ≠ epsS → f ∈ lkF FO2 B)) (fun FO' c => ("$end" : Str) ∈ lkF FO' start) (fun FO' c => Sub σ'.ρ [("hasempty", .bool (pre3.any fun z => z == epsS)), ("B", .str B), ("i", .int (pre2.length : Nat)), ("p", prodD aProd q), ("didadd", .bool c), ("self", .obj aGr d), ("start", .str start)]) (fun FO' c => ((d, .dct (selfF (.list (.none :: qs.map (prodD aProd))) pn pm te (.dct no) (.dct fd) (.raw (.ref fo)) us st)) :: (fo, C.dct (FO'.map dF)) :: (FO'.map cF ++ ω)).Perm σ'.ω)
          refine ex_forP (firstF lk bs) D.str Iv5 ?_ ?_ ?_ (fun _ => rfl)
          · refine src_of ?_
            walk_at "m"
            exact ⟨itb_list R.hd, FO2, c2, G2, ⟨Nat.le_refl _, fun h => ⟨h, rfl, by simp⟩, W2.yes⟩, hend2, .cons rfl (.cons rfl (.cons rfl (.cons rfl (.cons rfl (.cons rfl (.cons rfl .nil)))))), .refl _⟩
          · rintro pre3 f post3 ⟨ρ', ω'⟩ hsp3 ⟨FO3, c3, G3, W3, hend3, hsub, hperm⟩
            dsimp only at hsub hperm
            refine Asg.sub hsub (asg_perm hperm (asg_name rfl ?_))
            clear hsub hperm
            have hfm : f ∈ firstF lk bs := by rw [hsp3]; simp
            obtain ⟨a, g1, g2, g3⟩ := appF_upd (s := f) ω (L := FO3) (k := B) (by rw [G3.keys]; exact hBn)
            have hl3 : (lkF FO3 B).length ≤ 100 := by have := G3.len hU hBn; omega
            have ho3 : ∀ s ∈ lkF FO3 B, PyData.strOk s = true := fun s hs => hUo s (hU B s (G3.snd hBn hs))
            have hany : ((pre3 ++ [f]).any fun z => z == epsS) = ((pre3.any fun z => z == epsS) || (f == epsS)) := by simp
            try dsimp only
            walk_at "m"
            refine op_ne (n := 0) (R' _) (hfo f hfm) epsOk (by decide) (ob_bool (ite_b (fun h5 => ?_) (fun h5 => ?_)))
            · have h5 : (f == epsS) = false := by have h5' : (!(f == epsS)) = true := h5; rw [Bool.not_eq_true'] at h5'; exact h5'
              have h5' : f ≠ epsS := by simpa using h5
              have hv : ((pre3 ++ [f]).any fun z => z == epsS) = (pre3.any fun z => z == epsS) := by rw [hany, h5, Bool.or_false]
              refine te_and (te_cmp (ev_var rfl rfl ?_ rfl rfl) rfl)
              refine ev_sub ?_
              walk_at "m"
              refine op_dget (.cell (by walk_at "mem")) g1 ?_ (fun _ _ => rfl)
              refine op_notin (n := 0) (R' _) (.cell (.tail _ (.tail _ g3.mem))) (hfo f hfm) (ok_strs ho3 0) (by decide) (ob_bool (ite_b (fun h6 => te_and_nil (ite_t rfl ?_)) (fun h6 => ite_f rfl ?_)))
              · rw [any_str] at h6
                have h6 : f ∉ lkF FO3 B := fun z => by rw [any_eq.mpr z] at h6; cases h6
                refine exs_cons (ex_expr (ev_meth (T := "list") (id := "list.append") ?_ F.plainAttrs_list F.slot_list_append F.type_list_append rfl rfl rfl rfl rfl) rfl rfl)
                refine ev_sub ?_
                walk_at "m"
                refine op_dget (.cell (by walk_at "mem")) g1 ⟨isTy_lst (.cell (.tail _ (.tail _ g3.mem))), ?_⟩ (fun _ _ => rfl)
                walk_at "m"
                refine ol_append (.tail (.tail g3)) (by simp; omega) ⟨rfl, ?_⟩
                walk_at "m"
                refine op_eq (n := 0) (R' _) (hfo f hfm) epsOk (by decide) (ob_bool (ite_f h5 ?_))
                walk_at "m"
                have ht : totF (appF B f FO3) = totF FO3 + 1 := appF_tot (by rw [G3.keys]; exact hBn)
                refine ⟨appF B f FO3, true, G3.app hBn h6 (hc1 f hfm h5'), ⟨by have := W3.le; omega, (fun h => by cases h), fun _ => ?_⟩, ?_, .cons (by rw [hv]; rfl) (.cons rfl (.cons rfl (.cons rfl (.cons rfl (.cons rfl (.cons rfl .nil)))))), .of_eq ?_⟩
                · rcases hc3 : c3 with _ | _
                  · obtain ⟨h1, h2, _⟩ := W3.no hc3
                    obtain ⟨h4, h5, _⟩ := W2.no h1
                    obtain ⟨_, h8, _⟩ := W1.no h4
                    rw [ht, h2, h5, h8]; omega
                  · have := W3.yes hc3; omega
                · rw [lkF_app (by rw [G3.keys]; exact hBn)]
                  split
                  · exact List.mem_append_left _ hend3
                  · exact hend3
                · rw [appF_dF]
              · rw [any_str] at h6
                have h6 : f ∈ lkF FO3 B := any_eq.mp (by simpa using h6)
                walk_at "m"
                refine op_eq (n := 0) (R' _) (hfo f hfm) epsOk (by decide) (ob_bool (ite_f h5 ?_))
                walk_at "m"
                refine ⟨FO3, c3, G3, ⟨W3.le, fun h => ?_, W3.yes⟩, hend3, .cons (by rw [hv]; rfl) (.cons rfl (.cons rfl (.cons rfl (.cons rfl (.cons rfl (.cons rfl .nil)))))), .refl _⟩
                obtain ⟨h1, h2, h3⟩ := W3.no h
                refine ⟨h1, h2, fun g hg hg' => ?_⟩
                rcases List.mem_append.mp hg with hg | hg
                · exact h3 g hg hg'
                · rw [List.mem_singleton.mp hg, ← h2]; exact h6
            · have h5 : (f == epsS) = true := by have h5' : (!(f == epsS)) = false := h5; rw [Bool.not_eq_false'] at h5'; exact h5'
              have hv : ((pre3 ++ [f]).any fun z => z == epsS) = true := by rw [hany, h5, Bool.or_true]
              refine ite_f rfl ?_
              walk_at "m"
              refine op_eq (n := 0) (R' _) (hfo f hfm) epsOk (by decide) (ob_bool (ite_t h5 ?_))
              walk_at "m"
              refine ⟨FO3, c3, G3, ⟨W3.le, fun h => ?_, W3.yes⟩, hend3, .cons (by rw [hv]; rfl) (.cons rfl (.cons rfl (.cons rfl (.cons rfl (.cons rfl (.cons rfl .nil)))))), .refl _⟩
              obtain ⟨h1, h2, h3⟩ := W3.no h
              refine ⟨h1, h2, fun g hg hg' => ?_⟩
              rcases List.mem_append.mp hg with hg | hg
              · exact h3 g hg hg'
              · rw [List.mem_singleton.mp hg] at hg'; exact absurd (beq_iff_eq.mp h5) hg'
          · rintro ⟨ρ', ω'⟩ ⟨FO3, c3, G3, W3, hend3, hsub, hperm⟩
            dsimp only at hsub hperm
            refine TrF.sub hsub (trF_perm hperm ?_)
            clear hsub hperm
            refine exs_nil ?_
            walk_at "m"
            have hfin : ∀ (FO' : List FE) (c : Bool), SX FO FO3 FO' c3 c (epsS ∈ firstF lk bs → ∀ f ∈ lkF FO3 q.1.1, f ∈ lkF FO3 B) → SX FO FO1 FO' c1 c (∀ a B2 b, q.1.2 = a ++ B2 :: b → a.length < (pre2 ++ [(B, pre2.length)]).length → B2 ∈ ns → (∀ f ∈ firstF lk b, f ≠ epsS → f ∈ lkF FO1 B2) ∧ (epsS ∈ firstF lk b → ∀ f ∈ lkF FO1 q.1.1, f ∈ lkF FO1 B2)) := fun FO' c W => by
              refine ⟨Nat.le_trans W2.le (Nat.le_trans W3.le W.le), fun h => ?_, W.yes⟩
              obtain ⟨h1, h2, h3⟩ := W.no h
              obtain ⟨h4, h5, h6⟩ := W3.no h1
              obtain ⟨h7, h8, h9⟩ := W2.no h4
              refine ⟨h7, h2.trans (h5.trans h8), fun a B2 b k1 k2 k3 => ?_⟩
              rcases hone a B2 b k1 k2 with k4 | ⟨rfl, rfl⟩
              · exact h9 a B2 b k1 k4 k3
              · rw [← h8]
                refine ⟨h6, ?_⟩
                rw [← h5]; exact h3
            refine ob_bool (ite_b (fun h5 => ?_) (fun h5 => ?_))
            · have h5 : epsS ∈ firstF lk bs := any_eq.mp h5
              obtain ⟨an, n1, n2, _⟩ := appF_upd (s := epsS) ω (L := FO3) (k := q.1.1) (by rw [G3.keys]; exact hq2)
              let Iv6 : PI (lkF FO3 q.1.1) := fun pre4 σ' => EA27 (fun FO' c => FGood ns Sn FO') (fun FO' c => SX FO FO3 FO' c3 c (∀ f ∈ pre4, f ∈ lkF FO3 B)) (fun FO' c => ("$end" : Str) ∈ lkF FO' start) (fun FO' c => FO'.map dF = FO3.map dF) (fun FO' c => lkF FO' q.1.1 = lkF FO3 q.1.1) (fun FO' c => Sub σ'.ρ [("B", .str B), ("p", prodD aProd q), ("didadd", .bool c), ("self", .obj aGr d), ("start", .str start)]) (fun FO' c => ((d, .dct (selfF (.list (.none :: qs.map (prodD aProd))) pn pm te (.dct no) (.dct fd) (.raw (.ref fo)) us st)) :: (fo, C.dct (FO'.map dF)) :: (FO'.map cF ++ ω)).Perm σ'.ω)
              refine exs_cons (ex_forC (.raw (.ref an)) (lkF FO3 q.1.1) D.str Iv6 R.hd ?_ ?_ ?_ ?_ (fun _ => rfl))
              · refine ev_sub ?_
                walk_at "m"
                refine op_dget (.cell (by walk_at "mem")) n1 ⟨rfl, FO3, c3, G3, ⟨Nat.le_refl _, fun h => ⟨h, rfl, by simp⟩, W3.yes⟩, hend3, rfl, rfl, .cons rfl (.cons rfl (.cons rfl (.cons rfl (.cons rfl .nil)))), .refl _⟩ (fun _ _ => rfl)
              · rintro pre4 σ' ⟨FO', c, G', W', _, hd', hl', _, hperm⟩
                obtain ⟨a', m1, m2, m3⟩ := appF_upd (s := epsS) ω (L := FO') (k := q.1.1) (by rw [G'.keys]; exact hq2)
                rw [hd'] at m1
                have : an = a' := by have := n1.symm.trans m1; injection this with h; injection h with h; injection h
                subst this
                rw [← hl']
                exact .cell (hperm.mem_iff.mp (.tail _ (.tail _ m3.mem)))
              · rintro pre4 f post4 ⟨ρ', ω'⟩ hsp4 ⟨FO4, c4, G4, W4, hend4, hd4, hl4, hsub, hperm⟩
                dsimp only at hsub hperm
                refine Asg.sub hsub (asg_perm hperm (asg_name rfl ?_))
                clear hsub hperm
                have hfm : f ∈ lkF FO3 q.1.1 := by rw [hsp4]; simp
                have hfs : Sn q.1.1 f := G3.snd hq2 hfm
                have hfo' : PyData.strOk f = true := hUo f (hU _ f hfs)
                have hfB : Sn B f := hcl2 q hqm _ B bs hsplit hBn h5 f hfs
                obtain ⟨a, g1, g2, g3⟩ := appF_upd (s := f) ω (L := FO4) (k := B) (by rw [G4.keys]; exact hBn)
                have hl4' : (lkF FO4 B).length ≤ 100 := by have := G4.len hU hBn; omega
                have ho4 : ∀ s ∈ lkF FO4 B, PyData.strOk s = true := fun s hs => hUo s (hU B s (G4.snd hBn hs))
                try dsimp only
                refine exs_cons (ex_if (te_cmp (ev_var rfl rfl ?_ rfl rfl) rfl))
                refine ev_sub ?_
                walk_at "m"
                refine op_dget (.cell (by walk_at "mem")) g1 ?_ (fun _ _ => rfl)
                refine op_notin (n := 0) (R' _) (.cell (.tail _ (.tail _ g3.mem))) hfo' (ok_strs ho4 0) (by decide) (ob_bool (ite_b (fun h6 => ?_) (fun h6 => ?_)))
                · rw [any_str] at h6
                  have h6 : f ∉ lkF FO4 B := fun z => by rw [any_eq.mpr z] at h6; cases h6
                  have hne : ¬ q.1.1 = B := fun z => h6 (by rw [← z, hl4]; exact hfm)
                  refine exs_cons (ex_expr (ev_meth (T := "list") (id := "list.append") ?_ F.plainAttrs_list F.slot_list_append F.type_list_append rfl rfl rfl rfl rfl) rfl rfl)
                  refine ev_sub ?_
                  walk_at "m"
                  refine op_dget (.cell (by walk_at "mem")) g1 ⟨isTy_lst (.cell (.tail _ (.tail _ g3.mem))), ?_⟩ (fun _ _ => rfl)
                  walk_at "m"
                  refine ol_append (.tail (.tail g3)) (by simp; omega) ⟨rfl, ?_⟩
                  walk_at "m"
                  have ht : totF (appF B f FO4) = totF FO4 + 1 := appF_tot (by rw [G4.keys]; exact hBn)
                  refine ⟨appF B f FO4, true, G4.app hBn h6 hfB, ⟨by have := W4.le; omega, (fun h => by cases h), fun _ => ?_⟩, ?_, by rw [appF_dF]; exact hd4, ?_, .cons rfl (.cons rfl (.cons rfl (.cons rfl (.cons rfl .nil)))), .of_eq ?_⟩
                  · have := W1.le; have := W2.le; have := W3.le; have := W4.le; omega
                  · rw [lkF_app (by rw [G4.keys]; exact hBn)]
                    split
                    · exact List.mem_append_left _ hend4
                    · exact hend4
                  · rw [lkF_app (by rw [G4.keys]; exact hBn), if_neg (by simpa using hne)]; exact hl4
                  · rw [appF_dF]
                · rw [any_str] at h6
                  have h6 : f ∈ lkF FO4 B := any_eq.mp (by simpa using h6)
                  walk_at "m"
                  refine ⟨FO4, c4, G4, ⟨W4.le, fun h => ?_, W4.yes⟩, hend4, hd4, hl4, .cons rfl (.cons rfl (.cons rfl (.cons rfl (.cons rfl .nil)))), .refl _⟩
                  obtain ⟨h1, h2, h3⟩ := W4.no h
                  refine ⟨h1, h2, fun g hg => ?_⟩
                  rcases List.mem_append.mp hg with hg | hg
                  · exact h3 g hg
                  · rw [List.mem_singleton.mp hg, ← h2]; exact h6
              · rintro ⟨ρ', ω'⟩ ⟨FO4, c4, G4, W4, hend4, hd4, hl4, hsub, hperm⟩
                dsimp only at hsub hperm
                refine TrF.sub hsub ?_
                clear hsub
                refine exs_nil (exs_nil (exs_nil (exs_nil ⟨FO4, c4, G4, hfin FO4 c4 ⟨W4.le, fun h => ?_, W4.yes⟩, hend4, .cons rfl (.cons rfl (.cons rfl (.cons rfl .nil))), hperm⟩)))
                obtain ⟨h1, h2, h3⟩ := W4.no h
                exact ⟨h1, h2, fun _ => h3⟩
            · have h5 : epsS ∉ firstF lk bs := fun z => by rw [any_eq.mpr z] at h5; cases h5
              walk_at "m"
              refine ev_callB (ev_blt rfl (by boot_fast) (by decide) rfl ⟨rfl, ?_⟩ rfl) rfl rfl rfl
              walk_at "m"
              refine ol_lenT (by simp; omega) ?_
              walk_at "m"
              refine op_sub ?_
              refine op_eq (n := 0) (R' _) rfl rfl (by decide) (ob_bool (ite_f ?_ ?_))
              · have : ¬ (pre2.length + 1 = q.1.2.length) := fun z => h5 (hlast z)
                show (decide (_ = _)) = false
                simp; omega
              walk_at "m"
              exact exs_nil (exs_nil (exs_nil ⟨FO3, c3, G3, hfin FO3 c3 ⟨Nat.le_refl _, fun h => ⟨h, rfl, fun z => absurd z h5⟩, W3.yes⟩, hend3, .cons rfl (.cons rfl (.cons rfl (.cons rfl .nil))), .refl _⟩))
        · refine ite_f (by simp [hBn]) ?_
          walk_at "m"
          refine ⟨FO2, c2, G2, ⟨W2.le, fun h => ?_, W2.yes⟩, hend2, .cons rfl (.cons rfl (.cons rfl (.cons rfl .nil))), .refl _⟩
          obtain ⟨h1, h2, h3⟩ := W2.no h
          refine ⟨h1, h2, fun a B' b h4 h5 h6 => ?_⟩
          rcases hone a B' b h4 h5 with h7 | ⟨rfl, _⟩
          · exact h3 a B' b h4 h7 h6
          · exact absurd h6 hBn
      · rintro ⟨ρ', ω'⟩ ⟨FO2, c2, G2, W2, hend2, hsub, hperm⟩
        dsimp only at hsub hperm
        refine TrF.sub hsub ?_
        clear hsub
        refine exs_nil (exs_nil ⟨FO2, c2, G2, ⟨Nat.le_trans W1.le W2.le, fun h => ?_, W2.yes⟩, hend2, .cons rfl (.cons rfl (.cons rfl .nil)), hperm⟩)
        obtain ⟨h1, h2, h3⟩ := W2.no h
        obtain ⟨h4, h5, h6⟩ := W1.no h1
        refine ⟨rfl, h2.trans h5, fun q' hq' a B b h7 h8 => ?_⟩
        rcases List.mem_append.mp hq' with hq' | hq'
        · exact h6 q' hq' a B b h7 h8
        · rw [List.mem_singleton.mp hq'] at h7 ⊢
          rw [← h5]
          refine h3 a B b h7 ?_ h8
          rw [List.length_zipIdx, h7]; simp
    · rintro ⟨ρ', ω'⟩ ⟨FO1, c1, G1, W1, hend1, hsub, hperm⟩
      dsimp only at hsub hperm
      refine TrF.sub hsub (trF_perm hperm ?_)
      clear hsub hperm
      refine exs_nil ?_
      walk_at "m"
      refine ob_bool (ite_b (fun h5 => ?_) (fun h5 => ?_))
      · have h5 : c1 = false := by simpa using h5
        obtain ⟨_, h6, h7⟩ := W1.no h5
        subst h6
        refine exs_cons (ex_brk ?_)
        walk_at "m"
        exact ⟨_, .refl _, p FO1 G1 hend1 h7⟩
      · have h5 : c1 = true := by simpa using h5
        have h6 := W1.yes h5
        have h7 := G1.tot hU
        walk_at "m"
        refine ⟨_, ?_, FO1, G1, hend1, rfl, .cons rfl (.cons rfl .nil), .refl _⟩
        subst hm; omega
end

section
variable {w : World} {mg mb : Str → Option Value} {fr : List Env} {A : Around} {env : Env} {σ : Sg} {P : D → Sg → Prop} {Q : Fl → Sg → Prop}
set_option maxHeartbeats 2000000
theorem Upd.id {a : Addr} {c : C} {ω ω' : Om} (u : Upd a c c ω ω') : ω' = ω := by
  induction u with
  | head => rfl
  | tail _ ih => rw [ih]
theorem next_ok {t : Addr} {ns : List Int} {ω' : Om} {k : Nat} (R : ARoom (k + 1) A) (u : Upd t (.lst (ns.map .int)) (.lst (ns.tail.map .int)) σ.ω ω') (hz : ns.length ≤ 1000) (p : P (.int (ns.headD 0)) ⟨σ.ρ, ω'⟩) : OpL (X3 w mg mb fr) A env σ (fun vs => call (.ref 261) vs) [.raw (.ref t)] P := by
  cases ns with
  | nil =>
    have := Upd.id u
    subst this
    exact next_nil R u.mem p
  | cons n ns => exact next_cons R u (by have := hsl; simp at hz ⊢; omega) p
def nmOf (i : Int) : Nm := if i.fmod 3 = 0 then .S else if i.fmod 3 = 1 then .A else .B
theorem nmOf_at (i : Int) : 0 ≤ i.fmod 3 ∧ (allN.map dN)[(i.fmod 3).toNat]? = some (dN (nmOf i)) := by
  have h0 : i.fmod 3 = i % 3 := Int.fmod_eq_emod_of_nonneg _ (by decide)
  refine ⟨by omega, ?_⟩
  have : i.fmod 3 = 0 ∨ i.fmod 3 = 1 ∨ i.fmod 3 = 2 := by omega
  unfold nmOf
  rcases this with h | h | h <;> rw [h] <;> rfl
theorem deqRule (a b : Rule) : deq (dRule a) (dRule b) = decide (a = b) := by
  have hs : ∀ l m : List Nm, PyData.eqvAll ((l.map dN).map D.py) ((m.map dN).map D.py) = decide (l = m) := by
    intro l
    induction l with
    | nil => intro m; cases m <;> simp [PyData.eqvAll]
    | cons x l ih =>
      intro m
      cases m with
      | nil => simp [PyData.eqvAll]
      | cons y m =>
        simp only [List.map_cons, PyData.eqvAll, ih]
        have h1 := deqN x y
        unfold deq at h1
        rw [h1, ← Bool.decide_and]
        congr 1
        simp
  have hp : ∀ l : List D, D.py (.list l) = .list (l.map D.py) := fun l => by simp only [D.py, pyAll_eq]
  have ht : ∀ l : List D, D.py (.tup l) = .tuple (l.map D.py) := fun l => by simp only [D.py, pyAll_eq]
  unfold deq dRule
  rw [ht, ht]
  simp only [List.map_cons, List.map_nil, PyData.eqv, PyData.eqvAll, hp, hs]
  have h1 := deqN a.1 b.1
  unfold deq at h1
  rw [h1, Bool.and_true, ← Bool.decide_and]
  congr 1
  rw [Prod.ext_iff]
theorem anyRule (l : List Rule) (x : Rule) : ((l.map dRule).any fun y => deq y (dRule x)) = decide (x ∈ l) := by
  induction l with
  | nil => rfl
  | cons y r ih =>
    rw [List.map_cons, List.any_cons, ih, deqRule]
    simp only [List.mem_cons, Bool.decide_or, eq_comm]
theorem okRule (n : Nat) (r : Rule) : okd (n + 2) (dRule r) = true := by
  show ([dN r.1, .list (r.2.map dN)].all (okd (n + 1))) = true
  simp only [List.all_cons, List.all_nil, Bool.and_true, okN, Bool.true_and]
  exact okNs n r.2
theorem okRules (n : Nat) (l : List Rule) : (l.map dRule).all (okd (n + 2)) = true := by simp [okRule]
structure GoodR (rules : List Rule) : Prop where
  len : rules.length ≤ 3
  nd : rules.Nodup
  rows : ∀ r ∈ rules, r.2.length ≤ 3
theorem rules_ok {t : Addr} {ns : List Int} {k : Nat} {ρ : List (Str × D)} {ω : Om} (R : ARoom (k + 2) A) (hz : ns.length ≤ 1000)
    (p : ∀ (rules : List Rule) (ns' : List Int), GoodR rules → P (.list (rules.map dRule)) ⟨ρ, (t, .lst (ns'.map .int)) :: ω⟩) :
    OpL (X3 w mg mb fr) A env ⟨ρ, (t, .lst (ns.map .int)) :: ω⟩ (fun vs => call (.ref 266) vs) [.raw (.ref t)] P := by
  refine fn_call (dbs := [("tape", .raw (.ref t))]) ⟨⟨_, _, _, rfl⟩, rfl, rfl, rfl, rfl, rfl, rfl, rfl, rfl, rfl, rfl, rfl, rfl⟩ R.room ?_ rfl rfl ?_
  · intro s b vs T hb r
    obtain ⟨v1, _, rfl, r1, r⟩ := r.inv
    cases r.inv0
    exact ⟨_, BindsTo.of_eq rfl, .cons r1 .nil⟩
  · intro L
    have hsl' := hsl
    have R' : ∀ e, ARoom (k + 1) (A.deeper e) := fun e => R.deeper
    try dsimp only
    walk_at "m"
    refine ev_listC (trl_nil ⟨Nat.le_of_ble_eq_true rfl, fun a => ?_⟩)
    try dsimp only
    walk_at "m"
    let Iv1 : Nat → Sg → Prop := fun n σ' => ∃ (rules : List Rule) (ns' : List Int) (more : Bool), GoodR rules ∧ ns'.length ≤ 1000 ∧ n = ns'.length + (if more = true then 1 else 0) ∧ Sub σ'.ρ [("rules", .raw (.ref a)), ("more", .bool more), ("tape", .raw (.ref t))] ∧ σ'.ω = (a, .lst (rules.map dRule)) :: (t, .lst (ns'.map .int)) :: ω
    refine ex_while Iv1 _ ⟨[], ns, true, ⟨by simp, List.nodup_nil, by simp⟩, hz, rfl, .cons rfl (.cons rfl (.cons rfl .nil)), rfl⟩ ?_
    rintro n ⟨ρ', ω'⟩ ⟨rules, ns1, more, G, hl1, hn, hsub, hω⟩
    dsimp only at hsub hω
    subst hω
    refine TrB.sub hsub ?_
    clear hsub
    walk_at "m"
    refine ob_bool (ite_b (fun h5 => ?_) (fun h5 => ite_f rfl ?_))
    · subst h5
      walk_at "m"
      refine ev_callB (ev_blt rfl (by boot_fast) (by decide) rfl ⟨rfl, ?_⟩ rfl) rfl rfl rfl
      walk_at "m"
      refine ol_len (.cell (by walk_at "mem")) (by have := G.len; simp; omega) ?_
      walk_at "m"
      refine op_lt (ob_bool (ite_b (fun h6 => ?_) (fun h6 => ?_)))
      · refine te_and_nil (ite_t rfl ?_)
        -- the name
        walk_at "m"
        refine ev_sub (ev_glob rfl names_rp rfl ?_ rfl)
        refine ev_bin (ev_callO (ev_glob (v := .ref 261) rfl (fun _ _ => .raw _) rfl ⟨rfl, ?_⟩ rfl) rfl rfl rfl rfl)
        walk_at "m"
        refine next_ok (k := k) (R' _) (by walk_at "upd") hl1 ?_
        walk_at "m"
        refine op_mod (by decide) ?_
        obtain ⟨h7, h8⟩ := nmOf_at (ns1.headD 0)
        refine op_item .data h7 h8 (by decide) ?_ (fun _ _ => rfl)
        generalize nmOf (ns1.headD 0) = name
        walk_at "m"
        refine ev_callO (ev_glob (v := .ref 261) rfl (fun _ _ => .raw _) rfl ⟨rfl, ?_⟩ rfl) rfl rfl rfl rfl
        walk_at "m"
        have hl2 : ns1.tail.length ≤ 1000 := by rw [List.length_tail]; omega
        refine next_ok (ns := ns1.tail) (k := k) (R' _) (by walk_at "upd") hl2 ?_
        walk_at "m"
        refine op_mod (by decide) ?_
        obtain ⟨c, hc, hc4⟩ : ∃ c : Nat, (ns1.tail.headD 0).fmod 4 = (c : Int) ∧ c < 4 := by
          have h0 : (ns1.tail.headD 0).fmod 4 = (ns1.tail.headD 0) % 4 := Int.fmod_eq_emod_of_nonneg _ (by decide)
          exact ⟨((ns1.tail.headD 0) % 4).toNat, by omega, by omega⟩
        rw [hc]
        have hl3 : ns1.tail.tail.length ≤ 1000 := by rw [List.length_tail]; omega
        have hlt : ns1.tail.tail.length ≤ ns1.length ∧ (0 < ns1.length → ns1.tail.tail.length < ns1.length) := by
          rw [List.length_tail, List.length_tail]; omega
        generalize ns1.tail.tail = ns2 at hl3 hlt ⊢
        walk_at "m"
        refine ev_comp rfl (compL (List.range c) (fun i => .int (i : Nat)) (fun pre => ((List.range pre.length).map fun i => nmOf (ns2.getD i 0)).map dN) (fun pre => (a, .lst (rules.map dRule)) :: (t, .lst ((ns2.drop pre.length).map .int)) :: ω) ?_ rfl ?_ ?_ ?_) (fun _ => rfl)
        · refine src_of ?_
          refine ev_callT (ev_blt rfl (by boot_fast) (by decide) rfl ⟨rfl, ?_⟩ rfl) rfl rfl rfl
          walk_at "m"
          exact ol_range ⟨itb_rng R.hd (by omega), rfl, rfl⟩
        · intro pre hp
          simp at hp ⊢; omega
        · intro cl C acc pre x post e
          refine asg_name rfl (ts_nil (ite_t rfl ?_))
          refine ev_sub (ev_glob rfl names_rp rfl ?_ rfl)
          refine ev_bin (ev_callO (ev_glob (v := .ref 261) rfl (fun _ _ => .raw _) rfl ⟨rfl, ?_⟩ rfl) rfl rfl rfl rfl)
          walk_at "m"
          have hl4 : (ns2.drop pre.length).length ≤ 1000 := by rw [List.length_drop]; omega
          refine next_ok (ns := ns2.drop pre.length) (k := k) (R' _) (by walk_at "upd") hl4 ?_
          walk_at "m"
          refine op_mod (by decide) ?_
          have hhd : (ns2.drop pre.length).headD 0 = ns2.getD pre.length 0 := by
            rw [List.headD_eq_head?_getD, List.head?_drop, List.getD_eq_getElem?_getD]
          rw [hhd]
          obtain ⟨h7, h8⟩ := nmOf_at (ns2.getD pre.length 0)
          refine op_item .data h7 h8 (by decide) ⟨?_, ?_⟩ (fun _ _ => rfl)
          · simp
          · simp [List.range_succ]
        simp only [List.length_range]
        have hsl : ((List.range c).map fun i => nmOf (ns2.getD i 0)).length ≤ 3 := by simp; omega
        generalize ((List.range c).map fun i => nmOf (ns2.getD i 0)) = syms at hsl ⊢
        have hd3 : (ns2.drop c).length ≤ ns2.length := by rw [List.length_drop]; omega
        generalize ns2.drop c = ns3 at hd3 ⊢
        refine trl_nil ⟨Nat.le_of_ble_eq_true rfl, ?_⟩
        refine exs_cut (fun σ' => EA13 (fun (rules' : List Rule) => GoodR rules') (fun (rules' : List Rule) => Sub σ'.ρ [("rules", .raw (.ref a)), ("tape", .raw (.ref t))]) (fun (rules' : List Rule) => σ'.ω = (a, .lst (rules'.map dRule)) :: (t, .lst (ns3.map .int)) :: ω)) ?_ ?_
        · walk_at "m"
          refine op_notin (n := 2) (R' _) (.cell (by walk_at "mem")) (okRule 0 (name, syms)) (okRules 0 _) (by decide) (ob_bool (ite_b (fun h9 => ?_) (fun h9 => ?_)))
          · have h9 : decide ((name, syms) ∈ rules) = false := by rw [← anyRule]; exact (Bool.not_eq_true' _).mp h9
            have h9 : (name, syms) ∉ rules := by simpa using h9
            walk_at "m"
            refine ev_meth (T := "list") (id := "list.append") ?_ F.plainAttrs_list F.slot_list_append F.type_list_append rfl rfl rfl rfl rfl
            walk_at "m"
            refine ⟨isTy_lst (.cell (by walk_at "mem")), ?_⟩
            walk_at "m"
            refine ol_append .head (by have := G.len; simp; omega) ⟨rfl, ?_⟩
            walk_at "m"
            refine ⟨rfl, rules ++ [(name, syms)], ⟨?_, ?_, ?_⟩, .cons rfl (.cons rfl .nil), ?_⟩
            · simp at h6 ⊢; omega
            · rw [List.nodup_append]
              refine ⟨G.nd, by simp, fun x hx y hy => ?_⟩
              rw [List.mem_singleton.mp hy]; rintro rfl; exact h9 hx
            · intro r hr
              rcases List.mem_append.mp hr with hr | hr
              · exact G.rows r hr
              · rw [List.mem_singleton.mp hr]; exact hsl
            · simp [dRule]
          · walk_at "m"
            exact ⟨rfl, rules, G, .cons rfl (.cons rfl .nil), rfl⟩
        · rintro ⟨ρ', ω'⟩ ⟨rules', G', hsub, hω⟩
          dsimp only at hsub hω
          subst hω
          refine TrF.sub hsub ?_
          clear hsub
          walk_at "m"
          refine ev_callB (ev_blt rfl (by boot_fast) (by decide) rfl ⟨rfl, ?_⟩ rfl) rfl rfl rfl
          walk_at "m"
          refine ol_len (.cell (by walk_at "mem")) (by simp; omega) ?_
          walk_at "m"
          refine op_gt ?_
          walk_at "m"
          refine ⟨_, ?_, rules', ns3, decide (0 < ns3.length), G', by omega, rfl, .cons rfl (.cons ?_ (.cons rfl .nil)), rfl⟩
          · subst hn
            simp only [if_true]
            by_cases h0 : 0 < ns3.length
            · have := hlt.2 (by omega)
              simp [h0]; omega
            · simp [h0]; omega
          · simp
      · exact (ite_f rfl (exs_nil (exs_cons (ex_ret (tr_freeze (ev_var rfl rfl ⟨a, _, _, rfl, rfl, p rules ns1 G⟩ rfl rfl))))))
    · exact exs_nil (exs_cons (ex_ret (tr_freeze (ev_var rfl rfl ⟨a, _, _, rfl, rfl, p rules ns1 G⟩ rfl rfl))))
end

section
variable {w : World} {mg mb : Str → Option Value} {fr : List Env} {A : Around} {env : Env} {σ : Sg} {P : D → Sg → Prop} {Q : Fl → Sg → Prop}
set_option maxHeartbeats 2000000
def letD : List (Str × D) := [("S", .str "s"), ("A", .str "a"), ("B", .str "b")]
theorem letters_rp (b : Heap) (T : (X3 w mg mb fr).Top b) : Rp (X3 w mg mb fr) b (.ref 254) (.dct letD) := by
  have h : ∃ (t1 t2 t3 : Tok) (ep : Nat), b.DictAt (X3 w mg mb fr).kd 254 [("S", .str "s" t1), ("A", .str "a" t2), ("B", .str "b" t3)] ep := by
    refine ⟨_, _, _, _, _, _, T.inK _ _ rfl, ⟨rfl, rfl, rfl⟩, rfl, ?_, .cons rfl rfl (.cons rfl rfl (.cons rfl rfl .nil)), ?_⟩
    rotate_left
    · show ([("S" : Str), "A", "B"] : List Str).Nodup
      decide
    intro e he
    simp at he
    rcases he with rfl | rfl | rfl
    · exact ⟨"S", rfl, rfl⟩
    · exact ⟨"A", rfl, rfl⟩
    · exact ⟨"B", rfl, rfl⟩
  obtain ⟨t1, t2, t3, ep, h⟩ := h
  exact .dct rfl h (.cons (.str ..) (.cons (.str ..) (.cons (.str ..) .nil)))
theorem letD_at (n : Nm) : letD.lookup (nm n) = some (.str (lt n)) := by cases n <;> rfl
def turnD (τ : Nm → Nm) : List (Str × D) := allN.map fun n => (nm n, dN (τ n))
theorem turnD_at (τ : Nm → Nm) (n : Nm) : (turnD τ).lookup (nm n) = some (dN (τ n)) := by cases n <;> rfl
def opensF (hs : List NP) (n : Nm) : List Str := (hs.filter fun p => decide (p.1 = n)).map fun p => lt p.2
def dueF1 (heads : List NP) (van : List Nm) (n : Nm) : List Str := opensF heads n ++ if n ∈ van then [epsS] else []
def dueL1 (behind tails : List NP) (st n : Nm) : List Str := opensF behind n ++ if (st, n) ∈ tails then [("$end" : Str)] else []
def dueFD (heads : List NP) (van : List Nm) (τ : Nm → Nm) (l : List Nm) : List (Str × D) := ([("s" : Str), "a", "b", "error", "$end"]).map tD ++ l.map fun n => (nm (τ n), .list ((sortS (dueF1 heads van n)).map .str))
def dueLD (behind tails : List NP) (st : Nm) (τ : Nm → Nm) (l : List Nm) : List (Str × D) := l.map fun n => (nm (τ n), .list ((sortS (dueL1 behind tails st n)).map .str))
theorem ev_keep {X : Cx} {e : Expr} {d : D} (h : Ev X A env σ e (fun d' σ' => d' = d ∧ σ' = σ)) (k : P d σ) : Ev X A env σ e P := Tr.mono h fun d' σ' ⟨e1, e2⟩ => by subst e1 e2; exact k
theorem due_ok {heads tails behind : List NP} {van : List Nm} {st : Nm} {τ : Nm → Nm} {k : Nat} (R : ARoom (k + 1) A) (hτ : ∀ x y, τ x = τ y → x = y) (h1 : heads.length ≤ 20) (h2 : tails.length ≤ 20) (h3 : behind.length ≤ 20) (h4 : van.length ≤ 20)
    (p : P (.tup [.dct (dueFD heads van τ allN), .dct (dueLD behind tails st τ allN)]) σ) :
    OpL (X3 w mg mb fr) A env σ (fun vs => call (.ref 295) vs) [.list (heads.map dP), .list (tails.map dP), .list (behind.map dP), .list (van.map dN), dN st, .dct (turnD τ)] P := by
  refine fn_call (dbs := [("heads", .list (heads.map dP)), ("tails", .list (tails.map dP)), ("behind", .list (behind.map dP)), ("vanish", .list (van.map dN)), ("start", dN st), ("turn", .dct (turnD τ))]) ⟨⟨_, _, _, rfl⟩, rfl, rfl, rfl, rfl, rfl, rfl, rfl, rfl, rfl, rfl, rfl, rfl⟩ R.room ?_ rfl rfl ?_
  · intro s b vs T hb r
    obtain ⟨v1, _, rfl, r1, r⟩ := r.inv
    obtain ⟨v2, _, rfl, r2, r⟩ := r.inv
    obtain ⟨v3, _, rfl, r3, r⟩ := r.inv
    obtain ⟨v4, _, rfl, r4, r⟩ := r.inv
    obtain ⟨v5, _, rfl, r5, r⟩ := r.inv
    obtain ⟨v6, _, rfl, r6, r⟩ := r.inv
    cases r.inv0
    exact ⟨_, BindsTo.of_eq rfl, .cons r1 (.cons r2 (.cons r3 (.cons r4 (.cons r5 (.cons r6 .nil)))))⟩
  · intro L
    have hsl' := hsl
    have R' : ∀ e, ARoom k (A.deeper e) := fun e => R.deeper
    try dsimp only
    refine exs_cons (ex_assign_dcompC rfl (compLDC ([("s" : Str), "a", "b", "error", "$end"]) D.str (fun pre => pre.map tD) (fun _ => σ.ω) ?_ rfl ?_ ?_ ?_) rfl rfl (fun _ => rfl))
    · refine src_of (ev_list ?_)
      walk_at "m"
      exact ⟨itb_list R.hd, rfl, rfl⟩
    · intro pre hp; simp at hp ⊢; omega
    · intro cl C acc pre x post e
      refine asg_name rfl (ts_nil (ite_t rfl ?_))
      walk_at "m"
      refine ev_list ?_
      walk_at "m"
      refine ⟨_, rfl, rfl, ?_⟩
      have hx : x ∉ pre := by
        have hn : ([("s" : Str), "a", "b", "error", "$end"]).Nodup := by decide
        rw [e, List.nodup_append] at hn
        intro z
        exact hn.2.2 x z x (.head _) rfl
      rw [put_new (lookup_none_of (by rw [tD_keys]; exact hx))]
      simp [tD]
    · intro fa
      try dsimp only
      walk_at "m"
      refine ev_dictC fun fb => ?_
      try dsimp only
      walk_at "m"
      refine ex_forP allN dN (fun pre σ' => Sub σ'.ρ [("first", .raw (.ref fa)), ("follow", .raw (.ref fb)), ("heads", .list (heads.map dP)), ("tails", .list (tails.map dP)), ("behind", .list (behind.map dP)), ("vanish", .list (van.map dN)), ("start", dN st), ("turn", .dct (turnD τ))] ∧ σ'.ω = (fb, .dct (dueLD behind tails st τ pre)) :: (fa, .dct (dueFD heads van τ pre)) :: σ.ω) ?_ ?_ ?_ (fun _ => rfl)
      · exact src_of (ev_glob rfl names_rp rfl ⟨itb_list R.hd, .cons rfl (.cons rfl (.cons rfl (.cons rfl (.cons rfl (.cons rfl (.cons rfl (.cons rfl .nil))))))), rfl⟩ rfl)
      · rintro pre n post ⟨ρ', ω'⟩ hsp ⟨hsub, hω⟩
        dsimp only at hsub hω
        subst hω
        refine Asg.sub hsub (asg_name rfl ?_)
        clear hsub
        have hpl : pre.length ≤ 2 := by have := congrArg List.length hsp; simp [allN] at this; omega
        have hn : n ∉ pre := by
          have hn : allN.Nodup := by decide
          rw [hsp, List.nodup_append] at hn
          intro z
          exact hn.2.2 n z n (.head _) rfl
        have hko : nm (τ n) ∉ (dueLD behind tails st τ pre).map (·.1) := by
          intro z
          simp only [dueLD, List.map_map, List.mem_map, Function.comp] at z
          obtain ⟨m, hm, e⟩ := z
          exact hn (hτ _ _ (nm_inj.mp e) ▸ hm)
        have hkf : nm (τ n) ∉ (dueFD heads van τ pre).map (·.1) := by
          intro z
          simp only [dueFD, List.map_append, List.mem_append, tD_keys] at z
          rcases z with z | z
          · revert z; cases τ n <;> decide
          · simp only [List.map_map, List.mem_map, Function.comp] at z
            obtain ⟨m, hm, e⟩ := z
            exact hn (hτ _ _ (nm_inj.mp e) ▸ hm)
        have hlo : (dueLD behind tails st τ pre).length ≤ 10 := by simp [dueLD]; omega
        have hlf : (dueFD heads van τ pre).length ≤ 10 := by simp [dueFD]; omega
        have hsf : dueFD heads van τ (pre ++ [n]) = dueFD heads van τ pre ++ [(nm (τ n), .list ((sortS (dueF1 heads van n)).map .str))] := by simp [dueFD]
        have hso : dueLD behind tails st τ (pre ++ [n]) = dueLD behind tails st τ pre ++ [(nm (τ n), .list ((sortS (dueL1 behind tails st n)).map .str))] := by simp [dueLD]
        rw [hsf, hso]
        generalize dueFD heads van τ pre = FA at hkf hlf ⊢
        generalize dueLD behind tails st τ pre = LA at hko hlo ⊢
        have hol : ∀ l : List NP, l.length ≤ 20 → (opensF l n).length ≤ 20 := fun l hl => by
          have := List.length_filter_le (fun p : NP => decide (p.1 = n)) l
          simp [opensF]; omega
        try dsimp only
        refine exs_cons ?_
        refine ex_assign_comp rfl (compL heads dP (fun pre => (opensF pre n).map .str) (fun _ => (fb, .dct (LA)) :: (fa, .dct FA) :: σ.ω) ?_ rfl ?_ ?_ ?_) rfl rfl (fun _ => rfl)
        · refine src_of ?_
          walk_at "m"
          exact ⟨itb_list R.hd, rfl, rfl⟩
        · intro pre hp
          have := List.length_filter_le (fun p : NP => decide (p.1 = n)) pre
          simp [opensF] at hp ⊢; omega
        · intro cl C acc pre x post e
          refine asg_tup2 R.hd rfl rfl (ts_one ?_)
          walk_at "m"
          refine op_eq (n := 0) (R' _) (okN 0 _) (okN 0 _) (by decide) (ob_bool ?_)
          rw [deqN]
          by_cases hxn : x.1 = n
          · refine ite_t (by simp [hxn]) ?_
            refine ev_sub (ev_glob rfl letters_rp rfl ?_ rfl)
            walk_at "m"
            refine op_dget .data (letD_at x.2) ⟨rfl, ?_⟩ (fun _ _ => rfl)
            simp [opensF, hxn]
          · refine ite_f (by simp [hxn]) ⟨rfl, ?_⟩
            simp [opensF, hxn]
        try dsimp only
        walk_at "m"

        refine ev_callB (ev_blt rfl (by boot_fast) (by decide) rfl ⟨rfl, ?_⟩ rfl) rfl rfl rfl
        refine trl_cons (ev_bin (ev_var rfl rfl ?_ rfl rfl)) rfl
        refine ev_keep (d := .list ((if n ∈ van then [epsS] else []).map .str)) (ev_if ?_) ?_
        · walk_at "m"
          refine op_in (n := 0) (R' _) .data (okN 0 _) (okNs 0 _) (by decide) (ob_bool ?_)
          rw [anyN]
          by_cases hv : n ∈ van
          · refine ite_t (by simp [hv]) (ev_list ?_)
            walk_at "m"
            exact ⟨by rw [if_pos hv]; rfl, rfl⟩
          · refine ite_f (by simp [hv]) (ev_list ?_)
            walk_at "m"
            exact ⟨by rw [if_neg hv]; rfl, rfl⟩
        have hel : ((if n ∈ van then [epsS] else []) : List Str).length ≤ 1 := by split <;> simp
        have hdu : dueF1 heads van n = opensF heads n ++ (if n ∈ van then [epsS] else []) := rfl
        rw [hdu]
        generalize (if n ∈ van then [epsS] else []) = es at hel ⊢
        refine op_addl .data .data (by have := hol heads h1; simp; omega) ?_
        rw [← List.map_append]
        refine trl_nil ?_
        refine ol_sortedF .data (by have := hol heads h1; simp; omega) ?_
        generalize sortS (opensF heads n ++ es) = S1
        walk_at "m"
        refine ev_sub ?_
        walk_at "m"
        refine op_dget .data (turnD_at τ n) ?_ (fun _ _ => rfl)
        refine ⟨_, _, _, _, rfl, rfl, (by walk_at "upd"), by omega, ?_⟩
        rw [put_new (lookup_none_of hkf)]
        try dsimp only
        refine exs_cons ?_
        refine ex_assign_comp rfl (compL behind dP (fun pre => (opensF pre n).map .str) (fun _ => (fb, .dct LA) :: (fa, .dct (FA ++ [(nm (τ n), .list (S1.map .str))])) :: σ.ω) ?_ rfl ?_ ?_ ?_) rfl rfl (fun _ => rfl)
        · refine src_of ?_
          walk_at "m"
          exact ⟨itb_list R.hd, rfl, rfl⟩
        · intro pre hp
          have := List.length_filter_le (fun p : NP => decide (p.1 = n)) pre
          simp [opensF] at hp ⊢; omega
        · intro cl C acc pre x post e
          refine asg_tup2 R.hd rfl rfl (ts_one ?_)
          walk_at "m"
          refine op_eq (n := 0) (R' _) (okN 0 _) (okN 0 _) (by decide) (ob_bool ?_)
          rw [deqN]
          by_cases hxn : x.1 = n
          · refine ite_t (by simp [hxn]) ?_
            refine ev_sub (ev_glob rfl letters_rp rfl ?_ rfl)
            walk_at "m"
            refine op_dget .data (letD_at x.2) ⟨rfl, ?_⟩ (fun _ _ => rfl)
            simp [opensF, hxn]
          · refine ite_f (by simp [hxn]) ⟨rfl, ?_⟩
            simp [opensF, hxn]
        try dsimp only
        walk_at "m"
        refine ev_callB (ev_blt rfl (by boot_fast) (by decide) rfl ⟨rfl, ?_⟩ rfl) rfl rfl rfl
        refine trl_cons (ev_bin (ev_var rfl rfl ?_ rfl rfl)) rfl
        refine ev_keep (d := .list ((if (st, n) ∈ tails then [("$end" : Str)] else []).map .str)) (ev_if ?_) ?_
        · walk_at "m"
          refine op_in (n := 1) (R' _) .data (okP 0 (st, n)) (okPs 0 _) (by decide) (ob_bool ?_)
          have he : (D.tup [dN st, dN n]) = dP (st, n) := rfl
          rw [he, anyP]
          by_cases hv : (st, n) ∈ tails
          · refine ite_t (by simp [hv]) (ev_list ?_)
            walk_at "m"
            exact ⟨by rw [if_pos hv]; rfl, rfl⟩
          · refine ite_f (by simp [hv]) (ev_list ?_)
            walk_at "m"
            exact ⟨by rw [if_neg hv]; rfl, rfl⟩
        have hel2 : ((if (st, n) ∈ tails then [("$end" : Str)] else []) : List Str).length ≤ 1 := by split <;> simp
        have hdu2 : dueL1 behind tails st n = opensF behind n ++ (if (st, n) ∈ tails then [("$end" : Str)] else []) := rfl
        rw [hdu2]
        generalize (if (st, n) ∈ tails then [("$end" : Str)] else []) = es2 at hel2 ⊢
        refine op_addl .data .data (by have := hol behind h3; simp; omega) ?_
        rw [← List.map_append]
        refine trl_nil ?_
        refine ol_sortedF .data (by have := hol behind h3; simp; omega) ?_
        generalize sortS (opensF behind n ++ es2) = S2
        walk_at "m"
        refine ev_sub ?_
        walk_at "m"
        refine op_dget .data (turnD_at τ n) ?_ (fun _ _ => rfl)
        refine ⟨_, _, _, _, rfl, rfl, (by walk_at "upd"), by omega, ?_⟩
        rw [put_new (lookup_none_of hko)]
        walk_at "m"
        refine ⟨.cons rfl (.cons rfl (.cons rfl (.cons rfl (.cons rfl (.cons rfl (.cons rfl (.cons rfl .nil))))))), rfl⟩

      · rintro ⟨ρ', ω'⟩ ⟨hsub, hω⟩
        dsimp only at hsub hω
        subst hω
        refine TrF.sub hsub ?_
        clear hsub
        refine exs_nil (exs_cons (ex_ret (tr_refreeze ?_)))
        walk_at "m"
        refine ⟨[fb, fa], .tup [.dct (dueFD heads van τ allN), .dct (dueLD behind tails st τ allN)], σ.ω, ?_, ?_, ?_, p⟩
        · intro a ha
          simp at ha ⊢
          rcases ha with rfl | rfl <;> simp
        · intro hn
          simp only [List.map_cons, List.nodup_cons, List.mem_cons, not_or] at hn
          refine ⟨fun p hp => ⟨?_, p.2, .tail _ (.tail _ hp), RetC.same _⟩, hn.2.2⟩
          have hm : p.1 ∈ σ.ω.map (·.1) := List.mem_map_of_mem hp
          intro z
          simp only [List.mem_cons, List.not_mem_nil, or_false] at z
          rcases z with z | z
          · exact hn.1.2 (z ▸ hm)
          · exact hn.2.1 (z ▸ hm)
        · exact .tup2 (.cons (.dct (.tail _ (.head _)) (by simp) (.same _)) (.cons (.dct (.head _) (by simp) (.same _)) .nil))
end

section
variable {w : World} {mg mb : Str → Option Value} {fr : List Env} {A : Around} {env : Env} {σ : Sg} {P : D → Sg → Prop} {Q : Fl → Sg → Prop}
set_option maxHeartbeats 4000000
def fS (e : FE) : Str × D := (e.1, .list ((sortS e.2.2).map .str))
def toldF (ts : List Str) (FN : List FE) : List (Str × D) := (ts ++ [("$end" : Str)]).map tD ++ FN.map fS
def toldL (FO : List FE) : List (Str × D) := FO.map fS
theorem sortS_one (t : Str) : sortS [t] = [t] := List.perm_singleton.mp (sortS_perm [t])
abbrev LE := Str × List Str
def gL (p : LE) : Str × D := (p.1, .list (p.2.map .str))
def gS (p : LE) : Str × D := (p.1, .list ((sortS p.2).map .str))
def leF (ts : List Str) (FN : List FE) : List LE := (ts ++ [("$end" : Str)]).map (fun t => (t, [t])) ++ FN.map fun e => (e.1, e.2.2)
def leL (FO : List FE) : List LE := FO.map fun e => (e.1, e.2.2)
theorem leF_gL (ts : List Str) (FN : List FE) : (leF ts FN).map gL = FDf ts FN := by
  simp [leF, FDf, gL, tD, fF, Function.comp_def]
  rfl
theorem leF_gS (ts : List Str) (FN : List FE) : (leF ts FN).map gS = toldF ts FN := by
  simp [leF, toldF, gS, tD, fS, sortS_one, Function.comp_def]
  rfl
theorem leL_gL (FO : List FE) : (leL FO).map gL = FO.map fF := by
  simp [leL, gL, fF, Function.comp_def]
theorem leL_gS (FO : List FE) : (leL FO).map gS = toldL FO := by
  simp [leL, toldL, gS, fS, Function.comp_def]
theorem leF_keys (ts : List Str) (FN : List FE) : (leF ts FN).map (·.1) = (ts ++ [("$end" : Str)]) ++ FN.map (·.1) := by
  simp [leF, Function.comp_def]
theorem leL_keys (FO : List FE) : (leL FO).map (·.1) = FO.map (·.1) := by
  simp [leL, Function.comp_def]
theorem gL_at {p : LE} : ∀ {L : List LE}, (L.map (·.1)).Nodup → p ∈ L → (L.map gL).lookup p.1 = some (.list (p.2.map .str))
  | [], _, h => by cases h
  | q :: r, hn, h => by
    simp only [List.map_cons, List.nodup_cons] at hn
    simp only [List.map_cons, gL, List.lookup_cons]
    rcases List.mem_cons.mp h with rfl | h
    · simp
    · have hne : (p.1 == q.1) = false := ne_beq fun z => hn.1 (by rw [← z]; exact List.mem_map_of_mem h)
      rw [hne]; exact gL_at hn.2 h
def dRow (q : CPr) : D := .tup [.str (symS q.1), .list ((q.2.map symS).map .str)]
theorem GN.init {ts : List Str} {TT : List NE} (h : TT.map (·.1) = ts) (he : ∀ e ∈ TT, e.2.2 = []) : GN ts [] 0 TT [] :=
  ⟨h, by simp, List.nodup_nil, by simp, fun e h => by simp [he e h], by simp, fun e h => by simp [he e h], by simp⟩
theorem GP.init {aP : Addr} : GP aP [] [] := ⟨by simp, List.nodup_nil, by simp⟩
theorem lookup_fE {k : Str} {a : Addr} {l : List D} : ∀ {L : List NE}, (L.map (·.1)).Nodup → (k, a, l) ∈ L → (L.map fE).lookup k = some (.list l)
  | [], _, h => by cases h
  | q :: r, hn, h => by
    simp only [List.map_cons, List.nodup_cons] at hn
    simp only [List.map_cons, fE, List.lookup_cons]
    rcases List.mem_cons.mp h with rfl | h
    · simp
    · have hne : (k == q.1) = false := ne_beq fun z => hn.1 (by rw [← z]; exact List.mem_map_of_mem (f := (·.1)) h)
      rw [hne]; exact lookup_fE hn.2 h
theorem fF_at {k : Str} : ∀ {L : List FE}, k ∈ L.map (·.1) → (L.map fF).lookup k = some (.list ((lkF L k).map .str))
  | [], h => by cases h
  | e :: r, h => by
    simp only [List.map_cons, fF, List.lookup_cons, lkF]
    by_cases hk : k = e.1
    · have : (k == e.1) = true := by simpa using hk
      rw [this]; rfl
    · have h2 : (k == e.1) = false := ne_beq hk
      simp only [List.map_cons, List.mem_cons, hk, false_or] at h
      rw [h2]; simpa using fF_at h
theorem zip_has {α : Type} {l : List α} {x : α} (h : x ∈ l) : ∃ i, (x, i) ∈ l.zipIdx 1 := by
  have h1 : (l.zipIdx 1).map (·.1) = l := by simp
  rw [← h1] at h
  obtain ⟨⟨y, i⟩, hm, rfl⟩ := List.mem_map.mp h
  exact ⟨i, hm⟩
def C1 (ps : List GPr) (FN : List FE) : Prop := ∀ p ∈ ps, ∀ f ∈ firstF (lkF FN) p.2, f ∈ lkF FN p.1
def C2 (ps : List GPr) (ns : List Str) (FN FO : List FE) : Prop := ∀ p ∈ ps, ∀ a B b, p.2 = a ++ B :: b → B ∈ ns → (∀ f ∈ firstF (lkF FN) b, f ≠ epsS → f ∈ lkF FO B) ∧ (epsS ∈ firstF (lkF FN) b → ∀ f ∈ lkF FO p.1, f ∈ lkF FO B)
/-- what is asked of the grammar told -/
structure Asks (ts : List Str) (qs : List CPr) (N0 : List Str) (start : Str) (Snd Sn : Str → Str → Prop) (U : List Str) : Prop where
  ok : ∀ q ∈ qs, q.ok ∧ symS q.1 ∉ ts ∧ q.2.length ≤ 20
  nd : qs.Nodup
  len : qs.length ≤ 100
  hN : ∀ k, (∃ p ∈ qs.map gpr, k = p.1 ∨ (k ∈ p.2 ∧ k ∉ ts)) ↔ k ∈ N0
  hall : ∀ k ∈ N0, ∃ p ∈ qs.map gpr, p.1 = k
  hend : ∀ k ∈ N0, k ≠ ("$end" : Str)
  lN : N0.length ≤ 10
  st : start ∈ N0
  sl : start.length = 1
  hU : ∀ n f, Snd n f → f ∈ U
  hU2 : ∀ n f, Sn n f → f ∈ U
  lU : U.length ≤ 20
  hUo : ∀ f ∈ U, PyData.strOk f = true
  cl : ∀ ns FN, (∀ k, k ∈ ns ↔ k ∈ N0) → FGood ns Snd FN → ∀ p ∈ qs.map gpr, ∀ f ∈ firstF (lkF FN) p.2, Snd p.1 f
  s0 : Sn start "$end"
  cl1 : ∀ ns FN, (∀ k, k ∈ ns ↔ k ∈ N0) → FGood ns Snd FN → ∀ p ∈ qs.map gpr, ∀ a B b, p.2 = a ++ B :: b → B ∈ N0 → ∀ f ∈ firstF (lkF FN) b, f ≠ epsS → Sn B f
  cl2 : ∀ ns FN, (∀ k, k ∈ ns ↔ k ∈ N0) → FGood ns Snd FN → ∀ p ∈ qs.map gpr, ∀ a B b, p.2 = a ++ B :: b → B ∈ N0 → epsS ∈ firstF (lkF FN) b → ∀ f, Sn p.1 f → Sn B f
theorem told_ok {qs : List CPr} {N0 : List Str} {start : Str} {Snd Sn : Str → Str → Prop} {U : List Str} {k : Nat} (R : ARoom (k + 8) A) (FR : A.frames = some fr) (K : Asks ["s", "a", "b", "error"] qs N0 start Snd Sn U)
    (p : ∀ ns FN FO, ns.Nodup → (∀ k, k ∈ ns ↔ k ∈ N0) → FGood ns Snd FN → C1 (qs.map gpr) FN → FGood ns Sn FO → ("$end" : Str) ∈ lkF FO start → C2 (qs.map gpr) ns FN FO →
      P (.tup [.dct (toldF ["s", "a", "b", "error"] FN), .dct (toldL FO)]) σ) :
    OpL (X3 w mg mb fr) A env σ (fun vs => call (.ref 300) vs) [.list (qs.map dRow), .str start] P := by
  refine fn_call (dbs := [("rules", .list (qs.map dRow)), ("start", .str start)]) ⟨⟨_, _, _, rfl⟩, rfl, rfl, rfl, rfl, rfl, rfl, rfl, rfl, rfl, rfl, rfl, rfl⟩ R.room ?_ rfl rfl ?_
  · intro s b vs T hb r
    obtain ⟨v1, _, rfl, r1, r⟩ := r.inv
    obtain ⟨v2, _, rfl, r2, r⟩ := r.inv
    cases r.inv0
    exact ⟨_, BindsTo.of_eq rfl, .cons r1 (.cons r2 .nil)⟩
  · intro L
    have hsl' := hsl
    have R' : ∀ e, ARoom (k + 7) (A.deeper e) := fun e => R.deeper
    have hK1 := K.len
    have hK2 := K.lN
    have hK3 := K.lU
    try dsimp only
    walk_at "m"
    refine ev_callO (ev_glob (v := .ref aGr) rfl (fun _ _ => .raw _) rfl ⟨rfl, ?_⟩ rfl) rfl rfl rfl rfl
    refine trl_cons (ev_list ?_) rfl
    walk_at "m"
    refine gram_call (ts := ["s", "a", "b"]) (k := k + 5) (R' _) (by decide) (by decide) (by decide) fun g TT0 hT0 hT1 => ?_
    try dsimp only
    walk_at "m"
    let Iv1 : PI qs := fun pre σ' => EA34 (fun TT NT PN => GN ["s", "a", "b", "error"] (pre.map gpr) (20 * pre.length) TT NT) (fun TT NT PN => GP aProd (pre.map gpr) PN) (fun TT NT PN => Sub σ'.ρ [("grammar", .obj aGr g.d), ("rules", .list (qs.map dRow)), ("start", .str start)]) (fun TT NT PN => (ωG g (.none :: psD aProd (pre.map gpr)) (pmD aProd (pre.map gpr)) TT NT PN σ.ω).Perm σ'.ω)
    refine ex_forP qs dRow Iv1 ?_ ?_ ?_ (fun _ => rfl)
    · refine src_of ?_
      walk_at "m"
      exact ⟨itb_list R.hd, TT0, [], [], GN.init hT0 hT1, GP.init, .cons rfl (.cons rfl (.cons rfl .nil)), .refl _⟩
    · rintro pre q post ⟨ρ', ω'⟩ hsp ⟨TT, NT, PN, G, GQ, hsub, hperm⟩
      dsimp only at hsub hperm
      refine Asg.sub hsub (asg_perm hperm (asg_tup2 R.hd rfl rfl ?_))
      clear hsub hperm
      have hqm : q ∈ qs := by rw [hsp]; simp
      have hpm : ∀ x ∈ pre, x ∈ qs := fun x hx => by rw [hsp]; simp [hx]
      have hpl : pre.length ≤ 100 := by have := congrArg List.length hsp; simp at this; omega
      obtain ⟨q1, q2, q3⟩ := K.ok q hqm
      have hnl : NT.length ≤ 10 := by
        have := nodup_len (U := N0) G.nn fun x hx => by
          obtain ⟨p, hp, h⟩ := (G.nk x).mp hx
          obtain ⟨y, hy, rfl⟩ := List.mem_map.mp hp
          exact (K.hN x).mp ⟨gpr y, List.mem_map_of_mem (hpm y hy), h⟩
        simp at this; omega
      have hnp : PN.length ≤ 10 := by
        have := nodup_len (U := N0) GQ.pn fun x hx => by
          obtain ⟨p, hp, h⟩ := (GQ.pk x).mp hx
          obtain ⟨y, hy, rfl⟩ := List.mem_map.mp hp
          exact (K.hN x).mp ⟨gpr y, List.mem_map_of_mem (hpm y hy), .inl h⟩
        simp at this; omega
      try dsimp only
      refine exs_cons (ex_expr (ev_ometh ?_ rfl rfl rfl) rfl rfl)
      walk_at "m"
      refine ⟨aGr, selfD g, 166, .cell (.head _), rfl, rfl, ?_⟩
      walk_at "m"
      refine ev_callT (ev_blt rfl (by boot_fast) (by decide) rfl ⟨rfl, ?_⟩ rfl) rfl rfl rfl
      walk_at "m"
      refine ol_listOf .data (by simp; omega) ?_
      walk_at "m"
      refine addp_ok (k := k + 3) (R' _) (Around.frames_deeper FR) (by decide) rfl G GQ q1 (fun x hx => (K.ok x (hpm x hx)).1) q2 q3 (by omega) (by decide) (by omega) (by omega) (fun z => ?_) fun TT' NT' PN' G' GQ' => ?_
      · have hn := K.nd
        rw [hsp, List.nodup_append] at hn
        exact hn.2.2 q z q (.head _) rfl
      walk_at "m"
      exact ⟨rfl, exs_nil ⟨TT', NT', PN', G', GQ', .cons rfl (.cons rfl (.cons rfl .nil)), .refl _⟩⟩
    rintro ⟨ρ', ω'⟩ ⟨TT, NT, PN, G, GQ, hsub, hperm⟩
    dsimp only at hsub hperm
    refine TrF.sub hsub (trF_perm hperm ?_)
    clear hsub hperm
    refine exs_nil (trF_freezeG ?_)
    have hns : ∀ x, x ∈ NT.map (·.1) ↔ x ∈ N0 := fun x => (G.nk x).trans (K.hN x)
    have hnsl : (NT.map (·.1)).length ≤ 10 := Nat.le_trans (nodup_len G.nn fun x hx => (hns x).mp hx) K.lN
    have hnot : ∀ x ∈ NT.map (·.1), x ∉ (["s", "a", "b", "error"] : List Str) ∧ x ≠ "$end" := fun x hx => ⟨G.nd x hx, K.hend x ((hns x).mp hx)⟩
    have hrow : ∀ x ∈ qs.map gpr, x.2.length ≤ 20 ∧ x.1 ∈ NT.map (·.1) ∧ ∀ s ∈ x.2, s ∈ (["s", "a", "b", "error"] : List Str) ∨ s ∈ NT.map (·.1) := fun x hx => by
      obtain ⟨c, hc, rfl⟩ := List.mem_map.mp hx
      refine ⟨by have := (K.ok c hc).2.2; simp [gpr]; omega, (G.nk _).mpr ⟨_, hx, .inl rfl⟩, fun s hs => ?_⟩
      by_cases h : s ∈ (["s", "a", "b", "error"] : List Str)
      · exact .inl h
      · exact .inr ((G.nk _).mpr ⟨_, hx, .inr ⟨hs, h⟩⟩)
    have hzip : ∀ q ∈ (qs.map gpr).zipIdx 1, q.1 ∈ qs.map gpr := fun q hq => List.fst_mem_of_mem_zipIdx hq
    have htso : ∀ t ∈ (["s", "a", "b", "error"] : List Str), PyData.strOk t = true := by decide +kernel
    refine exs_cons (ex_assign (ev_ometh0 ?_ rfl) rfl rfl)
    walk_at "m"
    refine ⟨aGr, selfG g (.none :: psD aProd (qs.map gpr)) (pmD aProd (qs.map gpr)) TT NT PN, 230, .cell (.head _), rfl, rfl, ?_⟩
    refine cfirst_ok (k := k + 5) (ts := ["s", "a", "b", "error"]) (ns := NT.map (·.1)) (qsOf := fun n => ((qs.map gpr).zipIdx 1).filter fun q => q.1.1 == n) (Snd := Snd) (U := U) (R' _) ?_ ?_ (by decide) (by decide) G.nn hnot ?_ ?_ K.hU (by omega) K.hUo htso ?_ (by decide) (by omega) ?_
    · rw [← G.tk, List.map_map]; rfl
    · rw [List.map_map]; rfl
    · intro n hn
      obtain ⟨x, hx, hxn⟩ := K.hall n ((hns n).mp hn)
      obtain ⟨e, he, hen⟩ := List.mem_map.mp ((GQ.pk n).mpr ⟨x, hx, hxn.symm⟩)
      obtain ⟨n', a, l⟩ := e
      have hen : n' = n := hen
      subst hen
      rw [lookup_fE GQ.pn he]
      exact congrArg (fun z => some (D.list z)) (GQ.pc _ he)
    · intro n hn q hq
      obtain ⟨h1, h2, h3⟩ := hrow q.1 (hzip q (List.mem_filter.mp hq).1)
      exact ⟨h1, h3⟩
    · intro FN GF n hn q hq f hf
      obtain ⟨h1, h2⟩ := List.mem_filter.mp hq
      have : q.1.1 = n := by simpa using h2
      rw [← this]
      exact K.cl _ FN hns GF q.1 (hzip q h1) f hf
    intro FN GF hC
    have hC1 : C1 (qs.map gpr) FN := by
      intro x hx f hf
      obtain ⟨i, hz⟩ := zip_has hx
      exact hC x.1 ((hrow x hx).2.1) (x, i) (List.mem_filter.mpr ⟨hz, by simp⟩) f hf
    clear hC
    refine trF_freezeF (ts := ["s", "a", "b", "error"]) (ρ' := [("first", .dct (FDf ["s", "a", "b", "error"] FN)), ("grammar", .obj aGr g.d), ("rules", .list (qs.map dRow)), ("start", .str start)]) ?_ ?_
    · intro x d' e
      by_cases hx : x = "first"
      · subst hx
        right
        refine ⟨rfl, ?_⟩
        simpa [List.lookup_cons] using e.symm
      · left
        have : (x == ("first" : Str)) = false := ne_beq hx
        simp only [List.lookup_cons, this] at e ⊢
        exact e
    have hlk1 : ∀ t ∈ (["s", "a", "b", "error"] : List Str), lkF FN t = [t] := fun t ht => lkF_none (by rw [GF.keys]; exact fun z => (hnot t z).1 ht)
    have hst : start ∈ NT.map (·.1) := (hns _).mpr K.st
    have hsl := K.sl
    refine exs_cons (ex_assign (ev_ometh ?_ rfl rfl rfl) rfl rfl)
    walk_at "m"
    refine ⟨aGr, selfF (.list (.none :: psD aProd (qs.map gpr))) (.dct (PN.map fE)) (.dct (pmD aProd (qs.map gpr))) (.dct (TT.map fE)) (.dct (NT.map fE)) (.dct (FDf ["s", "a", "b", "error"] FN)) (.raw (.ref g.fo)) (.raw (.ref g.us)) .none, 238, .cell (.head _), rfl, rfl, ?_⟩
    walk_at "m"
    refine cfollow_ok (k := k + 5) (qs := (qs.map gpr).zipIdx 1) (ns := NT.map (·.1)) (lk := lkF FN) (Sn := Sn) (U := U) (R' _) ?_ G.nn hst (by omega) (by omega) ?_ ?_ ?_ K.hU2 (by omega) K.hUo K.s0 ?_ ?_ (by omega) (by simp; omega) ?_
    · rw [List.map_map]; rfl
    · simp [FDf]
    · have : FN.length ≤ 10 := by have := congrArg List.length GF.keys; simp at this hnsl; omega
      simp [FDf]; omega
    · intro q hq
      obtain ⟨h1, h2, h3⟩ := hrow q.1 (hzip q hq)
      refine ⟨h1, h2, fun s hs => ⟨?_, ?_⟩⟩
      · obtain ⟨c, hc, e⟩ := List.mem_map.mp (hzip q hq)
        rw [← e] at hs
        obtain ⟨x, hx, rfl⟩ := List.mem_map.mp hs
        exact sym_strOk x ((K.ok c hc).1.2 x hx)
      · rcases h3 s hs with h | h
        · rw [hlk1 s h]
          refine ⟨tD_lookup (by simp only [List.mem_append]; exact .inl h), by simp, fun f hf => ?_⟩
          rw [List.mem_singleton.mp hf]; exact htso s h
        · refine ⟨?_, by have := GF.len K.hU h; omega, fun f hf => K.hUo f (K.hU s f (GF.snd h hf))⟩
          unfold FDf
          rw [lookup_app_none (by rw [tD_keys]; simp only [List.mem_append, List.mem_singleton, not_or]; exact hnot s h)]
          exact fF_at (by rw [GF.keys]; exact h)
    · intro q hq a B b e hB
      exact K.cl1 _ FN hns GF q.1 (hzip q hq) a B b e ((hns B).mp hB)
    · intro q hq a B b e hB
      exact K.cl2 _ FN hns GF q.1 (hzip q hq) a B b e ((hns B).mp hB)
    intro FO GO hE hD
    have hC2 : C2 (qs.map gpr) (NT.map (·.1)) FN FO := by
      intro x hx
      obtain ⟨i, hz⟩ := zip_has hx
      exact hD (x, i) hz
    clear hD
    refine trF_freezeL (ρ' := [("first", .dct (FDf ["s", "a", "b", "error"] FN)), ("follow", .dct (FO.map fF))]) ?_ ?_
    · intro x d' e
      by_cases hx : x = "follow"
      · subst hx
        right
        refine ⟨rfl, ?_⟩
        have e' : some (D.dct (FO.map fF)) = some d' := e
        injection e' with e'; exact e'.symm
      · by_cases hy : x = "first"
        · subst hy
          left; exact e
        · have h1 : (x == ("follow" : Str)) = false := ne_beq hx
          have h2 : (x == ("first" : Str)) = false := ne_beq hy
          simp only [List.lookup_cons, h1, h2] at e
          cases e
    have hkF : ((leF ["s", "a", "b", "error"] FN).map (·.1)).Nodup := by
      rw [leF_keys, GF.keys, List.nodup_append]
      refine ⟨by decide, G.nn, fun a ha b hb e => ?_⟩
      subst e
      rcases List.mem_append.mp ha with ha | ha
      · exact (hnot a hb).1 ha
      · exact (hnot a hb).2 (List.mem_singleton.mp ha)
    have hkL : ((leL FO).map (·.1)).Nodup := by rw [leL_keys, GO.keys]; exact G.nn
    have hl1 : (leF ["s", "a", "b", "error"] FN).length ≤ 20 := by
      have := congrArg List.length GF.keys
      simp [leF] at this hnsl ⊢; omega
    have hl2 : (leL FO).length ≤ 20 := by
      have := congrArg List.length GO.keys
      simp [leL] at this hnsl ⊢; omega
    have hx1 : ∀ x ∈ leF ["s", "a", "b", "error"] FN, x.2.length ≤ 20 := by
      intro x hx
      rcases List.mem_append.mp hx with hx | hx
      · obtain ⟨t, _, rfl⟩ := List.mem_map.mp hx; simp
      · obtain ⟨e, he, rfl⟩ := List.mem_map.mp hx
        exact Nat.le_trans (nodup_len (GF.nd e he) fun f hf => K.hU _ f (GF.sound e he f hf)) K.lU
    have hx2 : ∀ x ∈ leL FO, x.2.length ≤ 20 := by
      intro x hx
      obtain ⟨e, he, rfl⟩ := List.mem_map.mp hx
      exact Nat.le_trans (nodup_len (GO.nd e he) fun f hf => K.hU2 _ f (GO.sound e he f hf)) K.lU
    refine exs_cons (ex_ret (ev_tup (trl_cons (ev_dcomp rfl (compLD (leF ["s", "a", "b", "error"] FN) (fun p => .str p.1) (fun pre => pre.map gS) (fun _ => σ.ω) ?_ rfl ?_ ?_ ?_) (fun _ => rfl)) rfl)))
    · refine src_of ?_
      walk_at "m"
      refine ⟨?_, rfl, rfl⟩
      have : (leF ["s", "a", "b", "error"] FN).map (fun p => D.str p.1) = (FDf ["s", "a", "b", "error"] FN).map (fun p => D.str p.1) := by rw [← leF_gL, List.map_map]; rfl
      rw [this]
      exact itb_dct R.hd
    · intro pre hp
      have := hl1
      simp at hp ⊢; omega
    · intro cl C acc pre x post e
      refine asg_name rfl (ts_nil (ite_t rfl ?_))
      have hx : x ∈ (leF ["s", "a", "b", "error"] FN) := by rw [e]; simp
      have hx2 : x.2.length ≤ 20 := hx1 x hx
      have hn : x.1 ∉ (pre.map gS).map (·.1) := by
        have hk := hkF
        rw [e, List.map_append, List.nodup_append] at hk
        intro z
        have z' : x.1 ∈ pre.map (·.1) := by simpa [gS, Function.comp_def] using z
        exact hk.2.2 x.1 z' x.1 (.head _) rfl
      walk_at "m"
      refine ev_callB (ev_blt rfl (by boot_fast) (by decide) rfl ⟨rfl, ?_⟩ rfl) rfl rfl rfl
      refine trl_cons (ev_sub ?_) rfl
      walk_at "m"
      refine op_dget .data (by rw [← leF_gL]; exact gL_at hkF hx) ?_ (fun _ _ => rfl)
      walk_at "m"
      refine ol_sortedF .data (by omega) ⟨_, rfl, rfl, ?_⟩
      rw [put_new (lookup_none_of hn)]
      simp [gS]
    refine trl_cons (ev_dcomp rfl (compLD (leL FO) (fun p => .str p.1) (fun pre => pre.map gS) (fun _ => σ.ω) ?_ rfl ?_ ?_ ?_) (fun _ => rfl)) rfl
    · refine src_of ?_
      walk_at "m"
      refine ⟨?_, rfl, rfl⟩
      have : (leL FO).map (fun p => D.str p.1) = (FO.map fF).map (fun p => D.str p.1) := by rw [← leL_gL, List.map_map]; rfl
      rw [this]
      exact itb_dct R.hd
    · intro pre hp
      have := hl2
      simp at hp ⊢; omega
    · intro cl C acc pre x post e
      refine asg_name rfl (ts_nil (ite_t rfl ?_))
      have hx : x ∈ (leL FO) := by rw [e]; simp
      have hx2 : x.2.length ≤ 20 := hx2 x hx
      have hn : x.1 ∉ (pre.map gS).map (·.1) := by
        have hk := hkL
        rw [e, List.map_append, List.nodup_append] at hk
        intro z
        have z' : x.1 ∈ pre.map (·.1) := by simpa [gS, Function.comp_def] using z
        exact hk.2.2 x.1 z' x.1 (.head _) rfl
      walk_at "m"
      refine ev_callB (ev_blt rfl (by boot_fast) (by decide) rfl ⟨rfl, ?_⟩ rfl) rfl rfl rfl
      refine trl_cons (ev_sub ?_) rfl
      walk_at "m"
      refine op_dget .data (by rw [← leL_gL]; exact gL_at hkL hx) ?_ (fun _ _ => rfl)
      walk_at "m"
      refine ol_sortedF .data (by omega) ⟨_, rfl, rfl, ?_⟩
      rw [put_new (lookup_none_of hn)]
      simp [gS]
    walk_at "m"
    rw [leF_gS, leL_gS]
    exact p _ FN FO G.nn hns GF hC1 GO hE hC2
end

section

/-! the plain law: what may begin, end, come behind -/
def stepL (rules : List Rule) (van : List Nm) (n m : Nm) : Prop := ∃ r ∈ rules, r.1 = n ∧ ∃ a b, r.2 = a ++ m :: b ∧ ∀ x ∈ a, x ∈ van
def stepR (rules : List Rule) (van : List Nm) (n m : Nm) : Prop := ∃ r ∈ rules, r.1 = n ∧ ∃ a b, r.2 = a ++ m :: b ∧ ∀ x ∈ b, x ∈ van
def nearP (rules : List Rule) (van : List Nm) (x y : Nm) : Prop := ∃ r ∈ rules, ∃ a b c, r.2 = a ++ x :: (b ++ y :: c) ∧ ∀ z ∈ b, z ∈ van
inductive RT (s : Nm → Nm → Prop) : Nm → Nm → Prop
  | refl (n : Nm) : RT s n n
  | head {n m o : Nm} : s n m → RT s m o → RT s n o
theorem RT.snoc {s : Nm → Nm → Prop} {x n m : Nm} (h : RT s x n) (k : s n m) : RT s x m := by
  induction h with
  | refl n => exact .head k (.refl _)
  | head a _ ih => exact .head a (ih k)
theorem RT.mono {s s' : Nm → Nm → Prop} (h : ∀ a b, s a b → s' a b) {n m : Nm} (x : RT s n m) : RT s' n m := by
  induction x with
  | refl n => exact .refl n
  | head a _ ih => exact .head (h _ _ a) ih
theorem mem_front {van : List Nm} {m : Nm} : ∀ {l : List Nm}, m ∈ front van l ↔ ∃ a b, l = a ++ m :: b ∧ ∀ x ∈ a, x ∈ van
  | [] => by simp [front]
  | s :: r => by
    simp only [front, List.mem_cons]
    constructor
    · rintro (rfl | h)
      · exact ⟨[], r, rfl, by simp⟩
      · split at h
        · rename_i hs
          obtain ⟨a, b, e, ha⟩ := mem_front.mp h
          refine ⟨s :: a, b, by rw [e]; rfl, fun x hx => ?_⟩
          rcases List.mem_cons.mp hx with rfl | hx
          · simpa using hs
          · exact ha x hx
        · cases h
    · rintro ⟨a, b, e, ha⟩
      cases a with
      | nil => simp only [List.nil_append, List.cons.injEq] at e; exact .inl e.1.symm
      | cons x a =>
        simp only [List.cons_append, List.cons.injEq] at e
        obtain ⟨rfl, e⟩ := e
        right
        rw [if_pos (by simpa using ha s (.head _))]
        exact mem_front.mpr ⟨a, b, e, fun x hx => ha x (.tail _ hx)⟩
theorem mem_steps {van : List Nm} {rules : List Rule} {n m : Nm} : (n, m) ∈ stepsF van rules ↔ stepL rules van n m := by
  unfold stepsF stepL
  simp only [List.mem_flatMap, List.mem_map, Prod.mk.injEq]
  constructor
  · rintro ⟨r, hr, s, hs, rfl, rfl⟩
    exact ⟨r, hr, rfl, mem_front.mp hs⟩
  · rintro ⟨r, hr, rfl, h⟩
    exact ⟨r, hr, m, mem_front.mpr h, rfl, rfl⟩
theorem mem_allP (p : NP) : p ∈ allP := by obtain ⟨a, b⟩ := p; cases a <;> cases b <;> decide
theorem mem_allN (n : Nm) : n ∈ allN := by cases n <;> decide
theorem wayB_iff {steps : List NP} {n o : Nm} : wayB steps (n, o) = true ↔ n = o ∨ (n, o) ∈ steps ∨ ∃ m, (n, m) ∈ steps ∧ (m, o) ∈ steps := by
  simp only [wayB, Bool.or_eq_true, decide_eq_true_eq, List.any_eq_true, Bool.and_eq_true]
  constructor
  · rintro (h | h | ⟨m, _, h⟩)
    · exact .inl h
    · exact .inr (.inl h)
    · exact .inr (.inr ⟨m, h⟩)
  · rintro (h | h | ⟨m, h⟩)
    · exact .inl h
    · exact .inr (.inl h)
    · exact .inr (.inr ⟨m, mem_allN m, h⟩)
theorem four (n m o p : Nm) : p = n ∨ p = m ∨ p = o ∨ n = m ∨ m = o ∨ n = o :=
  (by decide : ∀ n ∈ allN, ∀ m ∈ allN, ∀ o ∈ allN, ∀ p ∈ allN, p = n ∨ p = m ∨ p = o ∨ n = m ∨ m = o ∨ n = o) n (mem_allN n) m (mem_allN m) o (mem_allN o) p (mem_allN p)
theorem mem_ways {steps : List NP} {n o : Nm} : (n, o) ∈ waysF steps ↔ RT (fun a b => (a, b) ∈ steps) n o := by
  unfold waysF
  rw [List.mem_filter, wayB_iff]
  constructor
  · rintro ⟨_, h | h | ⟨m, h, h'⟩⟩
    · rw [h]; exact .refl _
    · exact .head h (.refl _)
    · exact .head h (.head h' (.refl _))
  · intro h
    refine ⟨mem_allP _, ?_⟩
    induction h with
    | refl n => exact .inl rfl
    | @head n m o h _ ih =>
      rcases ih with ih | ih | ⟨p, h1, h2⟩
      · rw [← ih]; exact .inr (.inl h)
      · exact .inr (.inr ⟨m, h, ih⟩)
      · have : p = n ∨ p = m ∨ p = o ∨ n = m ∨ m = o ∨ n = o := four n m o p
        rcases this with rfl | rfl | rfl | rfl | rfl | rfl
        · exact .inr (.inl h2)
        · exact .inr (.inr ⟨_, h, h2⟩)
        · exact .inr (.inr ⟨_, h, h1⟩)
        · exact .inr (.inr ⟨_, h1, h2⟩)
        · exact .inr (.inl h)
        · exact .inl rfl
theorem waysF_nodup (steps : List NP) : (waysF steps).Nodup := by
  unfold waysF
  exact List.Pairwise.filter _ (by decide : allP.Nodup)
/-! what vanishes -/
theorem mem_vanT {k : List Nm} {r : Rule} {n : Nm} (h : n ∈ vanT k r) : n ∈ k ∨ (n = r.1 ∧ ∀ s ∈ r.2, s ∈ k) := by
  unfold vanT at h
  split at h
  · rename_i hc
    rcases List.mem_append.mp h with h | h
    · exact .inl h
    · right
      simp only [Bool.and_eq_true, List.all_eq_true, decide_eq_true_eq] at hc
      exact ⟨List.mem_singleton.mp h, hc.2⟩
  · exact .inl h
theorem vanT_le {k : List Nm} {r : Rule} : k.length ≤ (vanT k r).length := by unfold vanT; split <;> simp
theorem van1_le : ∀ (rules : List Rule) (k : List Nm), k.length ≤ (rules.foldl vanT k).length
  | [], k => Nat.le_refl _
  | r :: rs, k => Nat.le_trans vanT_le (van1_le rs _)
theorem vanT_nodup {k : List Nm} {r : Rule} (h : k.Nodup) : (vanT k r).Nodup := by
  unfold vanT
  split
  · rename_i hc
    simp only [Bool.and_eq_true, Bool.not_eq_true', decide_eq_false_iff_not] at hc
    rw [List.nodup_append]
    refine ⟨h, by simp, fun a ha b hb => ?_⟩
    rw [List.mem_singleton.mp hb]; rintro rfl; exact hc.1 ha
  · exact h
theorem van1_nodup : ∀ (rules : List Rule) {k : List Nm}, k.Nodup → (rules.foldl vanT k).Nodup
  | [], k, h => h
  | r :: rs, k, h => van1_nodup rs (vanT_nodup h)
theorem van1_min {V : Nm → Prop} : ∀ (rules : List Rule) (k : List Nm), (∀ r ∈ rules, (∀ s ∈ r.2, V s) → V r.1) → (∀ n ∈ k, V n) → ∀ n ∈ rules.foldl vanT k, V n
  | [], k, _, h => h
  | r :: rs, k, hr, h => van1_min rs (vanT k r) (fun x hx => hr x (.tail _ hx)) fun n hn => by
    rcases mem_vanT hn with hn' | ⟨e, hn'⟩
    · exact h n hn'
    · rw [e]; exact hr r (.head _) fun s hs => h s (hn' s hs)
theorem vanN_min {V : Nm → Prop} {rules : List Rule} (hr : ∀ r ∈ rules, (∀ s ∈ r.2, V s) → V r.1) : ∀ i, ∀ n ∈ vanN rules i, V n
  | 0 => by intro n hn; cases hn
  | i + 1 => van1_min rules _ hr (vanN_min hr i)
theorem vanN_nodup (rules : List Rule) : ∀ i, (vanN rules i).Nodup
  | 0 => List.nodup_nil
  | i + 1 => van1_nodup rules (vanN_nodup rules i)
theorem van1_still : ∀ (rules : List Rule) (k : List Nm), (rules.foldl vanT k).length = k.length → rules.foldl vanT k = k ∧ ∀ r ∈ rules, (∀ s ∈ r.2, s ∈ k) → r.1 ∈ k
  | [], k, _ => ⟨rfl, by simp⟩
  | r :: rs, k, h => by
    rw [List.foldl_cons] at h ⊢
    by_cases hc : (!decide (r.1 ∈ k) && r.2.all fun s => decide (s ∈ k)) = true
    · have e : vanT k r = k ++ [r.1] := by unfold vanT; rw [if_pos hc]
      have := van1_le rs (vanT k r)
      rw [e] at this h
      simp at this; omega
    · have e : vanT k r = k := by unfold vanT; rw [if_neg hc]
      rw [e] at h ⊢
      obtain ⟨h1, h2⟩ := van1_still rs k h
      refine ⟨h1, fun x hx hs => ?_⟩
      rcases List.mem_cons.mp hx with rfl | hx
      · by_cases hm : x.1 ∈ k
        · exact hm
        · exact absurd (by simp [hm]; exact hs) hc
      · exact h2 x hx hs
theorem nm_len {l : List Nm} (h : l.Nodup) : l.length ≤ 3 := by
  have h1 : (l.map nm).Nodup := by
    rw [List.nodup_iff_pairwise_ne] at h ⊢
    rw [List.pairwise_map]
    exact h.imp fun hne e => hne (nm_inj.mp e)
  have := nodup_len (U := ["S", "A", "B"]) h1 fun x hx => by
    obtain ⟨n, _, rfl⟩ := List.mem_map.mp hx
    cases n <;> simp [nm]
  simpa using this
theorem vanN_closed (rules : List Rule) : ∀ r ∈ rules, (∀ s ∈ r.2, s ∈ vanN rules 3) → r.1 ∈ vanN rules 3 := by
  have h0 : (vanN rules 0).length = 0 := rfl
  have h1 := van1_le rules (vanN rules 0)
  have h2 := van1_le rules (vanN rules 1)
  have h3 := van1_le rules (vanN rules 2)
  have e1 : vanN rules 1 = rules.foldl vanT (vanN rules 0) := rfl
  have e2 : vanN rules 2 = rules.foldl vanT (vanN rules 1) := rfl
  have e3 : vanN rules 3 = rules.foldl vanT (vanN rules 2) := rfl
  rw [← e1] at h1
  rw [← e2] at h2
  rw [← e3] at h3
  have hl := nm_len (vanN_nodup rules 3)
  by_cases hf : (vanN rules 3).length = 3
  · intro r _ _
    by_cases hm : r.1 ∈ vanN rules 3
    · exact hm
    · have := nm_len (l := r.1 :: vanN rules 3) (List.nodup_cons.mpr ⟨hm, vanN_nodup rules 3⟩)
      rw [List.length_cons] at this; omega
  · have : (vanN rules 1).length = (vanN rules 0).length ∨ (vanN rules 2).length = (vanN rules 1).length ∨ (vanN rules 3).length = (vanN rules 2).length := by omega
    rcases this with h | h | h
    · rw [e1] at h
      obtain ⟨a, b⟩ := van1_still rules _ h
      rw [← e1] at a
      have : vanN rules 3 = vanN rules 0 := by rw [e3, e2, a, ← e1, a, ← e1, a]
      rw [this]; exact b
    · rw [e2] at h
      obtain ⟨a, b⟩ := van1_still rules _ h
      rw [← e2] at a
      have : vanN rules 3 = vanN rules 1 := by rw [e3, a, ← e2, a]
      rw [this]; exact b
    · rw [e3] at h
      obtain ⟨a, b⟩ := van1_still rules _ h
      rw [← e3] at a
      rw [a]; exact b
/-! near -/
theorem mem_foldl_gen {α β : Type} (g : List α → β → List α) (R : β → α → Prop) (h : ∀ n b z, z ∈ g n b ↔ z ∈ n ∨ R b z) : ∀ (l : List β) (n : List α) (z : α), z ∈ l.foldl g n ↔ z ∈ n ∨ ∃ b ∈ l, R b z
  | [], n, z => by simp
  | b :: l, n, z => by
    rw [List.foldl_cons, mem_foldl_gen g R h l, h]
    constructor
    · rintro ((h | h) | ⟨b', hb, h⟩)
      · exact .inl h
      · exact .inr ⟨b, .head _, h⟩
      · exact .inr ⟨b', .tail _ hb, h⟩
    · rintro (h | ⟨b', hb, h⟩)
      · exact .inl (.inl h)
      · rcases List.mem_cons.mp hb with rfl | hb
        · exact .inl (.inr h)
        · exact .inr ⟨b', hb, h⟩
theorem mem_near {van : List Nm} {rules : List Rule} {x y : Nm} : (x, y) ∈ nearF van rules ↔ nearP rules van x y := by
  have h1 : ∀ (n : List NP) (p z : NP), z ∈ nearAdd n p ↔ z ∈ n ∨ z = p := by
    intro n p z
    unfold nearAdd
    split
    · rename_i h
      have h : p ∈ n := by simpa using h
      constructor
      · exact .inl
      · rintro (h' | rfl)
        · exact h'
        · exact h
    · simp
  have h2 : ∀ (syms : List Nm) (n : List NP) (p : Nm × Nat) (z : NP), z ∈ nearI van syms n p ↔ z ∈ n ∨ ∃ o ∈ front van (syms.drop (p.2 + 1)), z = (p.1, o) := fun syms n p z =>
    mem_foldl_gen (fun n o => nearAdd n (p.1, o)) (fun o z => z = (p.1, o)) (fun n o z => h1 n (p.1, o) z) _ n z
  have h3 : ∀ (n : List NP) (r : Rule) (z : NP), z ∈ nearR van n r ↔ z ∈ n ∨ ∃ p ∈ r.2.zipIdx, ∃ o ∈ front van (r.2.drop (p.2 + 1)), z = (p.1, o) := fun n r z =>
    mem_foldl_gen (nearI van r.2) (fun (p : Nm × Nat) z => ∃ o ∈ front van (r.2.drop (p.2 + 1)), z = (p.1, o)) (fun n p z => h2 r.2 n p z) _ n z
  have h4 : (x, y) ∈ nearF van rules ↔ (x, y) ∈ ([] : List NP) ∨ ∃ r ∈ rules, ∃ p ∈ r.2.zipIdx, ∃ o ∈ front van (r.2.drop (p.2 + 1)), (x, y) = (p.1, o) :=
    mem_foldl_gen (nearR van) (fun (r : Rule) z => ∃ p ∈ r.2.zipIdx, ∃ o ∈ front van (r.2.drop (p.2 + 1)), z = (p.1, o)) h3 rules [] (x, y)
  rw [h4]
  constructor
  · rintro (h | ⟨r, hr, ⟨x', i⟩, hp, o, ho, e⟩)
    · cases h
    · injection e with e1 e2
      dsimp only at e1 ho
      subst e1 e2
      obtain ⟨b, c, e, hb⟩ := mem_front.mp ho
      have hg : r.2[i]? = some x := by
        have := List.mem_zipIdx_iff_getElem?.mp hp
        simpa using this
      refine ⟨r, hr, r.2.take i, b, c, ?_, hb⟩
      rw [← e]; exact split_at hg
  · rintro ⟨r, hr, a, b, c, e, hb⟩
    right
    refine ⟨r, hr, (x, a.length), ?_, y, mem_front.mpr ⟨b, c, ?_, hb⟩, rfl⟩
    · rw [List.mem_zipIdx_iff_getElem?, e]; simp
    · rw [e]; simp
end

section

structure Chart (rules : List Rule) (van : List Nm) (H T B : List NP) : Prop where
  vc : ∀ r ∈ rules, (∀ s ∈ r.2, s ∈ van) → r.1 ∈ van
  vm : ∀ V : Nm → Prop, (∀ r ∈ rules, (∀ s ∈ r.2, V s) → V r.1) → ∀ n ∈ van, V n
  h : ∀ n o, (n, o) ∈ H ↔ RT (stepL rules van) n o
  t : ∀ n o, (n, o) ∈ T ↔ RT (stepR rules van) n o
  b : ∀ n o, (n, o) ∈ B ↔ ∃ x y, nearP rules van x y ∧ (x, n) ∈ T ∧ (y, o) ∈ H
  hn : H.Nodup
  tn : T.Nodup
  bn : B.Nodup
theorem epsNe (n : Nm) : epsS ≠ lt n := by cases n <;> decide
theorem endNe (n : Nm) : ("$end" : Str) ≠ lt n := by cases n <;> decide
theorem lt_inj {x y : Nm} : lt x = lt y ↔ x = y := by cases x <;> cases y <;> decide
theorem ltNotN (x y : Nm) : lt x ≠ nm y := by cases x <;> cases y <;> decide
theorem mem_opensF {H : List NP} {n : Nm} {f : Str} : f ∈ opensF H n ↔ ∃ o, f = lt o ∧ (n, o) ∈ H := by
  unfold opensF
  simp only [List.mem_map, List.mem_filter, decide_eq_true_eq]
  constructor
  · rintro ⟨⟨a, b⟩, ⟨h, rfl⟩, rfl⟩; exact ⟨b, rfl, h⟩
  · rintro ⟨o, rfl, h⟩; exact ⟨(n, o), ⟨h, rfl⟩, rfl⟩
theorem mem_dueF1 {H : List NP} {van : List Nm} {n : Nm} {f : Str} : f ∈ dueF1 H van n ↔ (∃ o, f = lt o ∧ (n, o) ∈ H) ∨ (f = epsS ∧ n ∈ van) := by
  unfold dueF1
  rw [List.mem_append, mem_opensF]
  split
  · rename_i h; simp [h]
  · rename_i h; simp [h]
theorem mem_dueL1 {B T : List NP} {st n : Nm} {f : Str} : f ∈ dueL1 B T st n ↔ (∃ o, f = lt o ∧ (n, o) ∈ B) ∨ (f = ("$end" : Str) ∧ (st, n) ∈ T) := by
  unfold dueL1
  rw [List.mem_append, mem_opensF]
  split
  · rename_i h; simp [h]
  · rename_i h; simp [h]
theorem opensF_nodup {H : List NP} (h : H.Nodup) (n : Nm) : (opensF H n).Nodup := by
  unfold opensF
  induction H with
  | nil => exact List.nodup_nil
  | cons p r ih =>
    rw [List.nodup_cons] at h
    rw [List.filter_cons]
    split
    · rename_i hp
      have hp : p.1 = n := by simpa using hp
      rw [List.map_cons, List.nodup_cons]
      refine ⟨fun z => ?_, ih h.2⟩
      obtain ⟨q, hq, e⟩ := List.mem_map.mp z
      obtain ⟨h1, h2⟩ := List.mem_filter.mp hq
      have h2 : q.1 = n := by simpa using h2
      exact h.1 (by
        have : p = q := Prod.ext (hp.trans h2.symm) (lt_inj.mp e.symm)
        rw [this]; exact h1)
    · exact ih h.2
theorem dueF1_nodup {H : List NP} (h : H.Nodup) (van : List Nm) (n : Nm) : (dueF1 H van n).Nodup := by
  unfold dueF1
  rw [List.nodup_append]
  refine ⟨opensF_nodup h n, by split <;> simp, fun a ha b hb e => ?_⟩
  obtain ⟨o, rfl, _⟩ := mem_opensF.mp ha
  split at hb
  · rw [List.mem_singleton.mp hb] at e; exact epsNe o e.symm
  · cases hb
theorem dueL1_nodup {B : List NP} (h : B.Nodup) (T : List NP) (st n : Nm) : (dueL1 B T st n).Nodup := by
  unfold dueL1
  rw [List.nodup_append]
  refine ⟨opensF_nodup h n, by split <;> simp, fun a ha b hb e => ?_⟩
  obtain ⟨o, rfl, _⟩ := mem_opensF.mp ha
  split at hb
  · rw [List.mem_singleton.mp hb] at e; exact endNe o e.symm
  · cases hb
theorem opens_iff {lk : Str → List Str} {f : Str} : ∀ {l : List Str}, Opens lk f l ↔ ∃ a y b, l = a ++ y :: b ∧ (∀ z ∈ a, epsS ∈ lk z) ∧ f ∈ lk y
  | [] => by simp [Opens]
  | y :: r => by
    simp only [Opens]
    constructor
    · rintro (h | ⟨h, h'⟩)
      · exact ⟨[], y, r, rfl, by simp, h⟩
      · obtain ⟨a, z, b, e, h1, h2⟩ := opens_iff.mp h'
        refine ⟨y :: a, z, b, by rw [e]; rfl, fun x hx => ?_, h2⟩
        rcases List.mem_cons.mp hx with rfl | hx
        · exact h
        · exact h1 x hx
    · rintro ⟨a, z, b, e, h1, h2⟩
      cases a with
      | nil => simp only [List.nil_append, List.cons.injEq] at e; rw [e.1]; exact .inl h2
      | cons x a =>
        simp only [List.cons_append, List.cons.injEq] at e
        obtain ⟨rfl, e⟩ := e
        exact .inr ⟨h1 y (.head _), opens_iff.mpr ⟨a, z, b, e, fun x hx => h1 x (.tail _ hx), h2⟩⟩
def gN (τ : Nm → Nm) (m : Nm) : Str := nm (τ m)
theorem gN_inj {τ : Nm → Nm} (hτ : ∀ x y, τ x = τ y → x = y) {x y : Nm} (h : gN τ x = gN τ y) : x = y := hτ _ _ (nm_inj.mp h)
def Rows (rules : List Rule) (τ : Nm → Nm) (ps : List GPr) : Prop := ∀ x, x ∈ ps ↔ (∃ n, x = (gN τ n, [lt n])) ∨ ∃ r ∈ rules, x = (gN τ r.1, r.2.map (gN τ))
def SndOf (H : List NP) (van : List Nm) (τ : Nm → Nm) (s f : Str) : Prop := ∃ n, s = gN τ n ∧ f ∈ dueF1 H van n
def SnOf (B T : List NP) (st : Nm) (τ : Nm → Nm) (s f : Str) : Prop := ∃ n, s = gN τ n ∧ f ∈ dueL1 B T st n
def N0 : List Str := ["S", "A", "B"]
theorem mem_N0 {s : Str} : s ∈ N0 ↔ ∃ n, s = nm n := by
  constructor
  · intro h
    simp only [N0, List.mem_cons, List.not_mem_nil, or_false] at h
    rcases h with rfl | rfl | rfl
    · exact ⟨.S, rfl⟩
    · exact ⟨.A, rfl⟩
    · exact ⟨.B, rfl⟩
  · rintro ⟨n, rfl⟩; cases n <;> simp [N0, nm]
theorem surj {τ : Nm → Nm} (hτ : ∀ x y, τ x = τ y → x = y) (n : Nm) : ∃ m, τ m = n := by
  have h1 : ∀ a b c : Nm, a ≠ b → a ≠ c → b ≠ c → n = a ∨ n = b ∨ n = c := fun a b c => (by decide : ∀ n ∈ allN, ∀ a ∈ allN, ∀ b ∈ allN, ∀ c ∈ allN, a ≠ b → a ≠ c → b ≠ c → n = a ∨ n = b ∨ n = c) n (mem_allN n) a (mem_allN a) b (mem_allN b) c (mem_allN c)
  rcases h1 (τ .S) (τ .A) (τ .B) (fun e => by cases hτ _ _ e) (fun e => by cases hτ _ _ e) (fun e => by cases hτ _ _ e) with h | h | h
  · exact ⟨_, h.symm⟩
  · exact ⟨_, h.symm⟩
  · exact ⟨_, h.symm⟩
theorem mem_N0τ {τ : Nm → Nm} (hτ : ∀ x y, τ x = τ y → x = y) {s : Str} : s ∈ N0 ↔ ∃ n, s = gN τ n := by
  rw [mem_N0]
  constructor
  · rintro ⟨n, rfl⟩
    obtain ⟨m, rfl⟩ := surj hτ n
    exact ⟨m, rfl⟩
  · rintro ⟨n, rfl⟩; exact ⟨_, rfl⟩
section
variable {rules : List Rule} {van : List Nm} {H T B : List NP} {st : Nm} {τ : Nm → Nm} {ps : List GPr} {ns : List Str} {FN FO : List FE}
theorem snd_get (hτ : ∀ x y, τ x = τ y → x = y) (hns : ∀ k, k ∈ ns ↔ k ∈ N0) (G : FGood ns (SndOf H van τ) FN) {n : Nm} {f : Str} (h : f ∈ lkF FN (gN τ n)) : f ∈ dueF1 H van n := by
  obtain ⟨m, e, hm⟩ := G.snd ((hns _).mpr ((mem_N0τ hτ).mpr ⟨n, rfl⟩)) h
  rw [gN_inj hτ e]; exact hm
theorem sn_get (hτ : ∀ x y, τ x = τ y → x = y) (hns : ∀ k, k ∈ ns ↔ k ∈ N0) (G : FGood ns (SnOf B T st τ) FO) {n : Nm} {f : Str} (h : f ∈ lkF FO (gN τ n)) : f ∈ dueL1 B T st n := by
  obtain ⟨m, e, hm⟩ := G.snd ((hns _).mpr ((mem_N0τ hτ).mpr ⟨n, rfl⟩)) h
  rw [gN_inj hτ e]; exact hm
theorem lk_letter (hns : ∀ k, k ∈ ns ↔ k ∈ N0) (hk : FN.map (·.1) = ns) (n : Nm) : lkF FN (lt n) = [lt n] :=
  lkF_none (by rw [hk, hns, mem_N0]; rintro ⟨m, e⟩; exact ltNotN n m e)
theorem van_get (hτ : ∀ x y, τ x = τ y → x = y) (hns : ∀ k, k ∈ ns ↔ k ∈ N0) (G : FGood ns (SndOf H van τ) FN) {n : Nm} (h : epsS ∈ lkF FN (gN τ n)) : n ∈ van := by
  rcases mem_dueF1.mp (snd_get hτ hns G h) with ⟨o, e, _⟩ | ⟨_, h⟩
  · exact absurd e (epsNe o)
  · exact h
/-- what opens a row of names -/
theorem row_opens (hτ : ∀ x y, τ x = τ y → x = y) (hns : ∀ k, k ∈ ns ↔ k ∈ N0) (G : FGood ns (SndOf H van τ) FN) {row : List Nm} {f : Str} (h : f ∈ firstF (lkF FN) (row.map (gN τ))) (hf : f ≠ epsS) :
    ∃ a m b o, row = a ++ m :: b ∧ (∀ z ∈ a, z ∈ van) ∧ f = lt o ∧ (m, o) ∈ H := by
  rcases mem_firstF.mp h with ⟨_, h⟩ | ⟨h, _⟩
  · obtain ⟨a, y, b, e, h1, h2⟩ := opens_iff.mp h
    obtain ⟨a', l', rfl, e1, e2⟩ := List.map_eq_append_iff.mp e
    obtain ⟨m, b', rfl, rfl, e3⟩ := List.map_eq_cons_iff.mp e2
    rcases mem_dueF1.mp (snd_get hτ hns G h2) with ⟨o, e4, h4⟩ | ⟨h4, _⟩
    · refine ⟨a', m, b', o, rfl, fun z hz => van_get hτ hns G (h1 _ ?_), e4, h4⟩
      rw [← e1]; exact List.mem_map_of_mem hz
    · exact absurd h4 hf
  · exact absurd h hf
theorem row_empty (hτ : ∀ x y, τ x = τ y → x = y) (hns : ∀ k, k ∈ ns ↔ k ∈ N0) (G : FGood ns (SndOf H van τ) FN) {row : List Nm} (h : epsS ∈ firstF (lkF FN) (row.map (gN τ))) : ∀ z ∈ row, z ∈ van := by
  rcases mem_firstF.mp h with ⟨h, _⟩ | ⟨_, h⟩
  · exact absurd rfl h
  · exact fun z hz => van_get hτ hns G (h _ (List.mem_map_of_mem hz))
theorem cl_of (C : Chart rules van H T B) (hτ : ∀ x y, τ x = τ y → x = y) (hr : Rows rules τ ps) (hns : ∀ k, k ∈ ns ↔ k ∈ N0) (G : FGood ns (SndOf H van τ) FN) : ∀ p ∈ ps, ∀ f ∈ firstF (lkF FN) p.2, SndOf H van τ p.1 f := by
  intro p hp f hf
  rcases (hr p).mp hp with ⟨n, rfl⟩ | ⟨r, hr', rfl⟩
  · refine ⟨n, rfl, mem_dueF1.mpr (.inl ⟨n, ?_, (C.h n n).mpr (.refl n)⟩)⟩
    have hl := lk_letter hns G.keys n
    rcases mem_firstF.mp hf with ⟨_, h⟩ | ⟨rfl, h⟩
    · simp only [Opens, hl, List.mem_singleton, and_false, or_false] at h; exact h
    · have := h (lt n) (.head _)
      rw [hl, List.mem_singleton] at this
      exact this
  · refine ⟨r.1, rfl, mem_dueF1.mpr ?_⟩
    by_cases he : f = epsS
    · subst he
      exact .inr ⟨rfl, C.vc r hr' (row_empty hτ hns G hf)⟩
    · obtain ⟨a, m, b, o, e, h1, rfl, h2⟩ := row_opens hτ hns G hf he
      exact .inl ⟨o, rfl, (C.h _ _).mpr (.head ⟨r, hr', rfl, a, b, e, h1⟩ ((C.h _ _).mp h2))⟩
theorem split_row (hτ : ∀ x y, τ x = τ y → x = y) (hr : Rows rules τ ps) {p : GPr} (hp : p ∈ ps) {a b : List Str} {S : Str} (e : p.2 = a ++ S :: b) (hS : S ∈ N0) :
    ∃ r ∈ rules, p.1 = gN τ r.1 ∧ ∃ a' m b', r.2 = a' ++ m :: b' ∧ S = gN τ m ∧ b = b'.map (gN τ) := by
  rcases (hr p).mp hp with ⟨n, rfl⟩ | ⟨r, hr', rfl⟩
  · exfalso
    cases a with
    | nil =>
      simp only [List.nil_append, List.cons.injEq] at e
      obtain ⟨m, hm⟩ := mem_N0.mp hS
      exact ltNotN n m (e.1.trans hm)
    | cons x a => simp at e
  · obtain ⟨a', l', e0, e1, e2⟩ := List.map_eq_append_iff.mp e
    obtain ⟨m, b', rfl, e3, e4⟩ := List.map_eq_cons_iff.mp e2
    exact ⟨r, hr', rfl, a', m, b', e0, e3.symm, e4.symm⟩
theorem cl1_of (C : Chart rules van H T B) (hτ : ∀ x y, τ x = τ y → x = y) (hr : Rows rules τ ps) (hns : ∀ k, k ∈ ns ↔ k ∈ N0) (G : FGood ns (SndOf H van τ) FN) : ∀ p ∈ ps, ∀ a S b, p.2 = a ++ S :: b → S ∈ N0 → ∀ f ∈ firstF (lkF FN) b, f ≠ epsS → SnOf B T st τ S f := by
  intro p hp a S b e hS f hf he
  obtain ⟨r, hr', e1, a', m, b', e2, rfl, rfl⟩ := split_row hτ hr hp e hS
  obtain ⟨b1, y, b2, o, e3, h1, rfl, h2⟩ := row_opens hτ hns G hf he
  refine ⟨m, rfl, mem_dueL1.mpr (.inl ⟨o, rfl, (C.b _ _).mpr ⟨m, y, ⟨r, hr', a', b1, b2, by rw [e2, e3], h1⟩, (C.t _ _).mpr (.refl _), h2⟩⟩)⟩
theorem cl2_of (C : Chart rules van H T B) (hτ : ∀ x y, τ x = τ y → x = y) (hr : Rows rules τ ps) (hns : ∀ k, k ∈ ns ↔ k ∈ N0) (G : FGood ns (SndOf H van τ) FN) : ∀ p ∈ ps, ∀ a S b, p.2 = a ++ S :: b → S ∈ N0 → epsS ∈ firstF (lkF FN) b → ∀ f, SnOf B T st τ p.1 f → SnOf B T st τ S f := by
  intro p hp a S b e hS hf f hs
  obtain ⟨r, hr', e1, a', m, b', e2, rfl, rfl⟩ := split_row hτ hr hp e hS
  have hv := row_empty hτ hns G hf
  have hstep : stepR rules van r.1 m := ⟨r, hr', rfl, a', b', e2, hv⟩
  obtain ⟨n, e3, h3⟩ := hs
  rw [e1] at e3
  have := gN_inj hτ e3
  subst this
  refine ⟨m, rfl, mem_dueL1.mpr ?_⟩
  rcases mem_dueL1.mp h3 with ⟨o, rfl, h4⟩ | ⟨rfl, h4⟩
  · obtain ⟨x, y, h5, h6, h7⟩ := (C.b _ _).mp h4
    exact .inl ⟨o, rfl, (C.b _ _).mpr ⟨x, y, h5, (C.t _ _).mpr (((C.t _ _).mp h6).snoc hstep), h7⟩⟩
  · exact .inr ⟨rfl, (C.t _ _).mpr (((C.t _ _).mp h4).snoc hstep)⟩
/-! all that is due is told -/
theorem eps_told (C : Chart rules van H T B) (hr : Rows rules τ ps) (hC : C1 ps FN) {n : Nm} (h : n ∈ van) : epsS ∈ lkF FN (gN τ n) := by
  refine C.vm (fun m => epsS ∈ lkF FN (gN τ m)) (fun r hr' hs => ?_) n h
  refine hC (gN τ r.1, r.2.map (gN τ)) ((hr _).mpr (.inr ⟨r, hr', rfl⟩)) epsS (mem_firstF.mpr (.inr ⟨rfl, fun y hy => ?_⟩))
  obtain ⟨m, hm, rfl⟩ := List.mem_map.mp hy
  exact hs m hm
theorem row_told (C : Chart rules van H T B) (hr : Rows rules τ ps) (hC : C1 ps FN) {a b : List Nm} {m o : Nm} (ha : ∀ z ∈ a, z ∈ van) (h : lt o ∈ lkF FN (gN τ m)) : lt o ∈ firstF (lkF FN) ((a ++ m :: b).map (gN τ)) := by
  refine mem_firstF.mpr (.inl ⟨fun e => epsNe o e.symm, opens_iff.mpr ⟨a.map (gN τ), gN τ m, b.map (gN τ), by simp, fun z hz => ?_, h⟩⟩)
  obtain ⟨x, hx, rfl⟩ := List.mem_map.mp hz
  exact eps_told C hr hC (ha x hx)
theorem lt_told (C : Chart rules van H T B) (hr : Rows rules τ ps) (hns : ∀ k, k ∈ ns ↔ k ∈ N0) (hk : FN.map (·.1) = ns) (hC : C1 ps FN) {n o : Nm} (h : (n, o) ∈ H) : lt o ∈ lkF FN (gN τ n) := by
  replace h := (C.h _ _).mp h
  induction h with
  | refl n =>
    refine hC (gN τ n, [lt n]) ((hr _).mpr (.inl ⟨n, rfl⟩)) (lt n) (mem_firstF.mpr (.inl ⟨fun e => epsNe n e.symm, ?_⟩))
    simp only [Opens, lk_letter hns hk, List.mem_singleton, true_or]
  | head hs _ ih =>
    obtain ⟨r, hr', rfl, a, b, e, ha⟩ := hs
    refine hC (gN τ r.1, r.2.map (gN τ)) ((hr _).mpr (.inr ⟨r, hr', rfl⟩)) _ ?_
    dsimp only
    rw [e]
    exact row_told C hr hC ha ih
theorem first_iff (C : Chart rules van H T B) (hτ : ∀ x y, τ x = τ y → x = y) (hr : Rows rules τ ps) (hns : ∀ k, k ∈ ns ↔ k ∈ N0) (G : FGood ns (SndOf H van τ) FN) (hC : C1 ps FN) (n : Nm) (f : Str) : f ∈ lkF FN (gN τ n) ↔ f ∈ dueF1 H van n := by
  constructor
  · exact snd_get hτ hns G
  · intro h
    rcases mem_dueF1.mp h with ⟨o, rfl, h4⟩ | ⟨rfl, h4⟩
    · exact lt_told C hr hns G.keys hC h4
    · exact eps_told C hr hC h4
theorem ends_told (C : Chart rules van H T B) (hτ : ∀ x y, τ x = τ y → x = y) (hr : Rows rules τ ps) (hns : ∀ k, k ∈ ns ↔ k ∈ N0) (hC : C1 ps FN) (hD : C2 ps ns FN FO) {x n : Nm} {f : Str} (h : (x, n) ∈ T) (hf : f ∈ lkF FO (gN τ x)) : f ∈ lkF FO (gN τ n) := by
  replace h := (C.t _ _).mp h
  induction h with
  | refl n => exact hf
  | head hs _ ih =>
    refine ih ?_
    obtain ⟨r, hr', rfl, a, b, e, hb⟩ := hs
    refine (hD (gN τ r.1, r.2.map (gN τ)) ((hr _).mpr (.inr ⟨r, hr', rfl⟩)) (a.map (gN τ)) _ (b.map (gN τ)) (by dsimp only; rw [e]; simp) ((hns _).mpr ((mem_N0τ hτ).mpr ⟨_, rfl⟩))).2 ?_ f hf
    refine mem_firstF.mpr (.inr ⟨rfl, fun y hy => ?_⟩)
    obtain ⟨m, hm, rfl⟩ := List.mem_map.mp hy
    exact eps_told C hr hC (hb m hm)
theorem follow_iff (C : Chart rules van H T B) (hτ : ∀ x y, τ x = τ y → x = y) (hr : Rows rules τ ps) (hns : ∀ k, k ∈ ns ↔ k ∈ N0) (G : FGood ns (SndOf H van τ) FN) (hC : C1 ps FN) (GO : FGood ns (SnOf B T st τ) FO) (hE : ("$end" : Str) ∈ lkF FO (gN τ st)) (hD : C2 ps ns FN FO) (n : Nm) (f : Str) :
    f ∈ lkF FO (gN τ n) ↔ f ∈ dueL1 B T st n := by
  constructor
  · exact sn_get hτ hns GO
  · intro h
    rcases mem_dueL1.mp h with ⟨o, rfl, h4⟩ | ⟨rfl, h4⟩
    · obtain ⟨x, y, ⟨r, hr', a, b, c, e, hb⟩, h2, h3⟩ := (C.b _ _).mp h4
      refine ends_told C hτ hr hns hC hD h2 ?_
      refine (hD (gN τ r.1, r.2.map (gN τ)) ((hr _).mpr (.inr ⟨r, hr', rfl⟩)) (a.map (gN τ)) _ ((b ++ y :: c).map (gN τ)) (by dsimp only; rw [e]; simp) ((hns _).mpr ((mem_N0τ hτ).mpr ⟨_, rfl⟩))).1 _ ?_ (fun e => epsNe o e.symm)
      exact row_told C hr hC hb (lt_told C hr hns G.keys hC h3)
    · exact ends_told C hτ hr hns hC hD h4 hE
end
end

section

/-! the grammar as it is told -/
def cN : Nm → Nat
  | .S => 83
  | .A => 65
  | .B => 66
def cL : Nm → Nat
  | .S => 115
  | .A => 97
  | .B => 98
theorem symN (n : Nm) : symS (cN n) = nm n := by cases n <;> decide +kernel
theorem symL (n : Nm) : symS (cL n) = lt n := by cases n <;> decide +kernel
def codeR (τ : Nm → Nm) (r : Rule) : CPr := (cN (τ r.1), r.2.map fun m => cN (τ m))
def codeLt (τ : Nm → Nm) (n : Nm) : CPr := (cN (τ n), [cL n])
def codes (τ : Nm → Nm) (rules : List Rule) : List CPr := allN.map (codeLt τ) ++ rules.map (codeR τ)
theorem gpr_codeR (τ : Nm → Nm) (r : Rule) : gpr (codeR τ r) = (gN τ r.1, r.2.map (gN τ)) := by
  simp [gpr, codeR, symN, gN, Function.comp_def]
theorem gpr_codeLt (τ : Nm → Nm) (n : Nm) : gpr (codeLt τ n) = (gN τ n, [lt n]) := by
  simp [gpr, codeLt, symN, symL, gN]
theorem cN_inj {x y : Nm} (h : cN x = cN y) : x = y := by cases x <;> cases y <;> first | rfl | cases h
theorem cLN (x y : Nm) : cL x ≠ cN y := by cases x <;> cases y <;> decide
theorem codes_nodup {τ : Nm → Nm} (hτ : ∀ x y, τ x = τ y → x = y) {rules : List Rule} (h : rules.Nodup) : (codes τ rules).Nodup := by
  unfold codes
  have hl : ∀ {a b : List Nm}, a.map (fun m => cN (τ m)) = b.map (fun m => cN (τ m)) → a = b := by
    intro a
    induction a with
    | nil => intro b h; cases b with | nil => rfl | cons => simp at h
    | cons x a ih => intro b h; cases b with
      | nil => simp at h
      | cons y b => simp only [List.map_cons, List.cons.injEq] at h; rw [hτ _ _ (cN_inj h.1), ih h.2]
  rw [List.nodup_append]
  refine ⟨?_, ?_, fun a ha b hb e => ?_⟩
  · rw [List.nodup_iff_pairwise_ne, List.pairwise_map]
    have : allN.Nodup := by decide
    exact (List.nodup_iff_pairwise_ne.mp this).imp fun hne e => hne (hτ _ _ (cN_inj (congrArg Prod.fst e)))
  · rw [List.nodup_iff_pairwise_ne, List.pairwise_map]
    exact (List.nodup_iff_pairwise_ne.mp h).imp fun hne e => hne (Prod.ext (hτ _ _ (cN_inj (congrArg Prod.fst e))) (hl (congrArg Prod.snd e)))
  · obtain ⟨n, _, rfl⟩ := List.mem_map.mp ha
    obtain ⟨r, _, rfl⟩ := List.mem_map.mp hb
    have := congrArg Prod.snd e
    simp only [codeLt, codeR] at this
    cases hr : r.2 with
    | nil => rw [hr] at this; cases this
    | cons y b => rw [hr] at this; simp only [List.map_cons, List.cons.injEq] at this; exact cLN _ _ this.1
theorem rows_codes {τ : Nm → Nm} {rules : List Rule} {qs : List CPr} (h : ∀ x, x ∈ qs ↔ x ∈ codes τ rules) : Rows rules τ (qs.map gpr) := by
  intro x
  constructor
  · intro hx
    obtain ⟨q, hq, rfl⟩ := List.mem_map.mp hx
    rcases List.mem_append.mp ((h q).mp hq) with hq | hq
    · obtain ⟨n, _, rfl⟩ := List.mem_map.mp hq; exact .inl ⟨n, gpr_codeLt τ n⟩
    · obtain ⟨r, hr, rfl⟩ := List.mem_map.mp hq; exact .inr ⟨r, hr, gpr_codeR τ r⟩
  · rintro (⟨n, rfl⟩ | ⟨r, hr, rfl⟩)
    · rw [← gpr_codeLt]; exact List.mem_map_of_mem ((h _).mpr (List.mem_append_left _ (List.mem_map_of_mem (mem_allN n))))
    · rw [← gpr_codeR]; exact List.mem_map_of_mem ((h _).mpr (List.mem_append_right _ (List.mem_map_of_mem hr)))
def Ul : List Str := ["s", "a", "b", "<empty>", "$end"]
theorem Ul_ok : ∀ f ∈ Ul, PyData.strOk f = true := by decide +kernel
theorem lt_Ul (n : Nm) : lt n ∈ Ul := by cases n <;> simp [Ul, lt]
theorem nm_ts (n : Nm) : nm n ∉ (["s", "a", "b", "error"] : List Str) := by cases n <;> decide
theorem lt_ts (n : Nm) : lt n ∈ (["s", "a", "b", "error"] : List Str) := by cases n <;> decide
section
variable {rules : List Rule} {van : List Nm} {H T B : List NP} {st : Nm} {τ : Nm → Nm} {qs : List CPr}
theorem asks_of (C : Chart rules van H T B) (hτ : ∀ x y, τ x = τ y → x = y) (h : ∀ x, x ∈ qs ↔ x ∈ codes τ rules) (hn : qs.Nodup) (hl : qs.length ≤ 100) (hrow : ∀ r ∈ rules, r.2.length ≤ 3) :
    Asks ["s", "a", "b", "error"] qs N0 (gN τ st) (SndOf H van τ) (SnOf B T st τ) Ul := by
  have hr := rows_codes h
  refine ⟨fun q hq => ?_, hn, hl, fun k => ?_, fun k hk => ?_, fun k hk => ?_, by decide, (mem_N0τ hτ).mpr ⟨st, rfl⟩, ?_, ?_, ?_, by decide, Ul_ok, ?_, ⟨st, rfl, mem_dueL1.mpr (.inr ⟨rfl, (C.t _ _).mpr (.refl _)⟩)⟩, ?_, ?_⟩
  · have hc : ∀ n, cN n ∈ symCodes := by intro n; cases n <;> decide
    have hc2 : ∀ n, cL n ∈ symCodes := by intro n; cases n <;> decide
    rcases List.mem_append.mp ((h q).mp hq) with hq | hq
    · obtain ⟨n, _, rfl⟩ := List.mem_map.mp hq
      refine ⟨⟨hc _, fun c hcc => ?_⟩, ?_, ?_⟩
      · rw [List.mem_singleton.mp hcc]; exact hc2 n
      · show symS (cN (τ n)) ∉ _; rw [symN]; exact nm_ts _
      · simp [codeLt]
    · obtain ⟨r, hr', rfl⟩ := List.mem_map.mp hq
      refine ⟨⟨hc _, fun c hcc => ?_⟩, ?_, ?_⟩
      · obtain ⟨m, _, rfl⟩ := List.mem_map.mp hcc; exact hc _
      · show symS (cN (τ r.1)) ∉ _; rw [symN]; exact nm_ts _
      · have := hrow r hr'; simp [codeR]; omega
  · constructor
    · rintro ⟨p, hp, hk⟩
      rcases (hr p).mp hp with ⟨n, rfl⟩ | ⟨r, hr', rfl⟩
      · rcases hk with rfl | ⟨hk, hk'⟩
        · exact (mem_N0τ hτ).mpr ⟨n, rfl⟩
        · rw [List.mem_singleton.mp hk] at hk'; exact absurd (lt_ts n) hk'
      · rcases hk with rfl | ⟨hk, hk'⟩
        · exact (mem_N0τ hτ).mpr ⟨_, rfl⟩
        · obtain ⟨m, _, rfl⟩ := List.mem_map.mp hk; exact (mem_N0τ hτ).mpr ⟨_, rfl⟩
    · intro hk
      obtain ⟨n, rfl⟩ := (mem_N0τ hτ).mp hk
      exact ⟨_, (hr _).mpr (.inl ⟨n, rfl⟩), .inl rfl⟩
  · obtain ⟨n, rfl⟩ := (mem_N0τ hτ).mp hk
    exact ⟨_, (hr _).mpr (.inl ⟨n, rfl⟩), rfl⟩
  · obtain ⟨n, rfl⟩ := mem_N0.mp hk
    cases n <;> decide
  · show (nm (τ st)).length = 1
    cases τ st <;> decide +kernel
  · rintro s f ⟨n, rfl, hf⟩
    rcases mem_dueF1.mp hf with ⟨o, rfl, _⟩ | ⟨rfl, _⟩
    · exact lt_Ul o
    · decide
  · rintro s f ⟨n, rfl, hf⟩
    rcases mem_dueL1.mp hf with ⟨o, rfl, _⟩ | ⟨rfl, _⟩
    · exact lt_Ul o
    · decide
  · exact fun ns FN hns G => cl_of C hτ hr hns G
  · exact fun ns FN hns G => cl1_of C hτ hr hns G
  · exact fun ns FN hns G => cl2_of C hτ hr hns G
end
/-! turned round -/
def revR (r : Rule) : Rule := (r.1, r.2.reverse)
theorem revR_inj {a b : Rule} (h : revR a = revR b) : a = b := by
  unfold revR at h; simp only [Prod.mk.injEq] at h; exact Prod.ext h.1 (List.reverse_inj.mp h.2)
def flipP (p : NP) : NP := (p.2, p.1)
theorem stepL_rev {rules rules' : List Rule} {van : List Nm} (hm : ∀ x, x ∈ rules' ↔ ∃ r ∈ rules, x = revR r) {n m : Nm} : stepL rules' van n m ↔ stepR rules van n m := by
  constructor
  · rintro ⟨r', hr', rfl, a, b, e, ha⟩
    obtain ⟨r, hr, rfl⟩ := (hm r').mp hr'
    refine ⟨r, hr, rfl, b.reverse, a.reverse, ?_, fun x hx => ha x (List.mem_reverse.mp hx)⟩
    have := congrArg List.reverse e
    simpa [revR] using this
  · rintro ⟨r, hr, rfl, a, b, e, hb⟩
    refine ⟨revR r, (hm _).mpr ⟨r, hr, rfl⟩, rfl, b.reverse, a.reverse, ?_, fun x hx => hb x (List.mem_reverse.mp hx)⟩
    simp [revR, e]
theorem stepR_rev {rules rules' : List Rule} {van : List Nm} (hm : ∀ x, x ∈ rules' ↔ ∃ r ∈ rules, x = revR r) {n m : Nm} : stepR rules' van n m ↔ stepL rules van n m := by
  constructor
  · rintro ⟨r', hr', rfl, a, b, e, ha⟩
    obtain ⟨r, hr, rfl⟩ := (hm r').mp hr'
    refine ⟨r, hr, rfl, b.reverse, a.reverse, ?_, fun x hx => ha x (List.mem_reverse.mp hx)⟩
    have := congrArg List.reverse e
    simpa [revR] using this
  · rintro ⟨r, hr, rfl, a, b, e, hb⟩
    refine ⟨revR r, (hm _).mpr ⟨r, hr, rfl⟩, rfl, b.reverse, a.reverse, ?_, fun x hx => hb x (List.mem_reverse.mp hx)⟩
    simp [revR, e]
theorem near_rev {rules rules' : List Rule} {van : List Nm} (hm : ∀ x, x ∈ rules' ↔ ∃ r ∈ rules, x = revR r) {x y : Nm} : nearP rules' van y x ↔ nearP rules van x y := by
  constructor
  · rintro ⟨r', hr', a, b, c, e, hb⟩
    obtain ⟨r, hr, rfl⟩ := (hm r').mp hr'
    refine ⟨r, hr, c.reverse, b.reverse, a.reverse, ?_, fun x hx => hb x (List.mem_reverse.mp hx)⟩
    have := congrArg List.reverse e
    simpa [revR] using this
  · rintro ⟨r, hr, a, b, c, e, hb⟩
    refine ⟨revR r, (hm _).mpr ⟨r, hr, rfl⟩, c.reverse, b.reverse, a.reverse, ?_, fun x hx => hb x (List.mem_reverse.mp hx)⟩
    simp [revR, e]
theorem RT.iff {s s' : Nm → Nm → Prop} (h : ∀ a b, s a b ↔ s' a b) {n m : Nm} : RT s n m ↔ RT s' n m := ⟨RT.mono fun a b => (h a b).mp, RT.mono fun a b => (h a b).mpr⟩
theorem mem_flip {B : List NP} {n o : Nm} : (n, o) ∈ B.map flipP ↔ (o, n) ∈ B := by
  constructor
  · intro h
    obtain ⟨⟨a, b⟩, hp, e⟩ := List.mem_map.mp h
    simp only [flipP, Prod.mk.injEq] at e
    obtain ⟨rfl, rfl⟩ := e
    exact hp
  · intro h; exact List.mem_map.mpr ⟨(o, n), h, rfl⟩
theorem Chart.turn {rules rules' : List Rule} {van : List Nm} {H T B : List NP} (C : Chart rules van H T B) (hm : ∀ x, x ∈ rules' ↔ ∃ r ∈ rules, x = revR r) : Chart rules' van T H (B.map flipP) := by
  refine ⟨fun r' hr' hs => ?_, fun V hV => C.vm V fun r hr hs => ?_, fun n o => ?_, fun n o => ?_, fun n o => ?_, C.tn, C.hn, ?_⟩
  · obtain ⟨r, hr, rfl⟩ := (hm r').mp hr'
    exact C.vc r hr fun s h => hs s (List.mem_reverse.mpr h)
  · exact hV (revR r) ((hm _).mpr ⟨r, hr, rfl⟩) fun s h => hs s (List.mem_reverse.mp h)
  · rw [C.t]; exact (RT.iff fun a b => stepL_rev hm).symm
  · rw [C.h]; exact (RT.iff fun a b => stepR_rev hm).symm
  · rw [mem_flip, C.b]
    constructor
    · rintro ⟨x, y, h1, h2, h3⟩; exact ⟨y, x, (near_rev hm).mpr h1, h3, h2⟩
    · rintro ⟨x, y, h1, h2, h3⟩; exact ⟨y, x, (near_rev hm).mp h1, h3, h2⟩
  · rw [List.nodup_iff_pairwise_ne, List.pairwise_map]
    exact (List.nodup_iff_pairwise_ne.mp C.bn).imp fun hne e => hne (Prod.ext (congrArg Prod.snd e) (congrArg Prod.fst e))
def behB (T H near : List NP) (p : NP) : Bool := near.any fun q => decide ((q.1, p.1) ∈ T) && decide ((q.2, p.2) ∈ H)
def behindF (T H near : List NP) : List NP := allP.filter (behB T H near)
theorem chart_of (rules : List Rule) : Chart rules (vanN rules 3) (waysF (stepsF (vanN rules 3) rules)) (waysF (stepsF (vanN rules 3) (rules.map revR)))
    (behindF (waysF (stepsF (vanN rules 3) (rules.map revR))) (waysF (stepsF (vanN rules 3) rules)) (nearF (vanN rules 3) rules)) := by
  refine ⟨vanN_closed rules, fun V hV => vanN_min hV 3, fun n o => ?_, fun n o => ?_, fun n o => ?_, waysF_nodup _, waysF_nodup _, List.Pairwise.filter _ (by decide : allP.Nodup)⟩
  · rw [mem_ways]; exact RT.iff fun a b => mem_steps
  · rw [mem_ways]
    refine RT.iff fun a b => mem_steps.trans (stepL_rev fun x => ?_)
    rw [List.mem_map]
    exact ⟨fun ⟨r, hr, e⟩ => ⟨r, hr, e.symm⟩, fun ⟨r, hr, e⟩ => ⟨r, hr, e.symm⟩⟩
  · unfold behindF behB
    rw [List.mem_filter]
    simp only [List.any_eq_true, Bool.and_eq_true, decide_eq_true_eq]
    constructor
    · rintro ⟨_, ⟨x, y⟩, hq, h1, h2⟩; exact ⟨x, y, mem_near.mp hq, h1, h2⟩
    · rintro ⟨x, y, hq, h1, h2⟩; exact ⟨mem_allP _, (x, y), mem_near.mpr hq, h1, h2⟩
end

section

/-! told and due are the same -/
theorem okd_strs {l : List Str} (h : ∀ s ∈ l, PyData.strOk s = true) : okd 2 (.list (l.map D.str)) = true := by
  show (l.map D.str).all (okd 1) = true
  exact ok_strs h 1
theorem deq_strs {l : List Str} (h : ∀ s ∈ l, PyData.strOk s = true) : deq (.list (l.map D.str)) (.list (l.map D.str)) = true :=
  SeqAt.eqv_refl _ (okd_lay 2 _ (okd_strs h)).1
theorem lookup_names {g : Nm → Str} {h : Nm → D} (hg : ∀ x y, g x = g y → x = y) {n : Nm} : ∀ {l : List Nm}, n ∈ l → (l.map fun n => (g n, h n)).lookup (g n) = some (h n)
  | [], z => by cases z
  | m :: r, z => by
    simp only [List.map_cons, List.lookup_cons]
    by_cases hm : g n = g m
    · have : (g n == g m) = true := by simpa using hm
      rw [this, hg _ _ hm]
    · rw [ne_beq hm]
      rcases List.mem_cons.mp z with rfl | z
      · exact absurd rfl hm
      · exact lookup_names hg z
theorem lkF_of {e : FE} : ∀ {L : List FE}, (L.map (·.1)).Nodup → e ∈ L → lkF L e.1 = e.2.2
  | [], _, h => by cases h
  | q :: r, hn, h => by
    simp only [List.map_cons, List.nodup_cons] at hn
    simp only [lkF]
    rcases List.mem_cons.mp h with rfl | h
    · simp
    · have hne : (e.1 == q.1) = false := ne_beq fun z => hn.1 (by rw [← z]; exact List.mem_map_of_mem (f := (·.1)) h)
      rw [hne]
      simpa using lkF_of hn.2 h
def part (τ : Nm → Nm) (due : Nm → List Str) : List (Str × D) := allN.map fun n => (gN τ n, .list ((sortS (due n)).map .str))
theorem part_eq {τ : Nm → Nm} (hτ : ∀ x y, τ x = τ y → x = y) {ns : List Str} {Snd : Str → Str → Prop} {L : List FE} {due : Nm → List Str} (hnd : ns.Nodup) (hns : ∀ k, k ∈ ns ↔ k ∈ N0) (G : FGood ns Snd L) (hdn : ∀ n, (due n).Nodup) (hi : ∀ n f, f ∈ lkF L (gN τ n) ↔ f ∈ due n) (hok : ∀ n, ∀ f ∈ due n, PyData.strOk f = true) :
    L.length = 3 ∧ ∀ e ∈ L, (∃ n, e.1 = gN τ n) ∧ ∃ d', (part τ due).lookup e.1 = some d' ∧ okd 2 (fS e).2 = true ∧ okd 2 d' = true ∧ deq (fS e).2 d' = true := by
  refine ⟨?_, fun e he => ?_⟩
  · have p := perm_of_mem hnd (by decide : N0.Nodup) hns
    have := p.length_eq
    rw [← G.keys] at this
    simpa [N0] using this
  · have hk : e.1 ∈ ns := by rw [← G.keys]; exact List.mem_map_of_mem (f := (·.1)) he
    obtain ⟨n, hn⟩ := (mem_N0τ hτ).mp ((hns _).mp hk)
    refine ⟨⟨n, hn⟩, _, by rw [hn]; exact lookup_names (fun x y => gN_inj hτ) (mem_allN n), ?_⟩
    have hl : lkF L (gN τ n) = e.2.2 := by rw [← hn]; exact lkF_of (by rw [G.keys]; exact hnd) he
    have hp : e.2.2.Perm (due n) := perm_of_mem (G.nd e he) (hdn n) fun f => by rw [← hl]; exact hi n f
    have hs : sortS e.2.2 = sortS (due n) := sortS_congr hp
    have hos : ∀ s ∈ sortS (due n), PyData.strOk s = true := fun s h => hok n s (sortS_mem.mp h)
    show okd 2 (.list ((sortS e.2.2).map .str)) = true ∧ _ ∧ deq (.list ((sortS e.2.2).map .str)) _ = true
    rw [hs]
    exact ⟨okd_strs hos, okd_strs hos, deq_strs hos⟩
section
variable {rules : List Rule} {van : List Nm} {H T B : List NP} {st : Nm} {τ : Nm → Nm} {ps : List GPr} {ns : List Str} {FN FO : List FE}
theorem dueF_ok (n : Nm) : ∀ f ∈ dueF1 H van n, PyData.strOk f = true := fun f hf => by
  rcases mem_dueF1.mp hf with ⟨o, rfl, _⟩ | ⟨rfl, _⟩
  · exact Ul_ok _ (lt_Ul o)
  · exact epsOk
theorem dueL_ok (n : Nm) : ∀ f ∈ dueL1 B T st n, PyData.strOk f = true := fun f hf => by
  rcases mem_dueL1.mp hf with ⟨o, rfl, _⟩ | ⟨rfl, _⟩
  · exact Ul_ok _ (lt_Ul o)
  · exact endOk
theorem first_eqd (C : Chart rules van H T B) (hτ : ∀ x y, τ x = τ y → x = y) (hr : Rows rules τ ps) (hnd : ns.Nodup) (hns : ∀ k, k ∈ ns ↔ k ∈ N0) (G : FGood ns (SndOf H van τ) FN) (hC : C1 ps FN) : EqDct 2 (toldF ["s", "a", "b", "error"] FN) (dueFD H van τ allN) := by
  obtain ⟨h1, h2⟩ := part_eq hτ hnd hns G (dueF1_nodup C.hn van) (first_iff C hτ hr hns G hC) (fun n => dueF_ok n)
  have hts : ∀ t ∈ (["s", "a", "b", "error", "$end"] : List Str), PyData.strOk t = true := by decide +kernel
  refine ⟨by simp [toldF, dueFD, allN, h1], fun p hp => ?_⟩
  rcases List.mem_append.mp hp with hp | hp
  · obtain ⟨t, ht, rfl⟩ := List.mem_map.mp hp
    have ht : t ∈ (["s", "a", "b", "error", "$end"] : List Str) := ht
    have hos : ∀ s ∈ [t], PyData.strOk s = true := fun s h => by rw [List.mem_singleton.mp h]; exact hts t ht
    exact ⟨_, tD_lookup ht, okd_strs hos, okd_strs hos, deq_strs hos⟩
  · obtain ⟨e, he, rfl⟩ := List.mem_map.mp hp
    obtain ⟨⟨n, hn⟩, d', h3, h4⟩ := h2 e he
    refine ⟨d', ?_, h4⟩
    show (dueFD H van τ allN).lookup e.1 = some d'
    unfold dueFD
    rw [lookup_app_none (by rw [tD_keys, hn]; unfold gN; cases τ n <;> decide)]
    exact h3
theorem follow_eqd (C : Chart rules van H T B) (hτ : ∀ x y, τ x = τ y → x = y) (hr : Rows rules τ ps) (hnd : ns.Nodup) (hns : ∀ k, k ∈ ns ↔ k ∈ N0) (G : FGood ns (SndOf H van τ) FN) (hC : C1 ps FN) (GO : FGood ns (SnOf B T st τ) FO) (hE : ("$end" : Str) ∈ lkF FO (gN τ st)) (hD : C2 ps ns FN FO) :
    EqDct 2 (toldL FO) (dueLD B T st τ allN) := by
  obtain ⟨h1, h2⟩ := part_eq hτ hnd hns GO (dueL1_nodup C.bn T st) (follow_iff C hτ hr hns G hC GO hE hD) (fun n => dueL_ok n)
  refine ⟨by simp [toldL, dueLD, allN, h1], fun p hp => ?_⟩
  obtain ⟨e, he, rfl⟩ := List.mem_map.mp hp
  obtain ⟨_, d', h3, h4⟩ := h2 e he
  exact ⟨d', h3, h4⟩
end
end

section
variable {w : World} {mg mb : Str → Option Value} {fr : List Env} {A : Around} {env : Env} {σ : Sg} {P : D → Sg → Prop} {Q : Fl → Sg → Prop}
set_option maxHeartbeats 4000000
def idxN : Nm → Nat
  | .S => 0
  | .A => 1
  | .B => 2
def tau (sh : Nat) (n : Nm) : Nm := nmOf ((idxN n : Int) + (sh : Int))
theorem tau_inj {sh : Nat} (h : sh < 3) : ∀ x y, tau sh x = tau sh y → x = y := by
  have : sh = 0 ∨ sh = 1 ∨ sh = 2 := by omega
  rcases this with rfl | rfl | rfl <;> intro x y <;> cases x <;> cases y <;> decide
theorem flat_len : ∀ l : List Nm, (l.flatMap fun o => allN.map fun u => (o, u)).length = 3 * l.length
  | [] => rfl
  | x :: r => by
    rw [List.flatMap_cons, List.length_append, flat_len r]
    simp [allN]; omega
theorem nearF_len {van : List Nm} : ∀ {rules : List Rule} {n : List NP}, (∀ r ∈ rules, r.2.length ≤ 10) → (rules.foldl (nearR van) n).length ≤ n.length + 100 * rules.length
  | [], n, _ => by simp
  | r :: rs, n, h => by
    have h1 := nearF_len (van := van) (rules := rs) (n := nearR van n r) fun x hx => h x (.tail _ hx)
    have h2 := nearR_len (van := van) (n := n) (h r (.head _))
    simp only [List.foldl_cons, List.length_cons]; omega
theorem id_inj : ∀ x y : Nm, id x = id y → x = y := fun _ _ h => h
theorem dRow_codeR (τ : Nm → Nm) (r : Rule) : dRow (codeR τ r) = .tup [dN (τ r.1), .list (r.2.map fun m => dN (τ m))] := by
  simp [dRow, codeR, symN, dN, Function.comp_def]
theorem dRow_codeLt (τ : Nm → Nm) (n : Nm) : dRow (codeLt τ n) = .tup [dN (τ n), .list [.str (lt n)]] := by
  simp [dRow, codeLt, symN, symL, dN]
theorem law_ok {ns : List Int} {k : Nat} (R : ARoom (k + 12) A) (FR : A.frames = some fr) (hz : ns.length ≤ 1000) (p : P (.bool true) σ) :
    OpL (X3 w mg mb fr) A env σ (fun vs => call (.ref 305) vs) [.list (ns.map .int)] P ∧ (fr = [] → σ = ⟨[], []⟩ → CallT (X3 w mg mb fr) A 305 [.list (ns.map .int)] P) := by
  refine fn_both (dbs := [("script", .list (ns.map .int))]) ⟨⟨_, _, _, rfl⟩, rfl, rfl, rfl, rfl, rfl, rfl, rfl, rfl, rfl, rfl, rfl, rfl⟩ R.room ?_ rfl rfl ?_
  · intro s b vs T hb r
    obtain ⟨v1, _, rfl, r1, r⟩ := r.inv
    cases r.inv0
    exact ⟨_, BindsTo.of_eq rfl, .cons r1 .nil⟩
  · intro L
    have hsl' := hsl
    have R' : ∀ e, ARoom (k + 11) (A.deeper e) := fun e => R.deeper
    try dsimp only
    refine exs_cons (ex_assign_compC rfl (compLC (ns.take 24) D.int (fun pre => (pre.map fun n => n.fmod 720720).map D.int) (fun _ => σ.ω) ?_ rfl ?_ ?_ ?_) rfl rfl (fun _ => rfl))
    · refine src_of (ev_slice_to ?_ rfl)
      walk_at "m"
      refine ⟨_, 24, rfl, by simp; omega, .data, ?_⟩
      rw [← List.map_take]
      exact ⟨itb_list R.hd, rfl, rfl⟩
    · intro pre hp; simp at hp ⊢; omega
    · intro cl C acc pre x post e
      refine asg_name rfl (ts_nil (ite_t rfl ?_))
      walk_at "m"
      refine op_mod (by decide) ⟨rfl, ?_⟩
      simp
    intro t
    have hl0 : ((ns.take 24).map fun n => n.fmod 720720).length ≤ 24 := by simp; omega
    generalize ((ns.take 24).map fun n => n.fmod 720720) = ns0 at hl0 ⊢
    try dsimp only
    walk_at "m"
    refine ev_callO (ev_glob (v := .ref 261) rfl (fun _ _ => .raw _) rfl ⟨rfl, ?_⟩ rfl) rfl rfl rfl rfl
    walk_at "m"
    refine next_ok (k := k + 10) (R' _) (by walk_at "upd") (by omega) ?_
    walk_at "m"
    refine op_mod (by decide) ?_
    obtain ⟨sh, hsh, hsh3⟩ : ∃ c : Nat, (ns0.headD 0).fmod 3 = (c : Int) ∧ c < 3 := by
      have h0 : (ns0.headD 0).fmod 3 = (ns0.headD 0) % 3 := Int.fmod_eq_emod_of_nonneg _ (by decide)
      exact ⟨((ns0.headD 0) % 3).toNat, by omega, by omega⟩
    rw [hsh]
    have hl1 : ns0.tail.length ≤ 24 := by rw [List.length_tail]; omega
    generalize ns0.tail = ns1 at hl1 ⊢
    walk_at "m"
    refine ev_sub (ev_glob rfl names_rp rfl ?_ rfl)
    refine ev_bin (ev_callO (ev_glob (v := .ref 261) rfl (fun _ _ => .raw _) rfl ⟨rfl, ?_⟩ rfl) rfl rfl rfl rfl)
    walk_at "m"
    refine next_ok (k := k + 10) (R' _) (by walk_at "upd") (by omega) ?_
    walk_at "m"
    refine op_mod (by decide) ?_
    obtain ⟨h7, h8⟩ := nmOf_at (ns1.headD 0)
    refine op_item .data h7 h8 (by decide) ?_ (fun _ _ => rfl)
    generalize nmOf (ns1.headD 0) = st
    have hl2 : ns1.tail.length ≤ 24 := by rw [List.length_tail]; omega
    generalize ns1.tail = ns2 at hl2 ⊢
    -- the rules
    walk_at "m"
    refine ev_callO (ev_glob (v := .ref 266) rfl (fun _ _ => .raw _) rfl ⟨rfl, ?_⟩ rfl) rfl rfl rfl rfl
    walk_at "m"
    refine rules_ok (k := k + 9) (R' _) (by omega) fun rules ns3 GR => ?_
    have gr1 := GR.len
    have gr2 := GR.rows
    walk_at "m"
    refine ev_callO (ev_glob (v := .ref 278) rfl (fun _ _ => .raw _) rfl ⟨rfl, ?_⟩ rfl) rfl rfl rfl rfl
    walk_at "m"
    refine vanishing_ok (k := k + 10) (R' _) (by omega) (fun r hr => by have := gr2 r hr; omega) ?_
    have hv : (vanN rules 3).length ≤ 3 := nm_len (vanN_nodup rules 3)
    have CH := chart_of rules
    generalize vanN rules 3 = van at hv CH ⊢
    walk_at "m"
    refine ev_callO (ev_glob (v := .ref 283) rfl (fun _ _ => .raw _) rfl ⟨rfl, ?_⟩ rfl) rfl rfl rfl rfl
    walk_at "m"
    refine ways_ok (k := k + 10) (R' _) (by omega) (fun r hr => by have := gr2 r hr; omega) (by omega) ?_
    have hwl : ∀ s, (waysF s).length ≤ 9 := fun s => by
      have := List.length_filter_le (wayB s) allP
      exact this
    have hH := hwl (stepsF van rules)
    generalize waysF (stepsF van rules) = H at hH CH ⊢
    walk_at "m"
    refine ev_callO (ev_glob (v := .ref 283) rfl (fun _ _ => .raw _) rfl ⟨rfl, ?_⟩ rfl) rfl rfl rfl rfl
    refine trl_cons (ev_comp rfl (compL rules dRule (fun pre => (pre.map revR).map dRule) (fun _ => (t, .lst (ns3.map .int)) :: σ.ω) ?_ rfl ?_ ?_ ?_) (fun _ => rfl)) rfl
    · refine src_of ?_
      walk_at "m"
      exact ⟨itb_list R.hd, rfl, rfl⟩
    · intro pre hp; simp at hp ⊢; omega
    · intro cl C acc pre x post e
      refine asg_tup2 R.hd rfl rfl (ts_nil (ite_t rfl ?_))
      have hx := gr2 x (by rw [e]; simp)
      walk_at "m"
      refine ev_callO (ev_glob (v := .ref 273) rfl (fun _ _ => .raw _) rfl ⟨rfl, ?_⟩ rfl) rfl rfl rfl rfl
      walk_at "m"
      refine turned_ok (k := k + 10) (R' _) (by simp; omega) ?_
      walk_at "m"
      refine ⟨rfl, ?_⟩
      simp [dRule, revR]
    walk_at "m"
    refine ways_ok (rules := rules.map revR) (k := k + 10) (R' _) (by simp; omega) (fun r hr => by
      obtain ⟨x, hx, rfl⟩ := List.mem_map.mp hr
      have := gr2 x hx; simp [revR]; omega) (by omega) ?_
    have hT := hwl (stepsF van (rules.map revR))
    generalize waysF (stepsF van (rules.map revR)) = TT at hT CH ⊢
    walk_at "m"
    refine ev_callO (ev_glob (v := .ref 290) rfl (fun _ _ => .raw _) rfl ⟨rfl, ?_⟩ rfl) rfl rfl rfl rfl
    walk_at "m"
    refine near_ok (k := k + 10) (R' _) (by omega) (fun r hr => by have := gr2 r hr; omega) (by omega) ?_
    have hNl : (nearF van rules).length ≤ 1000000 := by
      have := nearF_len (van := van) (rules := rules) (n := []) fun r hr => by have := gr2 r hr; omega
      simp at this
      unfold nearF; omega
    generalize nearF van rules = near at hNl CH ⊢
    walk_at "m"
    refine ev_listC (trl_nil ⟨Nat.le_of_ble_eq_true rfl, fun bh => ?_⟩)
    try dsimp only
    walk_at "m"
    refine ex_forP allN dN (fun pre σ' => Sub σ'.ρ [("behind", .raw (.ref bh)), ("near", .list (near.map dP)), ("tails", .list (TT.map dP)), ("heads", .list (H.map dP)), ("vanish", .list (van.map dN)), ("rules", dRules rules), ("start", dN st), ("shift", .int (sh : Int))] ∧ σ'.ω = (bh, .lst (((pre.flatMap fun o => allN.map fun u => (o, u)).filter (behB TT H near)).map dP)) :: (t, .lst (ns3.map .int)) :: σ.ω) ?_ ?_ ?_ (fun _ => rfl)
    · exact src_of (ev_glob rfl names_rp rfl ⟨itb_list R.hd, .cons rfl (.cons rfl (.cons rfl (.cons rfl (.cons rfl (.cons rfl (.cons rfl (.cons rfl .nil))))))), rfl⟩ rfl)
    · rintro pre one post ⟨ρ', ω'⟩ hsp ⟨hsub, hω⟩
      dsimp only at hsub hω
      subst hω
      refine Asg.sub hsub (asg_name rfl ?_)
      clear hsub
      have hpl : pre.length ≤ 2 := by have := congrArg List.length hsp; simp [allN] at this; omega
      have ho : ((pre.flatMap fun o => allN.map fun u => (o, u)).filter (behB TT H near)).length ≤ 6 := by
        have h1 := List.length_filter_le (behB TT H near) (pre.flatMap fun o => allN.map fun u => (o, u))
        have h2 := flat_len pre
        omega
      have hst1 : (((pre ++ [one]).flatMap fun o => allN.map fun u => (o, u)).filter (behB TT H near)) = ((pre.flatMap fun o => allN.map fun u => (o, u)).filter (behB TT H near)) ++ (allN.map fun u => (one, u)).filter (behB TT H near) := by simp
      rw [hst1]
      generalize ((pre.flatMap fun o => allN.map fun u => (o, u)).filter (behB TT H near)) = out at ho ⊢
      try dsimp only
      refine exs_cons (ex_forP allN dN (fun q σ' => Sub σ'.ρ [("one", dN one), ("behind", .raw (.ref bh)), ("near", .list (near.map dP)), ("tails", .list (TT.map dP)), ("heads", .list (H.map dP)), ("vanish", .list (van.map dN)), ("rules", dRules rules), ("start", dN st), ("shift", .int (sh : Int))] ∧ σ'.ω = (bh, .lst ((out ++ (q.map fun u => (one, u)).filter (behB TT H near)).map dP)) :: (t, .lst (ns3.map .int)) :: σ.ω) ?_ ?_ ?_ (fun _ => rfl))
      · exact src_of (ev_glob rfl names_rp rfl ⟨itb_list R.hd, .cons rfl (.cons rfl (.cons rfl (.cons rfl (.cons rfl (.cons rfl (.cons rfl (.cons rfl (.cons rfl .nil)))))))), by simp⟩ rfl)
      · rintro q other post2 ⟨ρ', ω'⟩ hsp2 ⟨hsub, hω⟩
        dsimp only at hsub hω
        subst hω
        refine Asg.sub hsub (asg_name rfl ?_)
        clear hsub
        have hql : q.length ≤ 2 := by have := congrArg List.length hsp2; simp [allN] at this; omega
        have hst2 : ((q ++ [other]).map fun u => (one, u)).filter (behB TT H near) = (q.map fun u => (one, u)).filter (behB TT H near) ++ (if behB TT H near (one, other) = true then [(one, other)] else []) := by
          rw [List.map_append, List.filter_append]; simp [List.filter_cons]
        rw [hst2]
        have hq2 : ((q.map fun u => (one, u)).filter (behB TT H near)).length ≤ 2 := by
          have h1 := List.length_filter_le (behB TT H near) (q.map fun u => (one, u))
          simp at h1 ⊢; omega
        generalize (q.map fun u => (one, u)).filter (behB TT H near) = out2 at hq2 ⊢
        try dsimp only
        refine exs_cons (ex_if (te_plain (ev_callB (ev_blt rfl (by boot_fast) (by decide) rfl ⟨rfl, ?_⟩ rfl) rfl rfl rfl) rfl))
        refine trl_cons (ev_comp rfl (compL near dP (fun pre => (pre.map fun r => decide ((r.1, one) ∈ TT) && decide ((r.2, other) ∈ H)).map D.bool) (fun _ => (bh, .lst ((out ++ out2).map dP)) :: (t, .lst (ns3.map .int)) :: σ.ω) ?_ rfl ?_ ?_ ?_) (fun _ => rfl)) rfl
        · refine src_of ?_
          walk_at "m"
          exact ⟨itb_list R.hd, rfl, rfl⟩
        · intro pre hp; simp at hp ⊢; omega
        · intro cl C acc pre x post e
          refine asg_tup2 R.hd rfl rfl (ts_nil (ite_t rfl ?_))
          refine ev_and (ev_cmp (ev_tup ?_) rfl)
          walk_at "m"
          refine op_in (x := dP (x.1, one)) (R' _) .data (okP 0 _) (okPs 0 _) (by decide) (ob_bool (ite_b (fun h1 => ev_one (ev_cmp (ev_tup ?_) rfl)) (fun h1 => ⟨rfl, ?_⟩)))
          · walk_at "m"
            refine op_in (x := dP (x.2, other)) (R' _) .data (okP 0 _) (okPs 0 _) (by decide) ⟨rfl, ?_⟩
            rw [anyP] at h1 ⊢
            simp [h1]
          · rw [anyP] at h1 ⊢
            simp [h1]
        refine trl_nil (ol_any R.hd .data (ob_bool ?_))
        have hany : (near.map fun r => decide ((r.1, one) ∈ TT) && decide ((r.2, other) ∈ H)).any id = behB TT H near (one, other) := by
          rw [List.any_map]; rfl
        rw [hany]
        refine ite_b (fun hb => ?_) (fun hb => ?_)
        · rw [if_pos hb]
          refine exs_cons (ex_expr (ev_meth (T := "list") (id := "list.append") ?_ F.plainAttrs_list F.slot_list_append F.type_list_append rfl rfl rfl rfl rfl) rfl rfl)
          walk_at "m"
          refine ⟨isTy_lst (.cell (by walk_at "mem")), ?_⟩
          walk_at "m"
          refine ol_append .head (by simp; omega) ⟨rfl, ?_⟩
          walk_at "m"
          exact ⟨.cons rfl (.cons rfl (.cons rfl (.cons rfl (.cons rfl (.cons rfl (.cons rfl (.cons rfl (.cons rfl .nil)))))))), by simp [dP]⟩
        · rw [hb]
          walk_at "m"
          exact ⟨.cons rfl (.cons rfl (.cons rfl (.cons rfl (.cons rfl (.cons rfl (.cons rfl (.cons rfl (.cons rfl .nil)))))))), by simp⟩
      · rintro ⟨ρ', ω'⟩ ⟨hsub, hω⟩
        dsimp only at hsub hω
        subst hω
        refine TrF.sub hsub ?_
        clear hsub
        exact exs_nil (exs_nil ⟨.cons rfl (.cons rfl (.cons rfl (.cons rfl (.cons rfl (.cons rfl (.cons rfl (.cons rfl .nil))))))), rfl⟩)
    rintro ⟨ρ', ω'⟩ ⟨hsub, hω⟩
    dsimp only at hsub hω
    subst hω
    refine TrF.sub hsub ?_
    clear hsub
    have hbe : ((allN.flatMap fun o => allN.map fun u => (o, u)).filter (behB TT H near)) = behindF TT H near := rfl
    rw [hbe]
    have hB : (behindF TT H near).length ≤ 9 := List.length_filter_le (behB TT H near) allP
    generalize behindF TT H near = BB at hB CH ⊢
    refine exs_nil ?_
    refine trF_freeze (a := bh) (ds := BB.map dP) (ρ' := [("behind", .list (BB.map dP)), ("near", .list (near.map dP)), ("tails", .list (TT.map dP)), ("heads", .list (H.map dP)), ("vanish", .list (van.map dN)), ("rules", dRules rules), ("start", dN st), ("shift", .int (sh : Int))]) ?_ ?_
    · intro x d' e
      by_cases hx : x = "behind"
      · subst hx
        right
        refine ⟨rfl, ?_⟩
        have e' : some (D.list (BB.map dP)) = some d' := e
        injection e' with e'; exact e'.symm
      · left
        have : (x == ("behind" : Str)) = false := ne_beq hx
        simp only [List.lookup_cons, this] at e ⊢
        exact e
    refine trF_drop (ω' := σ.ω) (List.sublist_cons_self _ _) ?_
    -- the two renamings
    refine exs_cons (ex_assign_dcomp rfl (compLD allN dN (fun pre => pre.map fun n => (nm n, dN (id n))) (fun _ => σ.ω) ?_ rfl ?_ ?_ ?_) rfl rfl (fun _ => rfl))
    · exact src_of (ev_glob rfl names_rp rfl ⟨itb_list R.hd, rfl, rfl⟩ rfl)
    · intro pre hp; simp [allN] at hp ⊢; omega
    · intro cl C acc pre x post e
      refine asg_name rfl (ts_nil (ite_t rfl ?_))
      walk_at "m"
      refine ⟨_, rfl, rfl, ?_⟩
      have hx : nm x ∉ (pre.map fun n => (nm n, dN (id n))).map (·.1) := by
        have hn : allN.Nodup := by decide
        rw [e, List.nodup_append] at hn
        intro z
        simp only [List.map_map, List.mem_map, Function.comp] at z
        obtain ⟨m, hm, h⟩ := z
        rw [nm_inj.mp h] at hm
        exact hn.2.2 x hm x (.head _) rfl
      rw [put_new (lookup_none_of hx)]
      simp
    refine exs_cons (ex_assign (ev_dcomp rfl (compLD allN.zipIdx (fun p => .tup [.int (p.2 : Nat), dN p.1]) (fun pre => pre.map fun p => (nm p.1, dN (nmOf ((p.2 : Int) + (sh : Int))))) (fun _ => σ.ω) ?_ rfl ?_ ?_ ?_) (fun _ => rfl)) rfl rfl)
    · rw [← enumD_map]
      exact src_enum R.hd (ev_blt rfl (by boot_fast) (by decide) rfl ⟨rfl, ev_glob rfl names_rp rfl ⟨rfl, rfl, rfl⟩ rfl⟩ rfl) rfl rfl
    · intro pre hp; simp [allN] at hp ⊢; omega
    · intro cl C acc pre x post e
      refine asg_tup2 R.hd rfl rfl (ts_nil (ite_t rfl ?_))
      walk_at "m"
      refine ev_sub (ev_glob rfl names_rp rfl ?_ rfl)
      walk_at "m"
      refine op_add ?_
      walk_at "m"
      refine op_mod (by decide) ?_
      obtain ⟨h7, h8⟩ := nmOf_at ((x.2 : Int) + (sh : Int))
      refine op_item .data h7 h8 (by decide) ⟨_, rfl, rfl, ?_⟩ (fun _ _ => rfl)
      have hx : nm x.1 ∉ (pre.map fun p : Nm × Nat => (nm p.1, dN (nmOf ((p.2 : Int) + (sh : Int))))).map (·.1) := by
        have hn : (allN.zipIdx.map (·.1)).Nodup := by decide
        rw [e, List.map_append, List.nodup_append] at hn
        intro z
        simp only [List.map_map, List.mem_map, Function.comp] at z
        obtain ⟨m, hm, h⟩ := z
        refine hn.2.2 m.1 (List.mem_map_of_mem hm) x.1 (.head _) ?_
        exact nm_inj.mp h
      rw [put_new (lookup_none_of hx)]
      simp
    have ht1 : D.dct (allN.map fun n => (nm n, dN (id n))) = .dct (turnD id) := rfl
    have ht2 : D.dct (allN.zipIdx.map fun p => (nm p.1, dN (nmOf ((p.2 : Int) + (sh : Int))))) = .dct (turnD (tau sh)) := rfl
    rw [ht1, ht2]
    have hτ := tau_inj hsh3
    generalize tau sh = τ at hτ ⊢
    refine exs_cons (ex_assign_comp rfl (compL allN dN (fun pre => pre.map fun n => .tup [dN n, .list [.str (lt n)]]) (fun _ => σ.ω) ?_ rfl ?_ ?_ ?_) rfl rfl (fun _ => rfl))
    · exact src_of (ev_glob rfl names_rp rfl ⟨itb_list R.hd, rfl, rfl⟩ rfl)
    · intro pre hp; simp [allN] at hp ⊢; omega
    · intro cl C acc pre x post e
      refine asg_name rfl (ts_nil (ite_t rfl ?_))
      walk_at "m"
      refine ev_list (trl_cons (ev_sub (ev_glob rfl letters_rp rfl ?_ rfl)) rfl)
      walk_at "m"
      refine op_dget .data (letD_at x) ?_ (fun _ _ => rfl)
      walk_at "m"
      exact ⟨rfl, by simp⟩
    try dsimp only
    refine exs_cons (ex_assign_comp rfl (compL allN (fun n => .tup [dN n, .list [.str (lt n)]]) (fun pre => pre.map fun n => .tup [dN (τ n), .list [.str (lt n)]]) (fun _ => σ.ω) ?_ rfl ?_ ?_ ?_) rfl rfl (fun _ => rfl))
    · refine src_of ?_
      walk_at "m"
      exact ⟨itb_list R.hd, rfl, rfl⟩
    · intro pre hp; simp [allN] at hp ⊢; omega
    · intro cl C acc pre x post e
      refine asg_tup2 R.hd rfl rfl (ts_nil (ite_t rfl ?_))
      refine ev_tup (trl_cons (ev_sub ?_) rfl)
      walk_at "m"
      refine op_dget .data (turnD_at τ x) ?_ (fun _ _ => rfl)
      walk_at "m"
      exact ⟨rfl, by simp⟩
    try dsimp only
    refine exs_cons (ex_forP rules dRule (fun pre σ' => Sub σ'.ρ [("back", .list ((pre.reverse.map fun r : Rule => D.tup [dN (τ r.1), .list (r.2.reverse.map fun m => dN (τ m))]) ++ allN.map fun n => .tup [dN (τ n), .list [.str (lt n)]])), ("letters", .list (allN.map fun n => .tup [dN n, .list [.str (lt n)]])), ("turn", .dct (turnD τ)), ("same", .dct (turnD id)), ("behind", .list (BB.map dP)), ("tails", .list (TT.map dP)), ("heads", .list (H.map dP)), ("vanish", .list (van.map dN)), ("rules", dRules rules), ("start", dN st)] ∧ σ'.ω = σ.ω) ?_ ?_ ?_ (fun _ => rfl))
    · refine src_of ?_
      walk_at "m"
      exact ⟨itb_list R.hd, .cons rfl (.cons rfl (.cons rfl (.cons rfl (.cons rfl (.cons rfl (.cons rfl (.cons rfl (.cons rfl (.cons rfl .nil))))))))), rfl⟩
    · rintro pre r post ⟨ρ', ω'⟩ hsp ⟨hsub, hω⟩
      dsimp only at hsub hω
      subst hω
      refine Asg.sub hsub (asg_tup2 R.hd rfl rfl ?_)
      clear hsub
      have hr3 := gr2 r (by rw [hsp]; simp)
      have hpl : pre.length ≤ 3 := by have := congrArg List.length hsp; simp at this; omega
      have hst : ((pre ++ [r]).reverse.map fun r : Rule => D.tup [dN (τ r.1), .list (r.2.reverse.map fun m => dN (τ m))]) = D.tup [dN (τ r.1), .list (r.2.reverse.map fun m => dN (τ m))] :: (pre.reverse.map fun r : Rule => D.tup [dN (τ r.1), .list (r.2.reverse.map fun m => dN (τ m))]) := by simp
      rw [hst]
      have hbl : ((pre.reverse.map fun r : Rule => D.tup [dN (τ r.1), .list (r.2.reverse.map fun m => dN (τ m))]) ++ allN.map fun n => D.tup [dN (τ n), .list [.str (lt n)]]).length ≤ 6 := by simp [allN]; omega
      rw [List.cons_append]
      generalize ((pre.reverse.map fun r : Rule => D.tup [dN (τ r.1), .list (r.2.reverse.map fun m => dN (τ m))]) ++ allN.map fun n => D.tup [dN (τ n), .list [.str (lt n)]]) = BK at hbl ⊢
      try dsimp only
      refine exs_cons (ex_assign (ev_bin (ev_list (trl_cons (ev_tup (trl_cons (ev_sub ?_) rfl)) rfl))) rfl rfl)
      walk_at "m"
      refine op_dget .data (turnD_at τ r.1) ?_ (fun _ _ => rfl)
      refine trl_cons (ev_comp rfl (compL r.2.reverse dN (fun pre => pre.map fun m => dN (τ m)) (fun _ => σ.ω) ?_ rfl ?_ ?_ ?_) (fun _ => rfl)) rfl
      · refine src_of ?_
        refine ev_callO (ev_glob (v := .ref 273) rfl (fun _ _ => .raw _) rfl ⟨rfl, ?_⟩ rfl) rfl rfl rfl rfl
        walk_at "m"
        refine turned_ok (k := k + 10) (R' _) (by simp; omega) ⟨?_, rfl, rfl⟩
        rw [← List.map_reverse]; exact itb_list R.hd
      · intro pre hp; simp at hp ⊢; omega
      · intro cl C acc pre x post e
        refine asg_name rfl (ts_nil (ite_t rfl ?_))
        refine ev_sub ?_
        walk_at "m"
        refine op_dget .data (turnD_at τ x) ⟨rfl, by simp⟩ (fun _ _ => rfl)
      walk_at "m"
      refine op_addl .data .data (by simp; omega) ?_
      walk_at "m"
      exact ⟨.cons rfl (.cons rfl (.cons rfl (.cons rfl (.cons rfl (.cons rfl (.cons rfl (.cons rfl (.cons rfl (.cons rfl .nil))))))))), rfl⟩
    rintro ⟨ρ', ω'⟩ ⟨hsub, hω⟩
    dsimp only at hsub hω
    subst hω
    refine TrF.sub hsub ?_
    clear hsub
    refine exs_nil ?_
    have hq1 : (allN.map fun n => D.tup [dN n, .list [.str (lt n)]]) ++ rules.map dRule = (codes id rules).map dRow := by
      simp [codes, dRow_codeLt, dRow_codeR, dRule, Function.comp_def]
    have hq2 : ((rules.reverse.map fun r : Rule => D.tup [dN (τ r.1), .list (r.2.reverse.map fun m => dN (τ m))]) ++ allN.map fun n => D.tup [dN (τ n), .list [.str (lt n)]]) = (((rules.reverse.map revR).map (codeR τ)) ++ allN.map (codeLt τ)).map dRow := by
      simp [dRow_codeLt, dRow_codeR, revR, Function.comp_def]
    rw [hq2]
    have hlen1 : (codes id rules).length ≤ 100 := by simp [codes, allN]; omega
    have hnl9 : allN.length = 3 := rfl
    have K1 := asks_of (qs := codes id rules) (st := st) CH id_inj (fun x => Iff.rfl) (codes_nodup id_inj GR.nd) hlen1 gr2
    -- the grammar as it is
    refine exs_cons (ex_if (te_cmp ?_ rfl))
    refine ev_callO (ev_glob (v := .ref 300) rfl (fun _ _ => .raw _) rfl ⟨rfl, ?_⟩ rfl) rfl rfl rfl rfl
    walk_at "m"
    refine op_addl .data .data (by simp; omega) ?_
    rw [hq1]
    walk_at "m"
    refine told_ok (start := gN id st) (k := k + 3) (R' _) (Around.frames_deeper FR) K1 fun ns FN FO hnd hns G hC GO hE hD => ?_
    refine ev_callO (ev_glob (v := .ref 295) rfl (fun _ _ => .raw _) rfl ⟨rfl, ?_⟩ rfl) rfl rfl rfl rfl
    walk_at "m"
    refine due_ok (τ := id) (k := k + 10) (R' _) id_inj (by omega) (by omega) (by omega) (by omega) ?_
    have hr1 : Rows rules id ((codes id rules).map gpr) := rows_codes fun x => Iff.rfl
    refine op_ne_dd (n := 2) (R' _) (by decide) (first_eqd CH id_inj hr1 hnd hns G hC) (follow_eqd CH id_inj hr1 hnd hns G hC GO hE hD) (ob_bool (ite_f rfl ?_))
    clear hnd hns G hC GO hE hD K1 hr1
    refine exs_nil ?_
    -- turned round
    refine exs_cons (ex_assign_comp rfl (compL BB dP (fun pre => (pre.map flipP).map dP) (fun _ => σ.ω) ?_ rfl ?_ ?_ ?_) rfl rfl (fun _ => rfl))
    · refine src_of ?_
      walk_at "m"
      exact ⟨itb_list R.hd, rfl, rfl⟩
    · intro pre hp; simp at hp ⊢; omega
    · intro cl C acc pre x post e
      refine asg_tup2 R.hd rfl rfl (ts_nil (ite_t rfl ?_))
      walk_at "m"
      exact ⟨rfl, by simp [dP, flipP]⟩
    try dsimp only
    have hm : ∀ x, x ∈ rules.reverse.map revR ↔ ∃ r ∈ rules, x = revR r := fun x => by
      rw [List.mem_map]
      exact ⟨fun ⟨r, hr, e⟩ => ⟨r, List.mem_reverse.mp hr, e.symm⟩, fun ⟨r, hr, e⟩ => ⟨r, List.mem_reverse.mpr hr, e.symm⟩⟩
    have CH2 := CH.turn hm
    have hnd2 : (rules.reverse.map revR).Nodup := by
      rw [List.nodup_iff_pairwise_ne, List.pairwise_map]
      exact (List.nodup_iff_pairwise_ne.mp ((List.reverse_perm rules).nodup_iff.mpr GR.nd)).imp fun hne e => hne (revR_inj e)
    have hrow2 : ∀ r ∈ rules.reverse.map revR, r.2.length ≤ 3 := fun r hr => by
      obtain ⟨x, hx, rfl⟩ := (hm r).mp hr
      have := gr2 x hx
      simp [revR]; omega
    have hmem2 : ∀ x, x ∈ ((rules.reverse.map revR).map (codeR τ)) ++ allN.map (codeLt τ) ↔ x ∈ codes τ (rules.reverse.map revR) := fun x => by
      unfold codes; simp only [List.mem_append]; exact Or.comm
    have hndq : (((rules.reverse.map revR).map (codeR τ)) ++ allN.map (codeLt τ)).Nodup := (List.perm_append_comm.nodup_iff).mp (codes_nodup hτ hnd2)
    have hlen2 : (((rules.reverse.map revR).map (codeR τ)) ++ allN.map (codeLt τ)).length ≤ 100 := by simp; omega
    generalize rules.reverse.map revR = rules2 at hm CH2 hnd2 hrow2 hmem2 hndq hlen2 ⊢
    have K2 := asks_of (st := st) CH2 hτ hmem2 hndq hlen2 hrow2
    have hr2 := rows_codes hmem2
    generalize (rules2.map (codeR τ)) ++ allN.map (codeLt τ) = qs2 at hmem2 hndq hlen2 K2 hr2 ⊢
    refine exs_cons (ex_ret (ev_cmp ?_ rfl))
    refine ev_callO (ev_glob (v := .ref 300) rfl (fun _ _ => .raw _) rfl ⟨rfl, ?_⟩ rfl) rfl rfl rfl rfl
    walk_at "m"
    refine ev_sub ?_
    walk_at "m"
    refine op_dget .data (turnD_at τ st) ?_ (fun _ _ => rfl)
    walk_at "m"
    refine told_ok (start := gN τ st) (k := k + 3) (R' _) (Around.frames_deeper FR) K2 fun ns FN FO hnd hns G hC GO hE hD => ?_
    refine ev_callO (ev_glob (v := .ref 295) rfl (fun _ _ => .raw _) rfl ⟨rfl, ?_⟩ rfl) rfl rfl rfl rfl
    walk_at "m"
    refine due_ok (τ := τ) (behind := BB.map flipP) (k := k + 10) (R' _) hτ (by omega) (by omega) (by simp; omega) (by omega) ?_
    exact op_eq_dd (n := 2) (R' _) (by decide) (first_eqd CH2 hτ hr2 hnd hns G hC) (follow_eqd CH2 hτ hr2 hnd hns G hC GO hE hD) p
end

end Mine

set_option maxHeartbeats 8000000
namespace Mine
open PySem PySem.W PySem.Calls PyProof.Rows
theorem rp_ints {X : Cx} {b : Heap} : ∀ {vs : List Value} {ns : List Int}, IntsAre vs ns → RpAll X b vs (ns.map D.int)
  | _, _, .nil => .nil
  | _, _, .cons _ t r => .cons (.int _ t) (rp_ints r)
end Mine
open PySem PySem.W PySem.Calls PyProof.Rows Mine in
theorem Mine.holdsX : PySem.Challenge.rw_rp0001_03.Holds := by
  refine holds_law said3 fun said => ?_
  refine holds_open (q := view3) (loose := loose3) (Xt := Xt3) (XP := XL view3 []) (Yf := Hook.obs hook3) (Ya := Hook.val hook3) (YP := Hook.says hook3) (N := 2065) left3 (Hook.of hook3) (Hook.keeps hook3) (fun s e => xl_of s (Bool.and_eq_true_iff.mp e).1) XL.keeps (by rfl) (by rfl) (by rfl) (fun s e => recFacts_of (Bool.and_eq_true_iff.mp e).2) (by rfl) said (by decide +kernel) ⟨rfl, rfl, rfl, rfl, rfl, by decide +kernel⟩ ?hw ?hc
  case hw => w_witness2
  clear said
  intro w s₀ s₁ mg mb G Y fa o pm cd doc dV kV ho hd hcd hD hmg hg args vals as hpre hlay hrd hwl hlo
  have KX := kIn_of Y
  have TR := topRead_of G.T
  clear hd hcd hD
  wrow_args hpre hlay hrd hwl hlo
  rename_i ns hs hl0 hL1 hr1 hl2 as4 as3 l vs as hL ra wl r0 hI hrr hc1 hc2
  have e := mg_of KX TR.g (show nsIn (kx.heap_1 w.params) mainGlobals "law" = some (some (.ref 305)) from rfl)
  have hfa : fa = 305 := by have h := hmg.symm.trans e; injection h with h; injection h
  subst hfa
  have HP : Hp (X3 w mg mb []) [] s₁.heap s₁ := ⟨Mine.Le.refl _, (fun p hp => by cases hp), (fun p hp => by cases hp), List.nodup_nil, ⟨KX, TR⟩⟩
  have RV : RpAll (X3 w mg mb []) s₁.heap [.ref l] [.list (ns.map .int)] := by
    refine .cons ?_ .nil
    have hx : ∃ xs, ofPy (PyData.list (ns.map PyData.int)) = WData.list xs := ⟨_, ofPy.eq_5 _⟩
    obtain ⟨xs, hx⟩ := hx
    rw [hx] at wl
    cases wl with
    | list g wa =>
      obtain ⟨o', h1, h2, n, h3⟩ := hL
      rw [g] at h1
      cases h1
      injection h3 with h3
      refine .list (n := 0) g ?_
      rw [h3]
      exact rp_ints hI
  have C : CallT (X3 w mg mb []) callerA 305 [.list (ns.map .int)] (fun d _ => d = .bool true) := (law_ok (w := w) (mg := mg) (mb := mb) (fr := []) (A := callerA) (env := envOfC Str.empty ⟨.function, [], false, false, []⟩ 0 0 .none) (σ := ⟨[], []⟩) (P := fun d _ => d = .bool true) (k := 0) (ns := ns) ⟨rfl, by decide, by decide, rfl⟩ rfl (by omega) rfl).2 rfl rfl
  refine wpAny_call (C s₁ s₁.heap [.ref l] _ HP RV fun v d s' b' rv ⟨_, hd⟩ hk hgn hos => ?_)
  subst hd
  cases rv
  refine ⟨.inl ⟨_, _, [], rfl, fun _ => rfl, ReadsW.bool true, ?_, fun _ => ⟨List.nodup_nil, fun _ hm => (nomatch hm)⟩⟩, .of_keep hk, hos, .of_eq (hgn.trans hg)⟩
  first | rfl | wrow_post

end
theorem PySem.Challenge.cw_rp0001_03_holds : PySem.Challenge.rw_rp0001_03.Holds := by
  exact Mine.holdsX
