import PyProof.Rows.All
import Wide.All
import OpenK.AllK
import Wide.FinOn
import KE.KPairComp
import KE.KEqDict
import PyProof.SliceMore
import PySem.Challenge.RW_rp0001_01
set_option maxRecDepth 100000
set_option Elab.async false
set_option linter.unusedVariables false
set_option linter.unusedSimpArgs false
noncomputable section
set_option maxHeartbeats 0
namespace Mine
open PySem PySem.W PyProof.Rows PySem.Calls
section
local macro_rules | `(tactic| o_head $_) => `(tactic| assumption)
theorem kx (hh : PySem.Challenge.rw_rp0001_01.row.Holds) : PySem.Challenge.rw_rp0001_01.row.Holds := by k_head
end
noncomputable def keep1 (l : List Stmt) : List Stmt := l.take 6 ++ ((l.drop 7).take 2 ++ l.drop 10)
noncomputable def view1 : Program := { PySem.Challenge.pw_rp0001_01 with main := { PySem.Challenge.pw_rp0001_01.main with body := keep1 PySem.Challenge.pw_rp0001_01.main.body } }
noncomputable def loose1 : List Str := [Str.ofString "Production", Str.ofString "Grammar", Str.ofString "_law_HOST", Str.ofString "_law_PART"]
noncomputable def bmO : Obj := { cls := .type "module", dict := some builtinsNs, data := .plain }
noncomputable def K1 (P : Params) : Frag := (4, bmO) :: kx.heap_1 P
end Mine
set_option maxHeartbeats 0
namespace Mine
open PySem PySem.W PyProof.Rows PySem.Calls
noncomputable def KT (P : Params) : Frag := (176, { cls := .none, data := .fields #[] }) :: K1 P
noncomputable def as1 : List Addr := 176 :: 4 :: [2, 3, 15, 17, 18, 20, 21, 22, 29, 30, 31, 32, 35, 38, 39, 40, 42, 43, 45, 46, 47, 54, 55, 56, 58, 59, 61, 62, 63, 65, 66, 68, 69, 70, 72, 73, 75, 76, 77, 79, 80, 82, 83, 84, 86, 87, 89, 90, 91, 93, 94, 96, 97, 98, 99, 100, 101, 102, 105, 107, 108, 110, 111, 112, 119, 120, 121, 124, 131, 133, 134, 136, 137, 138, 140, 141, 143, 144, 145, 147, 148, 150, 151, 152, 154, 155, 157, 158, 159, 160, 162, 163, 165, 166, 167, 168, 170, 171, 173, 174, 175, 178, 179, 180, 182, 183, 185, 186, 187, 189, 190, 192, 193, 194, 196, 197, 199, 200, 201, 203, 204, 206, 207, 208, 210, 211, 213, 214, 215, 217, 218, 220, 221, 222, 224, 225, 227, 228, 229, 230, 232, 233, 235, 236, 237, 239, 240, 242, 243, 244, 245, 246, 247, 248, 251, 252, 253, 255, 256, 258, 259, 260, 263, 264, 265, 268, 269, 270, 272, 273, 275, 276, 277, 280, 281, 282, 285, 286, 287, 289, 290, 292, 293, 294, 297, 298, 299, 302, 303]
noncomputable def prog1 : Program := PySem.Challenge.rw_rp0001_01.row.prog
noncomputable def Xt1 (s : Shared) : Bool := xlAt view1 [] s && recOk (RowW.records PySem.Challenge.rw_rp0001_01.row.toRowW) s
noncomputable def hook1 : Hook := kHook KT as1 (fun _ => by kernel_rfl)
noncomputable def looks1 (w : World) (s : Shared) := ((staticsOk (importedModules prog1.main.body) (boot_heap w.params) s.heap && namesBound prog1 s.heap && gensDone s && laidKept (boot_heap w.params) s.heap), openSeen view1 loose1 (importedModules prog1.main.body) Xt1 true s, hook1.obs s)
theorem size1 (w : World) : ((boot_heap w.params).isNs mainGlobals && (#[] : Array GenState).size == 0, (boot_heap w.params).objs.size, (boot_heap w.params).nsMap mainGlobals "__annotations__") = (true, 11, some (.ref 6)) := by
 kernel_rfl
theorem run1f (w : World) : (fun os => (topRun treeTable prog1 (w.withFollow "special-get-raises" false) 11 (some (.ref 6)) 2100 ⟨boot_heap w.params, ⟨[]⟩, boot_drawn, boot_toks, os⟩ (topStub prog1)).map (looks1 w)) = fun _ => some (true, openGood view1 loose1, hook1.val w) := by
 unfold looks1
 rw [PySem.W.Fast.te14082659384304107361, PySem.W.Fast.te14364793385576792824, PySem.W.Fast.te4187177175401517315, PySem.W.Fast.te5923862056798008813]
 kernel_rfl
theorem run1t (w : World) : (fun os => (topRun treeTable prog1 (w.withFollow "special-get-raises" true) 11 (some (.ref 6)) 2100 ⟨boot_heap w.params, ⟨[]⟩, boot_drawn, boot_toks, os⟩ (topStub prog1)).map (looks1 w)) = fun _ => some (true, openGood view1 loose1, hook1.val w) := by
 unfold looks1
 rw [PySem.W.Fast.te14082659384304107361, PySem.W.Fast.te14364793385576792824, PySem.W.Fast.te4187177175401517315, PySem.W.Fast.te5923862056798008813]
 kernel_rfl
theorem run1 (w : World) : (fun os => (topRun treeTable prog1 w 11 (some (.ref 6)) 2100 ⟨boot_heap w.params, ⟨[]⟩, boot_drawn, boot_toks, os⟩ (topStub prog1)).map (looks1 w)) = fun _ => some (true, openGood view1 loose1, hook1.val w) := by
 have h : ∀ b : Bool, (fun os => (topRun treeTable prog1 (w.withFollow "special-get-raises" b) 11 (some (.ref 6)) 2100 ⟨boot_heap w.params, ⟨[]⟩, boot_drawn, boot_toks, os⟩ (topStub prog1)).map (looks1 w)) = fun _ => some (true, openGood view1 loose1, hook1.val w) := fun b => by
  cases b
  ·exact run1f w
  ·exact run1t w
 have := h (w.params.followText "special-get-raises")
 rwa [World.withFollow_self] at this
theorem left1 : LeftO prog1 view1 loose1 Xt1 hook1.obs hook1.val 2100 := fun w => by
 obtain ⟨⟨h, gs, d, k, os⟩, e, e'⟩ := Option.map_eq_some_iff.mp (boot_open (p := prog1) (N := 2100) (by kernel_rfl) rfl (fun s => by kernel_rfl) w)
 obtain ⟨rfl, rfl, rfl, rfl⟩ : h = boot_heap w.params ∧ gs = Array.mk [] ∧ d = boot_drawn ∧ k = boot_toks := by simpa using e'
 obtain ⟨z1, z2, z3⟩ : _ ∧ _ ∧ _ := by simpa only [Prod.mk.injEq] using size1 w
 obtain ⟨s₁, r, hs⟩ := Option.map_eq_some_iff.mp (congrFun (run1 w) os)
 obtain ⟨l1, l2, l3⟩ : _ ∧ _ ∧ _ := by simpa only [looks1, Prod.mk.injEq] using hs
 have t : topFrom treeTable prog1 w 2100 ⟨boot_heap w.params, Array.mk [], boot_drawn, boot_toks, os⟩ = some s₁ := by
  unfold topFrom
  dsimp only
  rw [z1, z2, z3, r]
  show (match staticsOk (importedModules prog1.main.body) (boot_heap w.params) s₁.heap && namesBound prog1 s₁.heap && gensDone s₁ && laidKept (boot_heap w.params) s₁.heap with | true => _ | false => _) = _
  rw [l1]
 unfold openEnds
 rw [e]
 show (topFrom treeTable prog1 w 2100 _).map _ = _
 rw [t]
 exact congrArg some (Prod.ext l2 l3)
theorem said1 : PySem.Challenge.rw_rp0001_01.wellSaid = true := by
 rw [PySem.W.Fast.te9446332074065402090]
 kernel_rfl
end Mine
namespace Mine
open PySem PySem.W PySem.Calls PyProof.Rows
section
inductive D where
 | none
 | bool (b : Bool)
 | int (i : Int)
 | str (s : Str)
 | list (xs : List D)
 | tup (xs : List D)
 | dct (kds : List (Str × D))
 | raw (v : Value)
 | rng (n : Nat)
 | obj (c d : Addr)
 | inst (c : Addr) (kds : List (Str × D))
structure Cx where
 prog : Program
 w : World
 K : Frag
 p : Program
 loose : List Str
 mg : Str → Option Value
 mb : Str → Option Value
 fr : List Env
noncomputable def NotFr (X : Cx) (a : Addr) : Prop := ∀ e ∈ X.fr, e.frame ≠ some a
noncomputable abbrev Cx.at (X : Cx) (l : List Env) : Cx := { X with fr := l }
noncomputable abbrev Cx.M (X : Cx) : Model := model X.prog X.w
noncomputable abbrev Cx.kd (X : Cx) : PySem.KeyKind X.prog X.w Str := strKind X.prog X.w
noncomputable def Le (b h : Heap) : Prop := ∀ a o, b.get? a = some o → h.get? a = some o
theorem Le.refl (b : Heap) : Le b b := fun _ _ e => e
theorem Le.trans {a b c : Heap} (x : Le a b) (y : Le b c) : Le a c := fun _ _ e => y _ _ (x _ _ e)
mutual
inductive Rp (X : Cx) (b : Heap) : Value → D → Prop
 | none : Rp X b .none .none
 | bool (x) : Rp X b (.bool x) (.bool x)
 | int (i t) : Rp X b (.int i t) (.int i)
 | str (x t) : Rp X b (.str x t) (.str x)
 | list {a vs n ds} : b.get? a = some (seqObj "list" vs n) → RpAll X b vs.toList ds → Rp X b (.ref a) (.list ds)
 | tup {a vs n ds} : b.get? a = some (seqObj "tuple" vs n) → RpAll X b vs.toList ds → Rp X b (.ref a) (.tup ds)
 | dct {a kvs ep kds} : (a == sysModules) = false → b.DictAt X.kd a kvs ep → RpKv X b kvs kds → Rp X b (.ref a) (.dct kds)
 | raw (v) : Rp X b v (.raw v)
 | rng {a n t u v} : IsRange b a 0 (n : Nat) 1 t u v → Rp X b (.ref a) (.rng n)
 | obj {a c d} : b.get? a = some (instObj c d) → Rp X b (.ref a) (.obj c d)
 | inst {a c d kvs ep kds} : b.get? a = some (instObj c d) → (d == sysModules) = false → b.DictAt X.kd d kvs ep → RpKv X b kvs kds → Rp X b (.ref a) (.inst c kds)
inductive RpAll (X : Cx) (b : Heap) : List Value → List D → Prop
 | nil : RpAll X b [] []
 | cons {v vs d ds} : Rp X b v d → RpAll X b vs ds → RpAll X b (v :: vs) (d :: ds)
inductive RpKv (X : Cx) (b : Heap) : List (Str × Value) → List (Str × D) → Prop
 | nil : RpKv X b [] []
 | cons {k v d kvs kds} : Rp X b v d → RpKv X b kvs kds → RpKv X b ((k, v) :: kvs) ((k, d) :: kds)
end
variable {X : Cx}
theorem Rp.map {X' : Cx} {b b' : Heap} (h : Le b b') (hd : ∀ a kvs ep, b.DictAt X.kd a kvs ep → b'.DictAt X'.kd a kvs ep) {v : Value} {d : D} (r : Rp X b v d) : Rp X' b' v d :=
 @Rp.rec X b (fun v d _ => Rp X' b' v d) (fun vs ds _ => RpAll X' b' vs ds) (fun vs ds _ => RpKv X' b' vs ds)
  .none .bool .int .str (fun g _ r => .list (h _ _ g) r) (fun g _ r => .tup (h _ _ g) r) (fun n g _ r => .dct n (hd _ _ _ g) r) .raw (fun g => .rng (h _ _ g)) (fun g => .obj (h _ _ g)) (fun g n q _ r => .inst (h _ _ g) n (hd _ _ _ q) r)
  .nil (fun _ _ r q => .cons r q) .nil (fun _ _ r q => .cons r q) v d r
theorem RpAll.ind {b : Heap} {motive : (vs : List Value) → (ds : List D) → RpAll X b vs ds → Prop} (nil : motive [] [] .nil)
  (cons : ∀ {v vs d ds} (r : Rp X b v d) (q : RpAll X b vs ds), motive vs ds q → motive (v :: vs) (d :: ds) (.cons r q)) {vs : List Value} {ds : List D} (q : RpAll X b vs ds) : motive vs ds q :=
 @RpAll.rec X b (fun _ _ _ => True) motive (fun _ _ _ => True) trivial (fun _ => trivial) (fun _ _ => trivial) (fun _ _ => trivial) (fun _ _ _ => trivial) (fun _ _ _ => trivial) (fun _ _ _ _ => trivial) (fun _ => trivial) (fun _ => trivial) (fun _ => trivial) (fun _ _ _ _ _ => trivial)
  nil (fun r q _ ih => cons r q ih) trivial (fun _ _ _ _ => trivial) vs ds q
theorem RpKv.ind {b : Heap} {motive : (vs : List (Str × Value)) → (ds : List (Str × D)) → RpKv X b vs ds → Prop} (nil : motive [] [] .nil)
  (cons : ∀ {k v d kvs kds} (r : Rp X b v d) (q : RpKv X b kvs kds), motive kvs kds q → motive ((k, v) :: kvs) ((k, d) :: kds) (.cons r q)) {vs : List (Str × Value)} {ds : List (Str × D)} (q : RpKv X b vs ds) : motive vs ds q :=
 @RpKv.rec X b (fun _ _ _ => True) (fun _ _ _ => True) motive trivial (fun _ => trivial) (fun _ _ => trivial) (fun _ _ => trivial) (fun _ _ _ => trivial) (fun _ _ _ => trivial) (fun _ _ _ _ => trivial) (fun _ => trivial) (fun _ => trivial) (fun _ => trivial) (fun _ _ _ _ _ => trivial)
  trivial (fun _ _ _ _ => trivial) nil (fun r q _ ih => cons r q ih) vs ds q
theorem RpAll.map {X' : Cx} {b b' : Heap} (h : Le b b') (hd : ∀ a kvs ep, b.DictAt X.kd a kvs ep → b'.DictAt X'.kd a kvs ep) {vs : List Value} {ds : List D} (q : RpAll X b vs ds) : RpAll X' b' vs ds :=
 RpAll.ind (motive := fun vs ds _ => RpAll X' b' vs ds) .nil (fun r _ q => .cons (r.map h hd) q) q
theorem RpKv.map {X' : Cx} {b b' : Heap} (h : Le b b') (hd : ∀ a kvs ep, b.DictAt X.kd a kvs ep → b'.DictAt X'.kd a kvs ep) {vs : List (Str × Value)} {ds : List (Str × D)} (q : RpKv X b vs ds) : RpKv X' b' vs ds :=
 RpKv.ind (motive := fun vs ds _ => RpKv X' b' vs ds) .nil (fun r _ q => .cons (r.map h hd) q) q
theorem Rp.mono {b b' : Heap} (h : Le b b') {v : Value} {d : D} (r : Rp X b v d) : Rp X b' v d := r.map h fun _ _ _ g => g.keep h
theorem RpAll.mono {b b' : Heap} (h : Le b b') {vs : List Value} {ds : List D} (r : RpAll X b vs ds) : RpAll X b' vs ds := r.map h fun _ _ _ g => g.keep h
theorem RpKv.mono {b b' : Heap} (h : Le b b') {vs : List (Str × Value)} {ds : List (Str × D)} (r : RpKv X b vs ds) : RpKv X b' vs ds := r.map h fun _ _ _ g => g.keep h
theorem Rp.at {l : List Env} {b : Heap} {v : Value} {d : D} (r : Rp X b v d) : Rp (X.at l) b v d := @Rp.map X (X.at l) b b (Le.refl b) (fun _ _ _ g => g) _ _ r
theorem RpAll.at {l : List Env} {b : Heap} {vs : List Value} {ds : List D} (r : RpAll X b vs ds) : RpAll (X.at l) b vs ds := @RpAll.map X (X.at l) b b (Le.refl b) (fun _ _ _ g => g) _ _ r
theorem RpKv.at {l : List Env} {b : Heap} {vs : List (Str × Value)} {ds : List (Str × D)} (r : RpKv X b vs ds) : RpKv (X.at l) b vs ds := @RpKv.map X (X.at l) b b (Le.refl b) (fun _ _ _ g => g) _ _ r
theorem RpAll.length {b : Heap} {vs : List Value} {ds : List D} (q : RpAll X b vs ds) : vs.length = ds.length := by
 induction q using RpAll.ind with
 | nil => rfl
 | cons _ _ ih => exact congrArg Nat.succ ih
theorem RpKv.length {b : Heap} {vs : List (Str × Value)} {ds : List (Str × D)} (q : RpKv X b vs ds) : vs.length = ds.length := by
 induction q using RpKv.ind with
 | nil => rfl
 | cons _ _ ih => exact congrArg Nat.succ ih
theorem RpAll.append {b : Heap} {vs ws : List Value} {ds es : List D} (p : RpAll X b vs ds) (q : RpAll X b ws es) : RpAll X b (vs ++ ws) (ds ++ es) := by
 induction p using RpAll.ind with
 | nil => exact q
 | cons r _ ih => exact .cons r ih
theorem nso {α : Type} {a : α} {P : Prop} (e : none = some a) : P := (Option.some_ne_none a e.symm).elim
theorem sno {α : Type} {a : α} {P : Prop} (e : some a = none) : P := (Option.some_ne_none a e).elim
theorem fet {P : Prop} (e : false = true) : P := (Bool.false_ne_true e).elim
theorem tef {P : Prop} (e : true = false) : P := (Bool.false_ne_true e.symm).elim
theorem RpAll.get {b : Heap} {vs : List Value} {ds : List D} (q : RpAll X b vs ds) : ∀ {i : Nat} {v : Value}, vs[i]? = some v → ∃ d, ds[i]? = some d ∧ Rp X b v d := by
 induction q using RpAll.ind with
 | nil => intro i v e; exact nso e
 | cons r _ ih =>
  intro i v e
  cases i with
  | zero => exact ⟨_, rfl, Option.some.inj e ▸ r⟩
  | succ i => exact ih (i := i) e
theorem RpAll.getD {b : Heap} {vs : List Value} {ds : List D} (q : RpAll X b vs ds) : ∀ {i : Nat} {d : D}, ds[i]? = some d → ∃ v, vs[i]? = some v ∧ Rp X b v d := by
 induction q using RpAll.ind with
 | nil => intro i v e; exact nso e
 | cons r _ ih =>
  intro i v e
  cases i with
  | zero => exact ⟨_, rfl, Option.some.inj e ▸ r⟩
  | succ i => exact ih (i := i) e
theorem RpKv.keys {b : Heap} {kvs : List (Str × Value)} {kds : List (Str × D)} (q : RpKv X b kvs kds) : kvs.map (·.1) = kds.map (·.1) := by
 induction q using RpKv.ind with
 | nil => rfl
 | cons _ _ ih => exact congrArg (List.cons _) ih
theorem lk_hit {α : Type} {x k : Str} {v : α} {l : List (Str × α)} (h : (x == k) = true) : ((k, v) :: l).lookup x = some v := by
 rw [List.lookup_cons, h]
theorem lk_miss {α : Type} {x k : Str} {v : α} {l : List (Str × α)} (h : (x == k) = false) : ((k, v) :: l).lookup x = l.lookup x := by
 rw [List.lookup_cons, h]
theorem RpKv.lookup {b : Heap} {x : Str} {kvs : List (Str × Value)} {kds : List (Str × D)} (q : RpKv X b kvs kds) : ∀ {d : D}, kds.lookup x = some d → ∃ v, kvs.lookup x = some v ∧ Rp X b v d := by
 induction q using RpKv.ind with
 | nil => intro d e; exact nso e
 | cons r _ ih =>
  rename_i k v d kvs kds _
  intro d' e
  cases h : (x == k) with
  | true => exact ⟨v, lk_hit h, Option.some.inj ((lk_hit h).symm.trans e) ▸ r⟩
  | false =>
   obtain ⟨w, e1, r1⟩ := ih ((lk_miss h).symm.trans e)
   exact ⟨w, (lk_miss h).trans e1, r1⟩
theorem RpKv.lookup_none {b : Heap} {x : Str} {kvs : List (Str × Value)} {kds : List (Str × D)} (q : RpKv X b kvs kds) : kds.lookup x = none → kvs.lookup x = none := by
 induction q using RpKv.ind with
 | nil => intro _; rfl
 | cons r _ ih =>
  rename_i k v d kvs kds _
  intro e
  cases h : (x == k) with
  | true => exact sno ((lk_hit h).symm.trans e)
  | false => exact (lk_miss h).trans (ih ((lk_miss h).symm.trans e))
inductive C where
 | lst (ds : List D)
 | dct (kds : List (Str × D))
 | raw (I : Heap → Heap → Addr → Prop)
noncomputable def ByObj (I : Heap → Heap → Addr → Prop) : Prop := ∀ (b b' h h' : Heap) (a : Addr), I b h a → Le b b' → (∀ o, h.get? a = some o → h'.get? a = some o) → I b' h' a
noncomputable def CellAt (X : Cx) (b h : Heap) (a : Addr) : C → Prop
 | .lst ds => ∃ vs n, h.get? a = some (seqObj "list" vs n) ∧ RpAll X b vs.toList ds
 | .dct kds => (a == sysModules) = false ∧ ∃ kvs ep, h.DictAt X.kd a kvs ep ∧ RpKv X b kvs kds
 | .raw I => ByObj I ∧ (∃ o, h.get? a = some o) ∧ I b h a
theorem CellAt.mono {b b' h h' : Heap} {a : Addr} {c : C} (x : CellAt X b h a c) (hb : Le b b') (hh : ∀ o, h.get? a = some o → h'.get? a = some o) : CellAt X b' h' a c := by
 cases c with
 | lst ds => obtain ⟨vs, n, h1, h2⟩ := x; exact ⟨vs, n, hh _ h1, h2.mono hb⟩
 | dct kds =>
  obtain ⟨hn, kvs, ep, ⟨o, es, h1, r⟩, h2⟩ := x
  exact ⟨hn, kvs, ep, ⟨o, es, hh _ h1, r⟩, h2.mono hb⟩
 | raw I => exact ⟨x.1, x.2.1.imp fun o => hh o, x.1 _ _ _ _ _ x.2.2 hb hh⟩
theorem CellAt.at {l : List Env} {b h : Heap} {a : Addr} {c : C} (x : CellAt X b h a c) : CellAt (X.at l) b h a c := by
 cases c with
 | lst ds => obtain ⟨vs, n, h1, h2⟩ := x; exact ⟨vs, n, h1, h2.at⟩
 | dct kds => obtain ⟨hn, kvs, ep, h1, h2⟩ := x; exact ⟨hn, kvs, ep, h1, h2.at⟩
 | raw I => exact x
theorem CellAt.live {b h : Heap} {a : Addr} {c : C} (x : CellAt X b h a c) : ∃ o, h.get? a = some o := by
 cases c with
 | lst ds => obtain ⟨vs, n, h1, h2⟩ := x; exact ⟨_, h1⟩
 | dct kds => obtain ⟨hn, kvs, ep, ⟨o, es, h1, r⟩, h2⟩ := x; exact ⟨_, h1⟩
 | raw I => exact x.2.1
noncomputable abbrev Om := List (Addr × C)
noncomputable def FrOk (X : Cx) (ω : Om) (b h : Heap) : Prop := ∀ e ∈ X.fr, e.scope.kind = .function ∧ ∃ L o es ep, e.frame = some L ∧ b.get? L = none ∧ L ∉ ω.map (·.1) ∧ h.get? L = some o ∧ o.data = .dict es ep
theorem FrOk.mono {ω ω' : Om} {b b' h h' : Heap} (x : FrOk X ω b h) (hb : ∀ a o, a ∉ ω.map (·.1) → h.get? a = some o → b.get? a = none → b'.get? a = none) (hw : ∀ a o, h.get? a = some o → a ∉ ω.map (·.1) → a ∉ ω'.map (·.1))
  (hh : ∀ a o es ep, a ∉ ω.map (·.1) → b.get? a = none → h.get? a = some o → o.data = .dict es ep → ∃ o' es' ep', h'.get? a = some o' ∧ o'.data = .dict es' ep') : FrOk X ω' b' h' := fun e he => by
 obtain ⟨k, L, o, es, ep, h1, h2, h3, h4, h5⟩ := x e he
 obtain ⟨o', es', ep', h6, h7⟩ := hh L o es ep h3 h2 h4 h5
 exact ⟨k, L, o', es', ep', h1, hb L o h3 h4 h2, hw L o h4 h3, h6, h7⟩
structure Cx.Top (X : Cx) (b : Heap) : Prop where
 inK : X.K.In b
 tr : TopRead X.p X.loose X.mg X.mb b
theorem Cx.Top.mono {b b' : Heap} (T : X.Top b) (h : Le b b') : X.Top b' := ⟨T.inK.keeps h, T.tr.keeps h⟩
theorem Cx.Top.at {l : List Env} {b : Heap} (T : X.Top b) : (X.at l).Top b := ⟨T.inK, T.tr⟩
structure Hp (X : Cx) (ω : Om) (b : Heap) (s : Shared) : Prop where
 le : Le b s.heap
 cell : ∀ p ∈ ω, CellAt X b s.heap p.1 p.2
 out : ∀ p ∈ ω, b.get? p.1 = none
 nod : (ω.map (·.1)).Nodup
 top : X.Top b
structure Ext (X : Cx) (F : Addr → Prop) (s : Shared) (b : Heap) (s' : Shared) (b' : Heap) : Prop where
 keep : ∀ a o, ¬ F a → s.heap.get? a = some o → ∃ sl, s'.heap.get? a = some { o with slots := sl } ∧ (NotFr X a → sl = o.slots)
 le : Le b b'
 new : ∀ a o, b'.get? a = some o → (∃ o', b.get? a = some o') ∨ s.heap.get? a = none ∨ F a
 live : ∀ a o, s.heap.get? a = some o → ∃ o', s'.heap.get? a = some o'
 os : s'.os = s.os
 gens : s'.gens = s.gens
theorem Hp.at {l : List Env} {ω : Om} {b : Heap} {s : Shared} (H : Hp X ω b s) : Hp (X.at l) ω b s := ⟨H.le, fun p hp => (H.cell p hp).at, H.out, H.nod, H.top.at⟩
theorem kept {X : Cx} {h : Heap} {a : Addr} {o : Obj} (e : h.get? a = some o) : ∃ sl, h.get? a = some { o with slots := sl } ∧ (NotFr X a → sl = o.slots) := ⟨o.slots, e, fun _ => rfl⟩
theorem Ext.keepN {F : Addr → Prop} {s s' : Shared} {b b' : Heap} (x : Ext X F s b s' b') {a : Addr} {o : Obj} (n : NotFr X a) (f : ¬ F a) (e : s.heap.get? a = some o) : s'.heap.get? a = some o := by
 obtain ⟨sl, h1, h2⟩ := x.keep a o f e
 rw [h1, h2 n]
theorem Ext.none {F : Addr → Prop} {s s' : Shared} {b b' : Heap} (x : Ext X F s b s' b') {a : Addr} (h : s'.heap.get? a = none) : s.heap.get? a = none := by
 cases q : s.heap.get? a with
 | none => rfl
 | some o => obtain ⟨o', e⟩ := x.live a o q; rw [h] at e; cases e
theorem Ext.refl (F : Addr → Prop) (s : Shared) (b : Heap) : Ext X F s b s b := ⟨fun _ _ _ e => kept e, Le.refl _, fun _ o e => .inl ⟨o, e⟩, fun _ o e => ⟨o, e⟩, rfl, rfl⟩
theorem keep_trans {s₁ s₂ s₃ : Shared} {a : Addr} {o : Obj} (x : ∃ sl, s₂.heap.get? a = some { o with slots := sl } ∧ (NotFr X a → sl = o.slots)) (y : ∀ o', s₂.heap.get? a = some o' → ∃ sl, s₃.heap.get? a = some { o' with slots := sl } ∧ (NotFr X a → sl = o'.slots)) :
  ∃ sl, s₃.heap.get? a = some { o with slots := sl } ∧ (NotFr X a → sl = o.slots) := by
 obtain ⟨sl, h1, h2⟩ := x
 obtain ⟨sl', h3, h4⟩ := y _ h1
 exact ⟨sl', h3, fun n => (h4 n).trans (h2 n)⟩
theorem fresh_none (h : Heap) : h.get? h.objs.size = none := by
 cases q : h.get? h.objs.size with
 | none => rfl
 | some o => exact absurd (Heap.lt_size q) (Nat.lt_irrefl _)
end
section
variable {X : Cx} {b : Heap}
noncomputable def RpI (X : Cx) (b : Heap) (v : Value) : D → Prop
 | .none => v = .none
 | .bool x => v = .bool x
 | .int i => ∃ t, v = .int i t
 | .str x => ∃ t, v = .str x t
 | .list ds => ∃ a vs n, v = .ref a ∧ b.get? a = some (seqObj "list" vs n) ∧ RpAll X b vs.toList ds
 | .tup ds => ∃ a vs n, v = .ref a ∧ b.get? a = some (seqObj "tuple" vs n) ∧ RpAll X b vs.toList ds
 | .dct kds => ∃ a kvs ep, v = .ref a ∧ (a == sysModules) = false ∧ b.DictAt X.kd a kvs ep ∧ RpKv X b kvs kds
 | .raw w => v = w
 | .rng n => ∃ a t u w, v = .ref a ∧ IsRange b a 0 (n : Nat) 1 t u w
 | .obj c d => ∃ a, v = .ref a ∧ b.get? a = some (instObj c d)
 | .inst c kds => ∃ a d kvs ep, v = .ref a ∧ b.get? a = some (instObj c d) ∧ (d == sysModules) = false ∧ b.DictAt X.kd d kvs ep ∧ RpKv X b kvs kds
theorem Rp.cinv {v : Value} {d : D} (r : Rp X b v d) : RpI X b v d :=
 @Rp.casesOn X b (fun v d _ => RpI X b v d) v d r rfl (fun _ => rfl) (fun _ t => ⟨t, rfl⟩) (fun _ t => ⟨t, rfl⟩) (fun g q => ⟨_, _, _, rfl, g, q⟩) (fun g q => ⟨_, _, _, rfl, g, q⟩) (fun n g q => ⟨_, _, _, rfl, n, g, q⟩) (fun _ => rfl) (fun g => ⟨_, _, _, _, rfl, g⟩) (fun g => ⟨_, rfl, g⟩) (fun g n q r => ⟨_, _, _, _, rfl, g, n, q, r⟩)
theorem Rp.i_none {v : Value} (r : Rp X b v .none) : v = .none := r.cinv
theorem Rp.i_bool {v : Value} {x : Bool} (r : Rp X b v (.bool x)) : v = .bool x := r.cinv
theorem Rp.i_int {v : Value} {i : Int} (r : Rp X b v (.int i)) : ∃ t, v = .int i t := r.cinv
theorem Rp.i_str {v : Value} {x : Str} (r : Rp X b v (.str x)) : ∃ t, v = .str x t := r.cinv
theorem Rp.i_list {v : Value} {ds : List D} (r : Rp X b v (.list ds)) : ∃ a vs n, v = .ref a ∧ b.get? a = some (seqObj "list" vs n) ∧ RpAll X b vs.toList ds := r.cinv
theorem Rp.i_tup {v : Value} {ds : List D} (r : Rp X b v (.tup ds)) : ∃ a vs n, v = .ref a ∧ b.get? a = some (seqObj "tuple" vs n) ∧ RpAll X b vs.toList ds := r.cinv
theorem Rp.i_dct {v : Value} {kds : List (Str × D)} (r : Rp X b v (.dct kds)) : ∃ a kvs ep, v = .ref a ∧ (a == sysModules) = false ∧ b.DictAt X.kd a kvs ep ∧ RpKv X b kvs kds := r.cinv
theorem Rp.i_raw {v w : Value} (r : Rp X b v (.raw w)) : v = w := r.cinv
theorem Rp.i_rng {v : Value} {n : Nat} (r : Rp X b v (.rng n)) : ∃ a t u w, v = .ref a ∧ IsRange b a 0 (n : Nat) 1 t u w := r.cinv
theorem Rp.i_obj {v : Value} {c d : Addr} (r : Rp X b v (.obj c d)) : ∃ a, v = .ref a ∧ b.get? a = some (instObj c d) := r.cinv
theorem Rp.i_inst {v : Value} {c : Addr} {kds : List (Str × D)} (r : Rp X b v (.inst c kds)) : ∃ a d kvs ep, v = .ref a ∧ b.get? a = some (instObj c d) ∧ (d == sysModules) = false ∧ b.DictAt X.kd d kvs ep ∧ RpKv X b kvs kds := r.cinv
noncomputable def RpAllI (X : Cx) (b : Heap) (vs : List Value) : List D → Prop
 | [] => vs = []
 | d :: ds => ∃ v ws, vs = v :: ws ∧ Rp X b v d ∧ RpAll X b ws ds
theorem RpAll.cinv {vs : List Value} {ds : List D} (r : RpAll X b vs ds) : RpAllI X b vs ds :=
 @RpAll.casesOn X b (fun v d _ => RpAllI X b v d) vs ds r rfl (fun r q => ⟨_, _, rfl, r, q⟩)
theorem RpAll.i_nil {vs : List Value} (r : RpAll X b vs []) : vs = [] := r.cinv
theorem RpAll.i_cons {vs : List Value} {d : D} {ds : List D} (r : RpAll X b vs (d :: ds)) : ∃ v ws, vs = v :: ws ∧ Rp X b v d ∧ RpAll X b ws ds := r.cinv
theorem RpAll.i_one {vs : List Value} {d : D} (r : RpAll X b vs [d]) : ∃ v, vs = [v] ∧ Rp X b v d := by
 obtain ⟨v, ws, rfl, r1, q⟩ := r.i_cons
 exact ⟨v, congrArg _ q.i_nil, r1⟩
theorem RpAll.i_two {vs : List Value} {d e : D} (r : RpAll X b vs [d, e]) : ∃ v w, vs = [v, w] ∧ Rp X b v d ∧ Rp X b w e := by
 obtain ⟨v, ws, rfl, r1, q⟩ := r.i_cons
 obtain ⟨w, rfl, p⟩ := q.i_one
 exact ⟨v, w, rfl, r1, p⟩
noncomputable def RpKvI (X : Cx) (b : Heap) (vs : List (Str × Value)) : List (Str × D) → Prop
 | [] => vs = []
 | p :: ds => ∃ v ws, vs = (p.1, v) :: ws ∧ Rp X b v p.2 ∧ RpKv X b ws ds
theorem RpKv.cinv {vs : List (Str × Value)} {ds : List (Str × D)} (r : RpKv X b vs ds) : RpKvI X b vs ds :=
 @RpKv.casesOn X b (fun v d _ => RpKvI X b v d) vs ds r rfl (fun r q => ⟨_, _, rfl, r, q⟩)
theorem RpAll.i_three {vs : List Value} {d e f : D} (r : RpAll X b vs [d, e, f]) : ∃ v w x, vs = [v, w, x] ∧ Rp X b v d ∧ Rp X b w e ∧ Rp X b x f := by
 obtain ⟨v, ws, rfl, r1, q⟩ := r.i_cons
 obtain ⟨w, x, rfl, p1, p2⟩ := q.i_two
 exact ⟨v, w, x, rfl, r1, p1, p2⟩
theorem RpKv.i_nil {vs : List (Str × Value)} (r : RpKv X b vs []) : vs = [] := r.cinv
theorem le_c {a n m : Nat} (h : a ≤ n) (e : Nat.ble n m = true) : a ≤ m := Nat.le_trans h (Nat.le_of_ble_eq_true e)
theorem lelt_c {a n m : Nat} (h : a ≤ n) (e : Nat.ble (n + 1) m = true) : a < m := Nat.lt_of_le_of_lt h (Nat.le_of_ble_eq_true e)
theorem le_s {a n : Nat} (h : a ≤ n) (e : Nat.ble n 16777216 = true) : a ≤ sizeLine := Nat.le_trans h (by rw [sizeLine_eq]; exact Nat.le_of_ble_eq_true e)
theorem room_c {u n m c : Nat} (h : u + n < c) (e : Nat.ble m n = true) : u + m < c := Nat.lt_of_le_of_lt (Nat.add_le_add_left (Nat.le_of_ble_eq_true e) u) h
theorem room_0 {u n c : Nat} (h : u + n < c) : u < c := Nat.lt_of_le_of_lt (Nat.le_add_right u n) h
theorem sub_l {a b n : Nat} (h : a + b ≤ n) : a ≤ n := Nat.le_trans (Nat.le_add_right a b) h
theorem sub_r {a b n : Nat} (h : a + b ≤ n) : b ≤ n := Nat.le_trans (Nat.le_add_left b a) h
theorem mid_l {a b c : Nat} (h : c = a + (b + 1)) : a ≤ c := h ▸ Nat.le_add_right a (b + 1)
theorem mid_lt {a b c : Nat} (h : c = a + (b + 1)) : a < c := h ▸ Nat.lt_add_of_pos_right (Nat.succ_pos b)
theorem room_1 {u n k c : Nat} (h : u + n + k < c) : u < c := room_0 (room_0 h)
theorem hide {G : Prop} (h : let g := G; g) : G := h
end
section
variable {X : Cx}
noncomputable def gone : Obj := { cls := .none, data := .freed }
noncomputable def restrict (h : Heap) (P : Addr → Bool) : Heap := ⟨h.objs.mapIdx (fun i o => if P i then o else gone), h.life⟩
theorem get?_restrict (h : Heap) (P : Addr → Bool) (a : Addr) : (restrict h P).get? a = if P a then h.get? a else none := by
 cases hp : P a with
 | true =>
  simp only [if_true]
  unfold Heap.get? restrict
  simp only [Array.getElem?_mapIdx]
  cases h.objs[a]? with
  | none => rfl
  | some o => simp [hp]
 | false =>
  simp only [Bool.false_eq_true, if_false]
  unfold Heap.get? restrict
  simp only [Array.getElem?_mapIdx]
  cases h.objs[a]? with
  | none => rfl
  | some o => simp [hp, gone]
noncomputable def grow (b h : Heap) (P : Addr → Bool) : Heap := restrict h fun a => (b.get? a).isSome || P a
theorem grow_le {b h : Heap} {P : Addr → Bool} (x : Le b h) : Le b (grow b h P) := fun a o e => by
 unfold grow; rw [get?_restrict, e]; simpa using x _ _ e
theorem grow_in {b h : Heap} {P : Addr → Bool} : Le (grow b h P) h := fun a o e => by
 unfold grow at e; rw [get?_restrict] at e
 split at e
 ·exact e
 ·exact nso e
theorem grow_get {b h : Heap} {P : Addr → Bool} {a : Addr} {o : Obj} (hp : P a = true) (e : h.get? a = some o) : (grow b h P).get? a = some o := by
 unfold grow; rw [get?_restrict]; simp [hp, e]
theorem grow_none {b h : Heap} {P : Addr → Bool} {a : Addr} (hp : P a = false) (e : b.get? a = none) : (grow b h P).get? a = none := by
 unfold grow; rw [get?_restrict]; simp [hp, e]
theorem grow_new {b h : Heap} {P : Addr → Bool} {a : Addr} {o : Obj} (e : (grow b h P).get? a = some o) : (∃ o', b.get? a = some o') ∨ P a = true := by
 unfold grow at e; rw [get?_restrict] at e
 split at e
 ·rename_i q
  rcases Bool.or_eq_true_iff.mp q with q | q
  ·exact .inl (Option.isSome_iff_exists.mp q)
  ·exact .inr q
 ·exact nso e
structure Sg where
 ρ : List (Str × D)
 ω : Om
structure EnvOk (env : Env) : Prop where
 kind : env.scope.kind = .function
 glob : env.globals = mainGlobals
 blt : env.builtins = builtinsNs
 cells : ∀ x, env.kindOf x = some .cell ∨ env.kindOf x = some .free → ∃ c, env.cells.lookup x = some c
noncomputable def isVar : Option NameKind → Bool
 | some .local => true
 | some .cell => true
 | some .free => true
 | _ => false
structure Fm (X : Cx) (env : Env) (ρ : List (Str × D)) (b h : Heap) : Prop where
 ns : ∃ m, h.Ns env.locals m ∧ ∀ x d, env.kindOf x = some .local → ρ.lookup x = some d → ∃ v, m x = some v ∧ Rp X b v d
 cl : ∀ x d, env.kindOf x = some .cell ∨ env.kindOf x = some .free → ρ.lookup x = some d → ∃ c v, env.cells.lookup x = some c ∧ h.IsCell c (some v) ∧ Rp X b v d
 cx : ∀ x c, env.cells.lookup x = some c → ∃ ov, h.IsCell c ov
noncomputable def Fx (env : Env) (ω : Om) (a : Addr) : Prop := a = env.locals ∨ (∃ x, env.kindOf x = some .cell ∧ env.func.isSome = true ∧ env.cells.lookup x = some a) ∨ a ∈ ω.map (·.1)
structure FA (env : Env) (ω : Om) (b : Heap) : Prop where
 lb : b.get? env.locals = none
 lw : env.locals ∉ ω.map (·.1)
 cb : ∀ x c, env.cells.lookup x = some c → b.get? c = none
 cw : ∀ x c, env.cells.lookup x = some c → c ∉ ω.map (·.1)
 cl : ∀ x c, env.cells.lookup x = some c → c ≠ env.locals
 inj : ∀ x y c, env.cells.lookup x = some c → env.cells.lookup y = some c → x = y
structure St (X : Cx) (env : Env) (σ : Sg) (b : Heap) (s : Shared) : Prop where
 ok : EnvOk env
 hp : Hp X σ.ω b s
 fm : Fm X env σ.ρ b s.heap
 fa : FA env σ.ω b
 fr : FrOk X σ.ω b s.heap
structure Evo (X : Cx) (env : Env) (σ σ' : Sg) (s : Shared) (b : Heap) (s' : Shared) (b' : Heap) : Prop where
 ext : Ext X (Fx env σ.ω) s b s' b'
 dom : ∀ a, a ∈ σ'.ω.map (·.1) → a ∈ σ.ω.map (·.1) ∨ s.heap.get? a = none
theorem Evo.refl (X : Cx) (env : Env) (σ : Sg) (s : Shared) (b : Heap) : Evo X env σ σ s b s b := ⟨Ext.refl .., fun _ h => .inl h⟩
theorem Evo.trans {env : Env} {σ₁ σ₂ σ₃ : Sg} {s₁ s₂ s₃ : Shared} {b₁ b₂ b₃ : Heap} (x : Evo X env σ₁ σ₂ s₁ b₁ s₂ b₂) (y : Evo X env σ₂ σ₃ s₂ b₂ s₃ b₃) : Evo X env σ₁ σ₃ s₁ b₁ s₃ b₃ := by
 refine ⟨⟨fun a o f e => ?_, x.ext.le.trans y.ext.le, fun a o e => ?_, fun a o e => ?_, y.ext.os.trans x.ext.os, y.ext.gens.trans x.ext.gens⟩, fun a h => ?_⟩
 ·refine keep_trans (s₁ := s₁) (x.ext.keep a o f e) (fun o' e' => y.ext.keep a o' (fun f' => f ?_) e')
  rcases f' with f' | f' | f'
  ·exact .inl f'
  ·exact .inr (.inl f')
  ·rcases x.dom a f' with f' | f'
   ·exact .inr (.inr f')
   ·rw [e] at f'; exact sno f'
 ·rcases y.ext.new a o e with ⟨o', h⟩ | h | h
  ·exact x.ext.new a o' h
  ·exact .inr (.inl (x.ext.none h))
  ·rcases h with h | h | h
   ·exact .inr (.inr (.inl h))
   ·exact .inr (.inr (.inr (.inl h)))
   ·rcases x.dom a h with h | h
    ·exact .inr (.inr (.inr (.inr h)))
    ·exact .inr (.inl h)
 ·obtain ⟨o', h⟩ := x.ext.live a o e; exact y.ext.live a o' h
 ·rcases y.dom a h with h | h
  ·exact x.dom a h
  ·exact .inr (x.ext.none h)
inductive Po (X : Cx) (env : Env) (σ : Sg) (s : Shared) (b : Heap) (P : D → Sg → Prop) (v : Value) (s' : Shared) : Prop
 | mk (d : D) (σ' : Sg) (b' : Heap) (E : Evo X env σ σ' s b s' b') (S : St X env σ' b' s') (r : Rp X b' v d) (p : P d σ')
noncomputable def Never : Value → Shared → Prop := fun _ _ => False
noncomputable def Tr (X : Cx) (A : Around) (env : Env) (σ : Sg) (t : Sem Value) (P : D → Sg → Prop) : Prop :=
 ∀ s b, St X env σ b s → wpAny X.M A t (Po X env σ s b P) Never s
noncomputable abbrev Ev (X : Cx) (A : Around) (env : Env) (σ : Sg) (e : Expr) (P : D → Sg → Prop) : Prop := Tr X A env σ (eval e env) P
theorem Po.after {env : Env} {σ₁ σ₂ : Sg} {s₁ s₂ : Shared} {b₁ b₂ : Heap} {P : D → Sg → Prop} (x : Evo X env σ₁ σ₂ s₁ b₁ s₂ b₂) {v : Value} {s : Shared} (h : Po X env σ₂ s₂ b₂ P v s) : Po X env σ₁ s₁ b₁ P v s := by
 obtain ⟨d, σ', b', e, S, r, p⟩ := h
 exact ⟨d, σ', b', x.trans e, S, r, p⟩
inductive Fl where
 | next | brk | cont
 | ret (d : D)
noncomputable def FlR (X : Cx) (b : Heap) : Flow → Fl → Prop
 | .next, .next => True
 | .brk, .brk => True
 | .cont, .cont => True
 | .ret v, .ret d => Rp X b v d
 | _, _ => False
inductive PoF (X : Cx) (env : Env) (σ : Sg) (s : Shared) (b : Heap) (P : Fl → Sg → Prop) (f : Flow) (s' : Shared) : Prop
 | mk (fl : Fl) (σ' : Sg) (b' : Heap) (E : Evo X env σ σ' s b s' b') (S : St X env σ' b' s') (r : FlR X b' f fl) (p : P fl σ')
noncomputable def TrF (X : Cx) (A : Around) (env : Env) (σ : Sg) (t : Sem Flow) (P : Fl → Sg → Prop) : Prop :=
 ∀ s b, St X env σ b s → wpAny X.M A t (PoF X env σ s b P) Never s
noncomputable abbrev Ex (X : Cx) (A : Around) (env : Env) (σ : Sg) (st : Stmt) (P : Fl → Sg → Prop) : Prop := TrF X A env σ (exec st env) P
noncomputable abbrev Exs (X : Cx) (A : Around) (env : Env) (σ : Sg) (sts : List Stmt) (P : Fl → Sg → Prop) : Prop := TrF X A env σ (execs sts env) P
theorem PoF.after {env : Env} {σ₁ σ₂ : Sg} {s₁ s₂ : Shared} {b₁ b₂ : Heap} {P : Fl → Sg → Prop} (x : Evo X env σ₁ σ₂ s₁ b₁ s₂ b₂) {v : Flow} {s : Shared} (h : PoF X env σ₂ s₂ b₂ P v s) : PoF X env σ₁ s₁ b₁ P v s := by
 obtain ⟨d, σ', b', e, S, r, p⟩ := h
 exact ⟨d, σ', b', x.trans e, S, r, p⟩
inductive PoB (X : Cx) (env : Env) (σ : Sg) (s : Shared) (b : Heap) (P : Bool → Sg → Prop) (v : Bool) (s' : Shared) : Prop
 | mk (σ' : Sg) (b' : Heap) (E : Evo X env σ σ' s b s' b') (S : St X env σ' b' s') (p : P v σ')
noncomputable def TrB (X : Cx) (A : Around) (env : Env) (σ : Sg) (t : Sem Bool) (P : Bool → Sg → Prop) : Prop :=
 ∀ s b, St X env σ b s → wpAny X.M A t (PoB X env σ s b P) Never s
noncomputable abbrev Te (X : Cx) (A : Around) (env : Env) (σ : Sg) (e : Expr) (P : Bool → Sg → Prop) : Prop := TrB X A env σ (isTrue e env (eval e env)) P
section
variable {env : Env} {σ : Sg} {b : Heap} {s : Shared}
theorem Fm.monoS {ρ : List (Str × D)} {b b' h h' : Heap} (x : Fm X env ρ b h) (hb : Le b b') (hl : ∀ o, h.get? env.locals = some o → ∃ sl, h'.get? env.locals = some { o with slots := sl })
  (hc : ∀ y c o, env.cells.lookup y = some c → h.get? c = some o → ∃ sl, h'.get? c = some { o with slots := sl }) : Fm X env ρ b' h' := by
 obtain ⟨⟨m, ⟨o, es, ep, h1, r⟩, hm⟩, cl, cx⟩ := x
 obtain ⟨sl, hl'⟩ := hl _ h1
 refine ⟨⟨m, ⟨_, es, ep, hl', r⟩, fun x d k e => ?_⟩, fun x d k e => ?_, fun x c k => ?_⟩
 ·obtain ⟨v, h1, h2⟩ := hm x d k e; exact ⟨v, h1, h2.mono hb⟩
 ·refine hide ?_; intro g; obtain ⟨c, v, h1, ⟨o, h2, h3⟩, h4⟩ := cl x d k e; dsimp only [g]
  obtain ⟨sl, hc'⟩ := hc _ _ _ h1 h2
  exact ⟨c, v, h1, ⟨_, hc', h3⟩, h4.mono hb⟩
 ·obtain ⟨v, ⟨o, h2, h3⟩⟩ := cx x c k
  obtain ⟨sl, hc'⟩ := hc _ _ _ k h2
  exact ⟨v, ⟨_, hc', h3⟩⟩
theorem Fm.mono {ρ : List (Str × D)} {b b' h h' : Heap} (x : Fm X env ρ b h) (hb : Le b b') (hl : ∀ o, h.get? env.locals = some o → h'.get? env.locals = some o)
  (hc : ∀ y c o, env.cells.lookup y = some c → h.get? c = some o → h'.get? c = some o) : Fm X env ρ b' h' :=
 x.monoS hb (fun o e => ⟨o.slots, hl o e⟩) (fun y c o k e => ⟨o.slots, hc y c o k e⟩)
theorem St.extend (S : St X env σ b s) {h' b' : Heap} {tk : Nat} (hh : Le s.heap h') (hbb : Le b b') (hin : Le b' h') (hnew : ∀ a o, b'.get? a = some o → (∃ o', b.get? a = some o') ∨ s.heap.get? a = none) :
  St X env σ b' { s with heap := h', toks := tk } ∧ Evo X env σ σ s b { s with heap := h', toks := tk } b' := by
 have hnone : ∀ a o, b.get? a = none → s.heap.get? a = some o → b'.get? a = none := fun a o e l => by
  cases q : b'.get? a with
  | none => rfl
  | some o =>
   rcases hnew a o q with ⟨o', z⟩ | z
   ·rw [e] at z; exact nso z
   ·rw [l] at z; exact sno z
 obtain ⟨oL, hoL⟩ : ∃ o, s.heap.get? env.locals = some o := by obtain ⟨m, ⟨o, _, _, h, _⟩, _⟩ := S.fm.ns; exact ⟨o, h⟩
 refine ⟨⟨S.ok, ⟨hin, fun p hp => (S.hp.cell p hp).mono hbb (fun o e => hh _ _ e), fun p hp => ?_, S.hp.nod, S.hp.top.mono hbb⟩, S.fm.mono hbb (fun o e => hh _ _ e) (fun y c o _ e => hh _ _ e), ⟨hnone _ _ S.fa.lb hoL, S.fa.lw, fun x c e => ?_, S.fa.cw, S.fa.cl, S.fa.inj⟩, S.fr.mono (fun a o _ l e => hnone a o e l) (fun _ _ _ z => z) (fun a o es ep _ _ e q => ⟨o, es, ep, hh _ _ e, q⟩)⟩, ⟨⟨fun a o _ e => kept (hh _ _ e), hbb, fun a o e => (hnew a o e).imp id .inl, fun a o e => ⟨o, hh _ _ e⟩, rfl, rfl⟩, fun a h => .inl h⟩⟩
 ·obtain ⟨o, ho⟩ := (S.hp.cell p hp).live
  exact hnone _ _ (S.hp.out p hp) ho
 ·obtain ⟨ov, o, ho, _⟩ := S.fm.cx x c e
  exact hnone _ _ (S.fa.cb x c e) ho
theorem St.toks (S : St X env σ b s) (tk : Nat) : St X env σ b { s with toks := tk } ∧ Evo X env σ σ s b { s with toks := tk } b :=
 S.extend (h' := s.heap) (tk := tk) (Le.refl _) (Le.refl _) S.hp.le (fun a o e => .inl ⟨o, e⟩)
theorem le_push (h : Heap) (o : Obj) : Le h (h.push o) := fun _ _ e => Heap.get?_push_of_some o e
theorem St.allocD (S : St X env σ b s) (o : Obj) (hf : o.isFreed = false := by rfl) (tk : Nat := s.toks) :
  ∃ b', Le b b' ∧ b'.get? s.heap.objs.size = some o ∧ St X env σ b' { s with heap := s.heap.push o, toks := tk } ∧ Evo X env σ σ s b { s with heap := s.heap.push o, toks := tk } b' := by
 have hle : Le b (s.heap.push o) := S.hp.le.trans (le_push _ _)
 refine ⟨grow b (s.heap.push o) (fun a => a == s.heap.objs.size), grow_le hle, grow_get (by simp) (Heap.get?_push_size _ hf), ?_⟩
 refine S.extend (le_push _ _) (grow_le hle) grow_in (fun a o' e => ?_)
 rcases grow_new e with h | h
 ·exact .inl h
 ·exact .inr (by rw [beq_iff_eq.mp h]; exact fresh_none _)
theorem Hp.lt (H : Hp X σ.ω b s) {a : Addr} (h : a ∈ σ.ω.map (·.1)) : a < s.heap.objs.size := by
 obtain ⟨p, hp, rfl⟩ := List.mem_map.mp h
 obtain ⟨o, ho⟩ := (H.cell p hp).live
 exact Heap.lt_size ho
theorem St.ltL (S : St X env σ b s) : env.locals < s.heap.objs.size := by obtain ⟨m, hn, _⟩ := S.fm.ns; exact hn.lt
theorem St.ltC (S : St X env σ b s) {x : Str} {c : Addr} (e : env.cells.lookup x = some c) : c < s.heap.objs.size := by
 obtain ⟨ov, o, ho, _⟩ := S.fm.cx x c e; exact Heap.lt_size ho
theorem St.ltB (S : St X env σ b s) {a : Addr} {o : Obj} (e : b.get? a = some o) : a < s.heap.objs.size := Heap.lt_size (S.hp.le _ _ e)
theorem St.allocC (S : St X env σ b s) (o : Obj) (c : C) (hc : CellAt X b (s.heap.push o) s.heap.objs.size c) (tk : Nat := s.toks) :
  St X env ⟨σ.ρ, (s.heap.objs.size, c) :: σ.ω⟩ b { s with heap := s.heap.push o, toks := tk } ∧ Evo X env σ ⟨σ.ρ, (s.heap.objs.size, c) :: σ.ω⟩ s b { s with heap := s.heap.push o, toks := tk } b := by
 have q := S.extend (h' := s.heap.push o) (b' := b) (tk := tk) (le_push _ _) (Le.refl _) (S.hp.le.trans (le_push _ _)) (fun a o e => .inl ⟨o, e⟩)
 obtain ⟨S', E'⟩ := q
 have hn : b.get? s.heap.objs.size = none := by
  cases q : b.get? s.heap.objs.size with
  | none => rfl
  | some o => exact absurd (S.ltB q) (Nat.lt_irrefl _)
 refine ⟨⟨S.ok, ⟨S'.hp.le, fun p hp => ?_, fun p hp => ?_, ?_, S.hp.top⟩, S'.fm, ⟨S.fa.lb, ?_, S.fa.cb, fun x c' e => ?_, S.fa.cl, S.fa.inj⟩, ?_⟩, ⟨E'.ext, fun a h => ?_⟩⟩
 ·rcases List.mem_cons.mp hp with rfl | hp
  ·exact hc
  ·exact S'.hp.cell p hp
 ·rcases List.mem_cons.mp hp with rfl | hp
  ·exact hn
  ·exact S.hp.out p hp
 ·simp only [List.map_cons, List.nodup_cons]
  exact ⟨fun h => absurd (S.hp.lt h) (Nat.lt_irrefl _), S.hp.nod⟩
 ·simp only [List.map_cons, List.mem_cons, not_or]
  exact ⟨Nat.ne_of_lt S.ltL, S.fa.lw⟩
 ·simp only [List.map_cons, List.mem_cons, not_or]
  exact ⟨Nat.ne_of_lt (S.ltC e), S.fa.cw x c' e⟩
 ·refine S.fr.mono (fun a o _ _ z => z) (fun a o l z => ?_) (fun a o es ep _ _ e q => ⟨o, es, ep, le_push _ _ _ _ e, q⟩)
  simp only [List.map_cons, List.mem_cons, not_or]
  exact ⟨Nat.ne_of_lt (Heap.lt_size l), z⟩
 ·simp only [List.map_cons, List.mem_cons] at h
  rcases h with rfl | h
  ·exact .inr (fresh_none _)
  ·exact .inl h
inductive Upd (a : Addr) (c c' : C) : Om → Om → Prop
 | head {r} : Upd a c c' ((a, c) :: r) ((a, c') :: r)
 | tail {p r r'} : Upd a c c' r r' → Upd a c c' (p :: r) (p :: r')
theorem Upd.mem {a : Addr} {c c' : C} {ω ω' : Om} (u : Upd a c c' ω ω') : (a, c) ∈ ω := by
 induction u with
 | head => exact .head _
 | tail _ ih => exact .tail _ ih
theorem Upd.keys {a : Addr} {c c' : C} {ω ω' : Om} (u : Upd a c c' ω ω') : ω'.map (·.1) = ω.map (·.1) := by
 induction u with
 | head => rfl
 | tail _ ih => simp [ih]
theorem Upd.of_mem {a : Addr} {c c' : C} {ω ω' : Om} (u : Upd a c c' ω ω') : ∀ p ∈ ω', p = (a, c') ∨ p ∈ ω := by
 induction u with
 | head =>
  intro p hp
  rcases List.mem_cons.mp hp with h | h
  ·exact .inl h
  ·exact .inr (.tail _ h)
 | tail _ ih =>
  intro p hp
  rcases List.mem_cons.mp hp with h | h
  ·exact .inr (h ▸ .head _)
  ·rcases ih p h with h | h
   ·exact .inl h
   ·exact .inr (.tail _ h)
theorem Upd.mem' {a : Addr} {c c' : C} {ω ω' : Om} (u : Upd a c c' ω ω') : (a, c') ∈ ω' := by
 induction u with
 | head => exact .head _
 | tail _ ih => exact .tail _ ih
theorem nodup_mem {ω : Om} (h : (ω.map (·.1)).Nodup) {a : Addr} {c c' : C} (h1 : (a, c) ∈ ω) (h2 : (a, c') ∈ ω) : c = c' := by
 induction ω with
 | nil => cases h1
 | cons p r ih =>
  simp only [List.map_cons, List.nodup_cons] at h
  rcases List.mem_cons.mp h1 with e1 | e1
  ·rcases List.mem_cons.mp h2 with e2 | e2
   ·rw [← e1] at e2; exact (Prod.mk.inj e2).2.symm
   ·exact absurd (List.mem_map_of_mem (f := (·.1)) e2) (by rw [← e1] at h; exact h.1)
  ·rcases List.mem_cons.mp h2 with e2 | e2
   ·exact absurd (List.mem_map_of_mem (f := (·.1)) e1) (by rw [← e2] at h; exact h.1)
   ·exact ih h.2 e1 e2
theorem St.setCell (S : St X env σ b s) {a : Addr} {c c' : C} {ω' : Om} (u : Upd a c c' σ.ω ω') {h' : Heap} (hs : Heap.SameBut a s.heap h') (hc : CellAt X b h' a c') (tk : Nat := s.toks) :
  St X env ⟨σ.ρ, ω'⟩ b { s with heap := h', toks := tk } ∧ Evo X env σ ⟨σ.ρ, ω'⟩ s b { s with heap := h', toks := tk } b := by
 have ha : a ∈ σ.ω.map (·.1) := List.mem_map_of_mem (f := (·.1)) u.mem
 have hb : ∀ x o, b.get? x = some o → x ≠ a := fun x o e z => by
  subst z; have := S.hp.out _ u.mem; rw [e] at this; exact sno this
 have hk := u.keys
 refine ⟨⟨S.ok, ⟨fun x o e => (hs.2 x (hb x o e)).trans (S.hp.le x o e), fun p hp => ?_, fun p hp => ?_, by rw [hk]; exact S.hp.nod, S.hp.top⟩, ?_, ⟨S.fa.lb, by rw [hk]; exact S.fa.lw, S.fa.cb, fun x c e => by rw [hk]; exact S.fa.cw x c e, S.fa.cl, S.fa.inj⟩, S.fr.mono (fun _ _ _ _ z => z) (fun x o l z => by rw [hk]; exact z) (fun x o es ep z _ e q => ⟨o, es, ep, (hs.2 x (fun w => z (w ▸ ha))).trans e, q⟩)⟩, ⟨⟨fun x o f e => ?_, Le.refl _, fun x o e => .inl ⟨o, e⟩, fun x o e => ?_, rfl, rfl⟩, fun x h => .inl (by rw [← hk]; exact h)⟩⟩
 ·rcases u.of_mem p hp with rfl | hp'
  ·exact hc
  ·by_cases hpa : p.1 = a
   ·obtain ⟨x, y⟩ := p
    dsimp at hpa; subst hpa
    have hn : (ω'.map (·.1)).Nodup := by rw [hk]; exact S.hp.nod
    have := nodup_mem hn hp u.mem'
    subst this; exact hc
   ·exact (S.hp.cell p hp').mono (Le.refl _) (fun o e => (hs.2 _ hpa).trans e)
 ·have : p.1 ∈ σ.ω.map (·.1) := by rw [← hk]; exact List.mem_map_of_mem (f := (·.1)) hp
  obtain ⟨q, hq, e⟩ := List.mem_map.mp this
  rw [← e]; exact S.hp.out q hq
 ·refine S.fm.mono (Le.refl _) (fun o e => (hs.2 _ ?_).trans e) (fun y c o e1 e2 => (hs.2 _ ?_).trans e2)
  ·intro z; exact S.fa.lw (z ▸ ha)
  ·intro z; exact S.fa.cw y c e1 (z ▸ ha)
 ·exact kept ((hs.2 x (fun z => f (.inr (.inr (z ▸ ha))))).trans e)
 ·by_cases hx : x = a
  ·subst hx; exact hc.live
  ·exact ⟨o, (hs.2 x hx).trans e⟩
theorem St.storeL (S : St X env σ b s) {x : Str} {v : Value} {d : D} (hk : env.kindOf x = some .local) (r : Rp X b v d) {h' : Heap}
  (hn : ∀ m, s.heap.Ns env.locals m → h'.Ns env.locals (fun y => if y = x then some v else m y)) (hs : Heap.SameBut env.locals s.heap h') (tk : Nat := s.toks) :
  St X env ⟨(x, d) :: σ.ρ, σ.ω⟩ b { s with heap := h', toks := tk } ∧ Evo X env σ ⟨(x, d) :: σ.ρ, σ.ω⟩ s b { s with heap := h', toks := tk } b := by
 have hb : ∀ x o, b.get? x = some o → x ≠ env.locals := fun x o e z => by
  subst z; have := S.fa.lb; rw [e] at this; exact sno this
 refine ⟨⟨S.ok, ⟨fun x o e => (hs.2 x (hb x o e)).trans (S.hp.le x o e), fun p hp => ?_, S.hp.out, S.hp.nod, S.hp.top⟩, ?_, S.fa, S.fr.mono (fun _ _ _ _ z => z) (fun _ _ _ z => z) (fun x o es ep z _ e q => ?_)⟩, ⟨⟨fun x o f e => ?_, Le.refl _, fun x o e => .inl ⟨o, e⟩, fun x o e => ?_, rfl, rfl⟩, fun x h => .inl h⟩⟩
 ·refine (S.hp.cell p hp).mono (Le.refl _) (fun o e => (hs.2 _ fun z => S.fa.lw (z ▸ List.mem_map_of_mem (f := (·.1)) hp)).trans e)
 ·obtain ⟨⟨m, hm, hv⟩, cl, cx⟩ := S.fm
  refine ⟨⟨_, hn m hm, fun y d' k e => ?_⟩, fun y d' k e => ?_, fun y c k => ?_⟩
  ·simp only [List.lookup_cons] at e
   by_cases hy : y = x
   ·subst hy; simp at e; subst e; exact ⟨v, by simp, r⟩
   ·have : (y == x) = false := by simpa using hy
    rw [this] at e
    obtain ⟨v', h1, h2⟩ := hv y d' k e
    exact ⟨v', by simp [hy, h1], h2⟩
  ·have hy : y ≠ x := by rintro rfl; rw [hk] at k; rcases k with k | k <;> cases k
   simp only [List.lookup_cons] at e
   have : (y == x) = false := by simpa using hy
   rw [this] at e
   refine hide ?_; intro g; obtain ⟨c, v', h1, ⟨o, h2, h3⟩, h4⟩ := cl y d' k e; dsimp only [g]
   exact ⟨c, v', h1, ⟨o, (hs.2 _ (S.fa.cl y c h1)).trans h2, h3⟩, h4⟩
  ·refine hide ?_; intro g; obtain ⟨v', ⟨o, h2, h3⟩⟩ := cx y c k; dsimp only [g]
   exact ⟨v', ⟨o, (hs.2 _ (S.fa.cl y c k)).trans h2, h3⟩⟩
 ·by_cases hx : x = env.locals
  ·subst hx; obtain ⟨m, hm, _⟩ := S.fm.ns; obtain ⟨o, es, ep, h, h', _⟩ := hn m hm; exact ⟨o, es, ep, h, h'⟩
  ·exact ⟨o, es, ep, (hs.2 x hx).trans e, q⟩
 ·exact kept ((hs.2 x (fun z => f (.inl z))).trans e)
 ·by_cases hx : x = env.locals
  ·subst hx; obtain ⟨m, hm, _⟩ := S.fm.ns; obtain ⟨o, _, _, h, _⟩ := hn m hm; exact ⟨o, h⟩
  ·exact ⟨o, (hs.2 x hx).trans e⟩
theorem St.storeC (S : St X env σ b s) {x : Str} {v : Value} {d : D} {c : Addr} (hf : env.func.isSome = true) (hk : env.kindOf x = some .cell) (hc : env.cells.lookup x = some c) (r : Rp X b v d) {h' : Heap}
  (hn : h'.IsCell c (some v)) (hs : Heap.SameBut c s.heap h') (tk : Nat := s.toks) :
  St X env ⟨(x, d) :: σ.ρ, σ.ω⟩ b { s with heap := h', toks := tk } ∧ Evo X env σ ⟨(x, d) :: σ.ρ, σ.ω⟩ s b { s with heap := h', toks := tk } b := by
 have hb : ∀ x o, b.get? x = some o → x ≠ c := fun y o e z => by
  subst z; have := S.fa.cb x _ hc; rw [e] at this; exact sno this
 refine ⟨⟨S.ok, ⟨fun x o e => (hs.2 x (hb x o e)).trans (S.hp.le x o e), fun p hp => ?_, S.hp.out, S.hp.nod, S.hp.top⟩, ?_, S.fa, S.fr.mono (fun _ _ _ _ z => z) (fun _ _ _ z => z) (fun x o es ep z _ e q => ?_)⟩, ⟨⟨fun y o f e => ?_, Le.refl _, fun x o e => .inl ⟨o, e⟩, fun x o e => ?_, rfl, rfl⟩, fun x h => .inl h⟩⟩
 ·refine (S.hp.cell p hp).mono (Le.refl _) (fun o e => (hs.2 _ fun z => S.fa.cw x c hc (z ▸ List.mem_map_of_mem (f := (·.1)) hp)).trans e)
 ·obtain ⟨⟨m, hm, hv⟩, cl, cx⟩ := S.fm
  refine ⟨⟨_, hm.sameBut hs (fun z => S.fa.cl x c hc z.symm), fun y d' k e => ?_⟩, fun y d' k e => ?_, fun y c' k => ?_⟩
  ·have hy : y ≠ x := by rintro rfl; rw [hk] at k; cases k
   simp only [List.lookup_cons] at e
   have : (y == x) = false := by simpa using hy
   rw [this] at e
   exact hv y d' k e
  ·simp only [List.lookup_cons] at e
   by_cases hy : y = x
   ·subst hy; simp at e; subst e; exact ⟨c, v, hc, hn, r⟩
   ·have : (y == x) = false := by simpa using hy
    rw [this] at e
    refine hide ?_; intro g; obtain ⟨c', v', h1, ⟨o, h2, h3⟩, h4⟩ := cl y d' k e; dsimp only [g]
    have hcc : c' ≠ c := fun z => hy (S.fa.inj y x c (z ▸ h1) hc)
    exact ⟨c', v', h1, ⟨o, (hs.2 _ hcc).trans h2, h3⟩, h4⟩
  ·by_cases hcc : c' = c
   ·subst hcc; exact ⟨_, hn⟩
   ·obtain ⟨v', ⟨o, h2, h3⟩⟩ := cx y c' k
    exact ⟨v', ⟨o, (hs.2 _ hcc).trans h2, h3⟩⟩
 ·refine ⟨o, es, ep, (hs.2 x fun w => ?_).trans e, q⟩
  subst w
  obtain ⟨ov, oc, h1, h2⟩ := S.fm.cx _ _ hc
  rw [e] at h1; obtain rfl := Option.some.inj h1
  rw [q] at h2; cases h2
 ·exact kept ((hs.2 y (fun z => f (.inr (.inl ⟨x, hk, hf, z ▸ hc⟩)))).trans e)
 ·rename_i y
  by_cases hx : x = c
  ·subst hx; obtain ⟨o, h, _⟩ := hn; exact ⟨o, h⟩
  ·exact ⟨o, (hs.2 x hx).trans e⟩
end
end
section
variable {X : Cx} {A : Around} {env : Env} {σ : Sg} {P : D → Sg → Prop}
theorem Tr.mono {t : Sem Value} {P' : D → Sg → Prop} (h : Tr X A env σ t P) (hp : ∀ d σ', P d σ' → P' d σ') : Tr X A env σ t P' := fun s b S =>
 wpAny_mono (h s b S) (fun v s' ⟨d, σ', b', e, S', r, p⟩ => ⟨d, σ', b', e, S', r, hp _ _ p⟩) fun _ _ x => x
theorem TrF.mono {t : Sem Flow} {P P' : Fl → Sg → Prop} (h : TrF X A env σ t P) (hp : ∀ d σ', P d σ' → P' d σ') : TrF X A env σ t P' := fun s b S =>
 wpAny_mono (h s b S) (fun v s' ⟨d, σ', b', e, S', r, p⟩ => ⟨d, σ', b', e, S', r, hp _ _ p⟩) fun _ _ x => x
theorem TrB.mono {t : Sem Bool} {P P' : Bool → Sg → Prop} (h : TrB X A env σ t P) (hp : ∀ d σ', P d σ' → P' d σ') : TrB X A env σ t P' := fun s b S =>
 wpAny_mono (h s b S) (fun v s' ⟨σ', b', e, S', p⟩ => ⟨σ', b', e, S', hp _ _ p⟩) fun _ _ x => x
theorem Po.here {s : Shared} {b : Heap} {v : Value} {d : D} (S : St X env σ b s) (r : Rp X b v d) (p : P d σ) : Po X env σ s b P v s := ⟨d, σ, b, Evo.refl .., S, r, p⟩
theorem Po.tok {s : Shared} {b : Heap} {v : Value} {d : D} {tk : Nat} (S : St X env σ b s) (r : Rp X b v d) (p : P d σ) : Po X env σ s b P v { s with toks := tk } :=
 ⟨d, σ, b, (S.toks tk).2, (S.toks tk).1, r, p⟩
noncomputable def Op (X : Cx) (A : Around) (env : Env) (σ : Sg) (f : Value → Value → Sem Value) (d₁ d₂ : D) (P : D → Sg → Prop) : Prop :=
 ∀ s b v₁ v₂, St X env σ b s → Rp X b v₁ d₁ → Rp X b v₂ d₂ → wpAny X.M A (f v₁ v₂) (Po X env σ s b P) Never s
noncomputable def OpB (X : Cx) (A : Around) (env : Env) (σ : Sg) (f : Value → Sem Bool) (d₁ : D) (P : Bool → Sg → Prop) : Prop :=
 ∀ s b v₁, St X env σ b s → Rp X b v₁ d₁ → wpAny X.M A (f v₁) (PoB X env σ s b P) Never s
inductive PoL (X : Cx) (env : Env) (σ : Sg) (s : Shared) (b : Heap) (P : List D → Sg → Prop) (vs : List Value) (s' : Shared) : Prop
 | mk (ds : List D) (σ' : Sg) (b' : Heap) (E : Evo X env σ σ' s b s' b') (S : St X env σ' b' s') (r : RpAll X b' vs ds) (p : P ds σ')
noncomputable def TrL (X : Cx) (A : Around) (env : Env) (σ : Sg) (t : Sem (List Value)) (P : List D → Sg → Prop) : Prop :=
 ∀ s b, St X env σ b s → wpAny X.M A t (PoL X env σ s b P) Never s
noncomputable def OpL (X : Cx) (A : Around) (env : Env) (σ : Sg) (f : List Value → Sem Value) (ds : List D) (P : D → Sg → Prop) : Prop :=
 ∀ s b vs, St X env σ b s → RpAll X b vs ds → wpAny X.M A (f vs) (Po X env σ s b P) Never s
noncomputable abbrev QOp (X : Cx) (A : Around) (env : Env) (f : Value → Value → Sem Value) (d₁ : D) (P : D → Sg → Prop) : D → Sg → Prop := fun d₂ σ₂ => Op X A env σ₂ f d₁ d₂ P
noncomputable abbrev QBin (X : Cx) (A : Around) (env : Env) (f : Value → Value → Sem Value) (r : Expr) (P : D → Sg → Prop) : D → Sg → Prop := fun d₁ σ₁ => Ev X A env σ₁ r (QOp X A env f d₁ P)
noncomputable abbrev QTr (X : Cx) (A : Around) (env : Env) (PB : Bool → Sg → Prop) : D → Sg → Prop := fun d σ₁ => OpB X A env σ₁ truthy d PB
noncomputable abbrev QAnd (X : Cx) (A : Around) (env : Env) (rest : List Expr) (pos : Pos) (whole : Sem Value) (PB : Bool → Sg → Prop) : Bool → Sg → Prop := fun c σ₁ => if c = true then TrB X A env σ₁ (isTrue (.BoolOp .And rest pos) env whole) PB else PB false σ₁
noncomputable abbrev QOr (X : Cx) (A : Around) (env : Env) (rest : List Expr) (pos : Pos) (whole : Sem Value) (PB : Bool → Sg → Prop) : Bool → Sg → Prop := fun c σ₁ => if c = true then PB true σ₁ else TrB X A env σ₁ (isTrue (.BoolOp .Or rest pos) env whole) PB
noncomputable abbrev QIf (X : Cx) (A : Around) (env : Env) (body orelse : Expr) (P : D → Sg → Prop) : Bool → Sg → Prop := fun c σ₁ => if c = true then Ev X A env σ₁ body P else Ev X A env σ₁ orelse P
noncomputable abbrev QCons (d : D) (PL : List D → Sg → Prop) : List D → Sg → Prop := fun ds σ₂ => PL (d :: ds) σ₂
noncomputable abbrev QTl (X : Cx) (A : Around) (env : Env) (pos : Pos) (rest : List Expr) (PL : List D → Sg → Prop) : D → Sg → Prop := fun d σ₁ => TrL X A env σ₁ (spliced (backTo pos (starEach rest env))) (QCons d PL)
noncomputable abbrev QTup (P : D → Sg → Prop) : List D → Sg → Prop := fun ds σ₁ => ds.length ≤ sizeLine ∧ P (.tup ds) σ₁
noncomputable abbrev QLst (P : D → Sg → Prop) : List D → Sg → Prop := fun ds σ₁ => ds.length ≤ sizeLine ∧ P (.list ds) σ₁
noncomputable abbrev QLsc (P : D → Sg → Prop) : List D → Sg → Prop := fun ds σ₁ => ds.length ≤ sizeLine ∧ ∀ a, P (.raw (.ref a)) ⟨σ₁.ρ, (a, .lst ds) :: σ₁.ω⟩
noncomputable abbrev QArg (X : Cx) (A : Around) (env : Env) (f : List Value → Sem Value) (P : D → Sg → Prop) : List D → Sg → Prop := fun ds σ₂ => OpL X A env σ₂ f ds P
inductive QCall (X : Cx) (A : Around) (env : Env) (v : Value) (pos : Pos) (args : List Expr) (f : List Value → Sem Value) (P : D → Sg → Prop) (f' : D) (σ₁ : Sg) : Prop
 | mk (e : f' = .raw v) (h : TrL X A env σ₁ (spliced (backTo pos (starEach args env))) (QArg X A env f P))
theorem isVar_cases {k : Option NameKind} (h : isVar k = true) : k = some .local ∨ k = some .cell ∨ k = some .free := by
 cases k with
 | none => exact fet h
 | some k => cases k <;> first | exact fet h | exact .inl rfl | exact .inr (.inl rfl) | exact .inr (.inr rfl)
theorem ev_var {x : Str} {pos : Pos} {d : D} (hv : σ.ρ.lookup x = some d) (hk : isVar (env.kindOf x) = true) (p : P d σ) (hd : (x == ("__debug__" : Str)) = false) (hc : (x == ("__classdict__" : Str)) = false) :
  Ev X A env σ (.Name x pos) P := fun s b S => by
 refine wpAny_Name ?_ hd
 rcases isVar_cases hk with k | k | k
 ·refine hide ?_; intro g; obtain ⟨m, hn, hm⟩ := S.fm.ns; dsimp only [g]
  refine hide ?_; intro g; obtain ⟨v, h1, h2⟩ := hm x d k hv; dsimp only [g]
  exact wpAny_loadName_local S.ok.kind k hn h1 (Po.here S h2 p)
 ·obtain ⟨c, v, h1, h2, h3⟩ := S.fm.cl x d (.inl k) hv
  exact wpAny_loadName_cell S.ok.kind k h1 h2 (Po.here S h3 p)
 ·obtain ⟨c, v, h1, h2, h3⟩ := S.fm.cl x d (.inr k) hv
  exact wpAny_loadName_free S.ok.kind k h1 h2 (Po.here S h3 p) hc
theorem ev_glob {x : Str} {pos : Pos} {v : Value} {d : D} (e : nsIn X.K mainGlobals x = some (some v)) (r : ∀ b, X.Top b → Rp X b v d) (hk : env.kindOf x = some .globalImplicit) (p : P d σ) (hd : (x == ("__debug__" : Str)) = false) :
  Ev X A env σ (.Name x pos) P := fun s b S => by
 have T := S.hp.top
 refine Name_function_global S.ok.kind hk ?_ hd
 refine loadGlobal_global (mg := X.mg) (by rw [S.ok.glob]; exact T.tr.g.keeps S.hp.le) (mg_of T.inK T.tr.g e) (Po.here S (r b T) p)
theorem ev_blt {x : Str} {pos : Pos} {v : Value} (e : nsIn X.K mainGlobals x = some none) (hv : bootBuiltins x = some v) (hn : x ≠ "__name__") (hk : env.kindOf x = some .globalImplicit) (p : P (.raw v) σ) (hd : (x == ("__debug__" : Str)) = false) :
  Ev X A env σ (.Name x pos) P := fun s b S => by
 have T := S.hp.top
 refine Name_function_global S.ok.kind hk ?_ hd
 refine loadGlobal_builtin (mg := X.mg) (mb := X.mb) (by rw [S.ok.glob]; exact T.tr.g.keeps S.hp.le) (mg_none_of T.inK T.tr.g e) (by rw [S.ok.blt]; exact T.tr.b.keeps S.hp.le) ((T.tr.builtins x hn).trans hv) (Po.here S (.raw v) p)
theorem ev_str {x : Str} {k : Nat} {pos : Pos} (p : P (.str x) σ) : Ev X A env σ (.Constant (.str x) k pos) P := fun s b S => Constant_str (Po.tok S (.str ..) p)
theorem ev_int {i : Int} {k : Nat} {pos : Pos} (p : P (.int i) σ) : Ev X A env σ (.Constant (.int i) k pos) P := fun s b S => wpAny_Constant_int (Po.tok S (.int ..) p)
theorem ev_none {k : Nat} {pos : Pos} (p : P .none σ) : Ev X A env σ (.Constant .none k pos) P := fun s b S => wpAny_pure (Po.here S .none p)
theorem ev_bool {x : Bool} {k : Nat} {pos : Pos} (p : P (.bool x) σ) : Ev X A env σ (.Constant (.bool x) k pos) P := fun s b S => wpAny_pure (Po.here S (.bool _) p)
theorem ev_bin {l r : Expr} {op : Operator} {pos : Pos} (h : Ev X A env σ l (QBin X A env (binaryOp op) r P)) : Ev X A env σ (.BinOp l op r pos) P := fun s b S => by
 refine wpAny_BinOp (wpAny_mono (h s b S) ?_ (fun _ _ x => x))
 rintro v₁ s₁ ⟨d₁, σ₁, b₁, E₁, S₁, r₁, h₁⟩
 refine wpAny_mono (h₁ s₁ b₁ S₁) ?_ (fun _ _ x => x)
 rintro v₂ s₂ ⟨d₂, σ₂, b₂, E₂, S₂, r₂, h₂⟩
 exact wpAny_mono (h₂ s₂ b₂ v₁ v₂ S₂ (r₁.mono E₂.ext.le) r₂) (fun v s' q => (q.after E₂).after E₁) (fun _ _ x => x)
theorem ev_cmp {l r : Expr} {op : CmpOp} {pos : Pos} (h : Ev X A env σ l (QBin X A env (compareOp op) r P))
  (hm : behindInMarks op r = false) : Ev X A env σ (.Compare l [op] [r] pos) P := fun s b S => by
 refine wpAny_Compare1 (wpAny_mono (h s b S) ?_ (fun _ _ x => x)) hm
 rintro v₁ s₁ ⟨d₁, σ₁, b₁, E₁, S₁, r₁, h₁⟩
 refine wpAny_mono (h₁ s₁ b₁ S₁) ?_ (fun _ _ x => x)
 rintro v₂ s₂ ⟨d₂, σ₂, b₂, E₂, S₂, r₂, h₂⟩
 exact wpAny_mono (h₂ s₂ b₂ v₁ v₂ S₂ (r₁.mono E₂.ext.le) r₂) (fun v s' q => (q.after E₂).after E₁) (fun _ _ x => x)
theorem ev_sub {l r : Expr} {pos : Pos} (h : Ev X A env σ l (QBin X A env (subscriptTail l r) r P)) : Ev X A env σ (.Subscript l r pos) P := fun s b S => by
 refine Subscript_ (wpAny_mono (h s b S) ?_ (fun _ _ x => x))
 rintro v₁ s₁ ⟨d₁, σ₁, b₁, E₁, S₁, r₁, h₁⟩
 refine wpAny_mono (h₁ s₁ b₁ S₁) ?_ (fun _ _ x => x)
 rintro v₂ s₂ ⟨d₂, σ₂, b₂, E₂, S₂, r₂, h₂⟩
 exact wpAny_mono (h₂ s₂ b₂ v₁ v₂ S₂ (r₁.mono E₂.ext.le) r₂) (fun v s' q => (q.after E₂).after E₁) (fun _ _ x => x)
theorem PoB.after {PB : Bool → Sg → Prop} {σ₁ σ₂ : Sg} {s₁ s₂ : Shared} {b₁ b₂ : Heap} (x : Evo X env σ₁ σ₂ s₁ b₁ s₂ b₂) {v : Bool} {s : Shared} (h : PoB X env σ₂ s₂ b₂ PB v s) : PoB X env σ₁ s₁ b₁ PB v s := by
 obtain ⟨σ', b', e, S, p⟩ := h
 exact ⟨σ', b', x.trans e, S, p⟩
theorem PoB.here {PB : Bool → Sg → Prop} {s : Shared} {b : Heap} {v : Bool} (S : St X env σ b s) (p : PB v σ) : PoB X env σ s b PB v s := ⟨σ, b, Evo.refl .., S, p⟩
theorem te_cmp {PB : Bool → Sg → Prop} {l r : Expr} {op : CmpOp} {pos : Pos} (h : Ev X A env σ l (QBin X A env (compareOp op) r (QTr X A env PB)))
  (hm : behindInMarks op r = false) : Te X A env σ (.Compare l [op] [r] pos) PB := fun s b S => by
 refine wpAny_isTrue_Compare1 (wpAny_mono (h s b S) ?_ (fun _ _ x => x)) hm
 rintro v₁ s₁ ⟨d₁, σ₁, b₁, E₁, S₁, r₁, h₁⟩
 refine wpAny_mono (h₁ s₁ b₁ S₁) ?_ (fun _ _ x => x)
 rintro v₂ s₂ ⟨d₂, σ₂, b₂, E₂, S₂, r₂, h₂⟩
 refine wpAny_mono (h₂ s₂ b₂ v₁ v₂ S₂ (r₁.mono E₂.ext.le) r₂) ?_ (fun _ _ x => x)
 rintro v₃ s₃ ⟨d₃, σ₃, b₃, E₃, S₃, r₃, h₃⟩
 exact wpAny_mono (h₃ s₃ b₃ v₃ S₃ r₃) (fun v s' q => ((q.after E₃).after E₂).after E₁) (fun _ _ x => x)
theorem te_plain {PB : Bool → Sg → Prop} {e : Expr} (h : Ev X A env σ e (QTr X A env PB))
  (he : isTrue e env (eval e env) = (do let v ← eval e env; standAt e.pos; holding [v] (truthy v))) : Te X A env σ e PB := fun s b S => by
 refine isTrue_plain (wpAny_mono (h s b S) ?_ (fun _ _ x => x)) he
 rintro v₁ s₁ ⟨d₁, σ₁, b₁, E₁, S₁, r₁, h₁⟩
 exact wpAny_mono (h₁ s₁ b₁ v₁ S₁ r₁) (fun v s' q => q.after E₁) (fun _ _ x => x)
theorem te_not {PB : Bool → Sg → Prop} {e : Expr} {pos : Pos} (h : Te X A env σ e (fun c σ₁ => PB (!c) σ₁)) : Te X A env σ (.UnaryOp .Not e pos) PB := fun s b S =>
 isTrue_not (wpAny_mono (h s b S) (fun c s' ⟨σ', b', E, S', p⟩ => ⟨σ', b', E, S', p⟩) fun _ _ x => x)
theorem te_and_nil {PB : Bool → Sg → Prop} {pos : Pos} {whole : Sem Value} (p : PB true σ) : TrB X A env σ (isTrue (.BoolOp .And [] pos) env whole) PB := fun s b S => isTrue_and_nil (PoB.here S p)
theorem te_or_nil {PB : Bool → Sg → Prop} {pos : Pos} {whole : Sem Value} (p : PB false σ) : TrB X A env σ (isTrue (.BoolOp .Or [] pos) env whole) PB := fun s b S => isTrue_or_nil (PoB.here S p)
theorem te_and {PB : Bool → Sg → Prop} {x : Expr} {rest : List Expr} {pos : Pos} {whole : Sem Value} (h : Te X A env σ x (QAnd X A env rest pos whole PB)) :
  TrB X A env σ (isTrue (.BoolOp .And (x :: rest) pos) env whole) PB := fun s b S => by
 refine isTrue_and (wpAny_mono (h s b S) ?_ fun _ _ x => x)
 rintro c s₁ ⟨σ₁, b₁, E₁, S₁, h₁⟩
 cases c with
 | true => simp only [QAnd, QOr, QIf, if_true] at h₁ ⊢; exact wpAny_mono (h₁ s₁ b₁ S₁) (fun v s' q => q.after E₁) (fun _ _ x => x)
 | false => simp only [QAnd, QOr, QIf, Bool.false_eq_true, if_false] at h₁ ⊢; exact ⟨σ₁, b₁, E₁, S₁, h₁⟩
theorem te_or {PB : Bool → Sg → Prop} {x : Expr} {rest : List Expr} {pos : Pos} {whole : Sem Value} (h : Te X A env σ x (QOr X A env rest pos whole PB)) :
  TrB X A env σ (isTrue (.BoolOp .Or (x :: rest) pos) env whole) PB := fun s b S => by
 refine isTrue_or (wpAny_mono (h s b S) ?_ fun _ _ x => x)
 rintro c s₁ ⟨σ₁, b₁, E₁, S₁, h₁⟩
 cases c with
 | false => simp only [QAnd, QOr, QIf, Bool.false_eq_true, if_false] at h₁ ⊢; exact wpAny_mono (h₁ s₁ b₁ S₁) (fun v s' q => q.after E₁) (fun _ _ x => x)
 | true => simp only [QAnd, QOr, QIf, if_true] at h₁ ⊢; exact ⟨σ₁, b₁, E₁, S₁, h₁⟩
theorem ev_if {test body orelse : Expr} {pos : Pos} (h : Te X A env σ test (QIf X A env body orelse P)) : Ev X A env σ (.IfExp test body orelse pos) P := fun s b S => by
 refine IfExp_ (wpAny_mono (h s b S) ?_ fun _ _ x => x)
 rintro c s₁ ⟨σ₁, b₁, E₁, S₁, h₁⟩
 cases c with
 | true => simp only [QAnd, QOr, QIf, if_true] at h₁ ⊢; exact wpAny_mono (h₁ s₁ b₁ S₁) (fun v s' q => q.after E₁) (fun _ _ x => x)
 | false => simp only [QAnd, QOr, QIf, Bool.false_eq_true, if_false] at h₁ ⊢; exact wpAny_mono (h₁ s₁ b₁ S₁) (fun v s' q => q.after E₁) (fun _ _ x => x)
theorem trl_nil {PL : List D → Sg → Prop} {pos : Pos} (p : PL [] σ) : TrL X A env σ (spliced (backTo pos (starEach [] env))) PL := fun s b S => args_nil ⟨[], σ, b, Evo.refl .., S, .nil, p⟩
theorem trl_cons {PL : List D → Sg → Prop} {e : Expr} {rest : List Expr} {pos : Pos} (h : Ev X A env σ e (QTl X A env pos rest PL))
  (he : starEach (e :: rest) env = (false, eval e env) :: starEach rest env) : TrL X A env σ (spliced (backTo pos (starEach (e :: rest) env))) PL := fun s b S => by
 refine args_cons (wpAny_mono (h s b S) ?_ (fun _ _ x => x)) he
 rintro v₁ s₁ ⟨d₁, σ₁, b₁, E₁, S₁, r₁, h₁⟩
 refine wpAny_mono (h₁ s₁ b₁ S₁) ?_ (fun _ _ x => x)
 rintro v₂ s₂ ⟨d₂, σ₂, b₂, E₂, S₂, r₂, h₂⟩
 exact ⟨_, σ₂, b₂, E₁.trans E₂, S₂, .cons (r₁.mono E₂.ext.le) r₂, h₂⟩
theorem ev_tup {elts : List Expr} {k : Nat} {pos : Pos} (h : TrL X A env σ (spliced (backTo pos (starEach elts env))) (QTup P)) : Ev X A env σ (.Tuple elts k pos) P := fun s b S => by
 refine Tuple_ (wpAny_mono (h s b S) ?_ (fun _ _ x => x))
 rintro vs s₁ ⟨ds, σ₁, b₁, E₁, S₁, r₁, hz, h₁⟩
 obtain ⟨b₂, l, g, S₂, E₂⟩ := S₁.allocD (seqObj "tuple" vs.toArray 0)
 refine wpAny_newObj_type ?_ (by show vs.toArray.size ≤ sizeLine; rw [List.size_toArray, r₁.length]; exact hz)
 exact ⟨.tup ds, σ₁, b₂, E₁.trans E₂, S₂, .tup g (by simpa using r₁.mono l), h₁⟩
theorem ev_list {elts : List Expr} {pos : Pos} (h : TrL X A env σ (spliced (backTo pos (starEach elts env))) (QLst P)) : Ev X A env σ (.List elts pos) P := fun s b S => by
 refine List_ (wpAny_mono (h s b S) ?_ (fun _ _ x => x))
 rintro vs s₁ ⟨ds, σ₁, b₁, E₁, S₁, r₁, hz, h₁⟩
 obtain ⟨b₂, l, g, S₂, E₂⟩ := S₁.allocD (seqObj "list" vs.toArray 0)
 refine wpAny_newObj_type ?_ (by show vs.toArray.size ≤ sizeLine; rw [List.size_toArray, r₁.length]; exact hz)
 exact ⟨.list ds, σ₁, b₂, E₁.trans E₂, S₂, .list g (by simpa using r₁.mono l), h₁⟩
theorem ev_listC {elts : List Expr} {pos : Pos} (h : TrL X A env σ (spliced (backTo pos (starEach elts env))) (QLsc P)) : Ev X A env σ (.List elts pos) P := fun s b S => by
 refine List_ (wpAny_mono (h s b S) ?_ (fun _ _ x => x))
 rintro vs s₁ ⟨ds, σ₁, b₁, E₁, S₁, r₁, hz, h₁⟩
 obtain ⟨S₂, E₂⟩ := S₁.allocC (seqObj "list" vs.toArray 0) (.lst ds) ⟨vs.toArray, 0, Heap.get?_push_size _ rfl, by simpa using r₁⟩
 refine wpAny_newObj_type ?_ (by show vs.toArray.size ≤ sizeLine; rw [List.size_toArray, r₁.length]; exact hz)
 exact ⟨_, _, b₁, E₁.trans E₂, S₂, .raw _, h₁ _⟩
theorem ob_bool {PB : Bool → Sg → Prop} {x : Bool} (p : PB x σ) : OpB X A env σ truthy (.bool x) PB := fun s b v S r => by
 obtain rfl := r.i_bool; exact wpAny_truthy_bool (PoB.here S p)
end
section
variable {X : Cx} {A : Around} {env : Env} {σ : Sg} {P : D → Sg → Prop} {Q : Fl → Sg → Prop}
theorem PoF.here {s : Shared} {b : Heap} {v : Flow} {d : Fl} (S : St X env σ b s) (r : FlR X b v d) (p : Q d σ) : PoF X env σ s b Q v s := ⟨d, σ, b, Evo.refl .., S, r, p⟩
theorem exs_let {X : Cx} {A : Around} {env : Env} {σ : Sg} {l : List Stmt} {Q : Fl → Sg → Prop} (h : let X' := X; let A' := A; let e' := env; let q' := Q; Exs X' A' e' σ l q') : Exs X A env σ l Q := h
theorem exs_nil (p : Q .next σ) : Exs X A env σ [] Q := fun s b S => wpAny_execs_nil (PoF.here (d := .next) S trivial p)
noncomputable abbrev QSeq (X : Cx) (A : Around) (env : Env) (rest : List Stmt) (Q : Fl → Sg → Prop) : Fl → Sg → Prop := fun f σ₁ => match f with | .next => Exs X A env σ₁ rest Q | f => Q f σ₁
noncomputable abbrev QAss (x : Str) (Q : Fl → Sg → Prop) : D → Sg → Prop := fun d σ₁ => Q .next ⟨(x, d) :: σ₁.ρ, σ₁.ω⟩
noncomputable abbrev QIfs (X : Cx) (A : Around) (env : Env) (body orelse : List Stmt) (Q : Fl → Sg → Prop) : Bool → Sg → Prop := fun c σ₁ => if c = true then Exs X A env σ₁ body Q else Exs X A env σ₁ orelse Q
noncomputable abbrev QRet (Q : Fl → Sg → Prop) : D → Sg → Prop := fun d σ₁ => Q (.ret d) σ₁
inductive QExp (Q : Fl → Sg → Prop) (d : D) (σ₁ : Sg) : Prop
 | mk (e : d = .none) (p : Q .next σ₁)
theorem exs_cons {st : Stmt} {rest : List Stmt} (h : Ex X A env σ st (QSeq X A env rest Q)) : Exs X A env σ (st :: rest) Q := fun s b S => by
 refine wpAny_execs_cons (wpAny_mono (h s b S) ?_ (fun _ _ x => x))
 rintro f s₁ ⟨fl, σ₁, b₁, E₁, S₁, r₁, h₁⟩
 cases f with
 | next =>
  cases fl with
  | next => exact wpAny_mono (h₁ s₁ b₁ S₁) (fun v s' q => q.after E₁) (fun _ _ x => x)
  | _ => exact r₁.elim
 | brk => cases fl with
  | brk => exact ⟨.brk, σ₁, b₁, E₁, S₁, trivial, h₁⟩
  | _ => exact r₁.elim
 | cont => cases fl with
  | cont => exact ⟨.cont, σ₁, b₁, E₁, S₁, trivial, h₁⟩
  | _ => exact r₁.elim
 | ret v => cases fl with
  | ret d => exact ⟨.ret d, σ₁, b₁, E₁, S₁, r₁, h₁⟩
  | _ => exact r₁.elim
noncomputable def isLoc (env : Env) (x : Str) : Bool := match env.kindOf x with
 | some .local => true
 | some .cell => env.func.isSome
 | _ => false
theorem isLoc_cases {env : Env} {x : Str} (h : isLoc env x = true) : env.kindOf x = some .local ∨ (env.kindOf x = some .cell ∧ env.func.isSome = true) := by
 unfold isLoc at h
 generalize env.kindOf x = k at h ⊢
 cases k with
 | none => exact fet h
 | some k => cases k <;> first | exact fet h | exact .inl rfl | exact .inr ⟨rfl, h⟩
theorem store_var {x : Str} {v : Value} {d : D} {s : Shared} {b : Heap} (S : St X env σ b s) (r : Rp X b v d) (hk : isLoc env x = true) {QQ : Unit → Shared → Prop}
  (h : ∀ s', St X env ⟨(x, d) :: σ.ρ, σ.ω⟩ b s' → Evo X env σ ⟨(x, d) :: σ.ρ, σ.ω⟩ s b s' b → QQ () s') {E : Value → Shared → Prop} : wpAny X.M A (storeName env x v) QQ E s := by
 have hp : (env.scope.kind == .class || (env.scope.kind == .module && env.locals != env.globals)) = false := by rw [S.ok.kind]; rfl
 rcases isLoc_cases hk with k | ⟨k, hk⟩
 ·obtain ⟨m, hn, hm⟩ := S.fm.ns
  refine wpAny_storeName_local k hn (fun h' hn' hs => ?_) hp
  have q := S.storeL (x := x) (v := v) (d := d) k r (h' := h') (fun m' hm' => ?_) hs (s.toks + 1)
  ·exact h _ q.1 q.2
  ·have : m' = m := by
    funext y
    obtain ⟨o, es, ep, h1, h2, _, h3⟩ := hn
    obtain ⟨o', es', ep', h1', h2', _, h3'⟩ := hm'
    rw [h1] at h1'; obtain rfl := Option.some.inj h1'; rw [h2] at h2'; cases h2'
    rw [← h3, ← h3']
   subst this; exact hn'
 ·obtain ⟨c, hc⟩ := S.ok.cells x (.inl k)
  obtain ⟨ov, hov⟩ := S.fm.cx x c hc
  refine wpAny_storeName_cell S.ok.kind k hc hov (fun h' hn' hs => ?_)
  have q := S.storeC (x := x) (v := v) (d := d) hk k hc r hn' hs s.toks
  exact h _ q.1 q.2
theorem ex_assign {x : Str} {pos' pos : Pos} {e : Expr} (h : Ev X A env σ e (QAss x Q)) (hk : isLoc env x = true)
  (hs : swapsWith e (some (.Name x pos')) pos.line env = pure false) : Ex X A env σ (.Assign [.Name x pos'] e pos) Q := fun s b S => by
 refine wpAny_Assign_Name (wpAny_mono (h s b S) ?_ (fun _ _ x => x)) hs
 rintro v s₁ ⟨d, σ₁, b₁, E₁, S₁, r₁, h₁⟩
 exact store_var S₁ r₁ hk fun s' S' E' => ⟨.next, _, b₁, E₁.trans E', S', trivial, h₁⟩
theorem ex_if {test : Expr} {body orelse : List Stmt} {pos : Pos} (h : Te X A env σ test (QIfs X A env body orelse Q)) : Ex X A env σ (.If test body orelse pos) Q := fun s b S => by
 refine wpAny_If (wpAny_mono (h s b S) ?_ (fun _ _ x => x))
 rintro c s₁ ⟨σ₁, b₁, E₁, S₁, h₁⟩
 cases c with
 | true => simp only [QIfs, if_true] at h₁ ⊢; exact wpAny_mono (h₁ s₁ b₁ S₁) (fun v s' q => q.after E₁) (fun _ _ x => x)
 | false => simp only [QIfs, Bool.false_eq_true, if_false] at h₁ ⊢; exact wpAny_mono (h₁ s₁ b₁ S₁) (fun v s' q => q.after E₁) (fun _ _ x => x)
theorem ex_ret {e : Expr} {pos : Pos} (h : Ev X A env σ e (QRet Q)) : Ex X A env σ (.Return (some e) pos) Q := fun s b S => by
 refine wpAny_Return_some (wpAny_mono (h s b S) ?_ (fun _ _ x => x))
 rintro v s₁ ⟨d, σ₁, b₁, E₁, S₁, r₁, h₁⟩
 exact ⟨.ret d, σ₁, b₁, E₁, S₁, r₁, h₁⟩
theorem ex_brk {pos : Pos} (p : Q .brk σ) : Ex X A env σ (.Break pos) Q := fun s b S => wpAny_Break (PoF.here (d := .brk) S trivial p)
theorem ex_pass {pos : Pos} (p : Q .next σ) : Ex X A env σ (.Pass pos) Q := fun s b S => wpAny_Pass (PoF.here (d := .next) S trivial p)
theorem ex_expr {e : Expr} {pos : Pos} (h : Ev X A env σ e (QExp Q)) (hi : interactive env = false) (hs : swapsWith e none pos.line env = pure false) : Ex X A env σ (.Expr e pos) Q := fun s b S => by
 refine wpAny_Expr (wpAny_mono (h s b S) ?_ (fun _ _ x => x)) hi hs
 rintro v s₁ ⟨d, σ₁, b₁, E₁, S₁, r₁, rfl, h₁⟩
 cases r₁
 exact ⟨.next, σ₁, b₁, E₁, S₁, trivial, h₁⟩
inductive PoA (X : Cx) (env : Env) (σ : Sg) (s : Shared) (b : Heap) (R : Sg → Prop) (s' : Shared) : Prop
 | mk (σ' : Sg) (b' : Heap) (E : Evo X env σ σ' s b s' b') (S : St X env σ' b' s') (p : R σ')
noncomputable def Asg (X : Cx) (A : Around) (env : Env) (σ : Sg) (target : Expr) (d : D) (R : Sg → Prop) : Prop :=
 ∀ s b v, St X env σ b s → Rp X b v d → wpAny X.M A (assign target env v) (fun _ s' => PoA X env σ s b R s') Never s
theorem asg_name {x : Str} {pos : Pos} {d : D} {R : Sg → Prop} (hk : isLoc env x = true) (h : R ⟨(x, d) :: σ.ρ, σ.ω⟩) : Asg X A env σ (.Name x pos) d R := fun s b v S r =>
 wpAny_assign_Name (store_var S r hk fun s' S' E' => ⟨_, b, E', S', h⟩)
theorem isTuple_of {h : Heap} {a : Addr} {vs : Array Value} {n : Nat} (e : h.get? a = some (seqObj "tuple" vs n)) : h.IsTuple a vs := ⟨_, e, rfl, ⟨n, rfl⟩⟩
theorem asg_tup2 {x y : Str} {k : Nat} {pos p₁ p₂ : Pos} {d₁ d₂ : D} {R : Sg → Prop} (hh : A.handled = none) (hx : isLoc env x = true) (hy : isLoc env y = true)
  (h : R ⟨(y, d₂) :: (x, d₁) :: σ.ρ, σ.ω⟩) : Asg X A env σ (.Tuple [.Name x p₁, .Name y p₂] k pos) (.tup [d₁, d₂]) R := fun s b v S r => by
 obtain ⟨_, _, _, rfl, g, ra⟩ := r.i_tup
 rename_i a vs n
 obtain ⟨v₁, v₂, hvs, r₁, r₂⟩ : ∃ v₁ v₂, vs.toList = [v₁, v₂] ∧ Rp X b v₁ d₁ ∧ Rp X b v₂ d₂ := by
  generalize vs.toList = l at ra
  obtain ⟨_, _, rfl, r₁, q⟩ := ra.i_cons
  ·cases q with
   | cons r₂ q => cases q; exact ⟨_, _, rfl, r₁, r₂⟩
 have hsz : vs.size = 2 := by rw [← Array.length_toList, hvs]; rfl
 refine wpAny_assign_Tuple hh (isTuple_of (S.hp.le _ _ g)) (by rw [hsz]; rfl) rfl (fun h' he => ?_)
 have hle : Le s.heap h' := fun a o e => he a o (fun z => by rw [z] at e; exact absurd (Heap.lt_size e) (Nat.lt_irrefl _)) e
 obtain ⟨S₁, E₁⟩ := S.extend (h' := h') (b' := b) (tk := s.toks) hle (Le.refl _) (S.hp.le.trans hle) (fun a o e => .inl ⟨o, e⟩)
 rw [hvs]
 refine wpAny_bind (wpAny_holding (wpAny_assign_Name (store_var S₁ r₁ hx fun s₂ S₂ E₂ => ?_)))
 refine wpAny_bind (wpAny_holding (wpAny_assign_Name (store_var S₂ r₂ hy fun s₃ S₃ E₃ => ?_)))
 exact wpAny_pure ⟨_, b, (E₁.trans E₂).trans E₃, S₃, h⟩
structure Apart (X : Cx) (own : List Addr) (env : Env) (ω : Om) (b : Heap) : Prop where
 w : ∀ a ∈ own, a ∉ ω.map (·.1)
 b : ∀ a ∈ own, b.get? a = none
 l : ∀ a ∈ own, a ≠ env.locals
 c : ∀ a ∈ own, ∀ x, env.cells.lookup x ≠ some a
 f : ∀ a ∈ own, NotFr X a
theorem St.other {s : Shared} {b : Heap} (S : St X env σ b s) {own : List Addr} (ap : Apart X own env σ.ω b) {h' b' : Heap} {tk : Nat} (hk : ∀ a o, a ∉ own → s.heap.get? a = some o → h'.get? a = some o)
  (hbb : Le b b') (hin : Le b' h') (hnew : ∀ a o, b'.get? a = some o → (∃ o', b.get? a = some o') ∨ s.heap.get? a = none) : St X env σ b' { s with heap := h', toks := tk } := by
 have hnone : ∀ a o, b.get? a = none → s.heap.get? a = some o → b'.get? a = none := fun a o e l => by
  cases q : b'.get? a with
  | none => rfl
  | some o =>
   rcases hnew a o q with ⟨o', z⟩ | z
   ·rw [e] at z; exact nso z
   ·rw [l] at z; exact sno z
 obtain ⟨oL, hoL⟩ : ∃ o, s.heap.get? env.locals = some o := by obtain ⟨m, ⟨o, _, _, h, _⟩, _⟩ := S.fm.ns; exact ⟨o, h⟩
 refine ⟨S.ok, ⟨hin, fun p hp => (S.hp.cell p hp).mono hbb (fun o e => hk _ _ (fun z => ap.w _ z (List.mem_map_of_mem hp)) e), fun p hp => ?_, S.hp.nod, S.hp.top.mono hbb⟩,
  S.fm.mono hbb (fun o e => hk _ _ (fun z => ap.l _ z rfl) e) (fun y c o q e => hk _ _ (fun z => ap.c _ z y q) e), ⟨hnone _ _ S.fa.lb hoL, S.fa.lw, fun x c e => ?_, S.fa.cw, S.fa.cl, S.fa.inj⟩, fun e he => ?_⟩
 ·obtain ⟨o, ho⟩ := (S.hp.cell p hp).live
  exact hnone _ _ (S.hp.out p hp) ho
 ·obtain ⟨ov, o, ho, _⟩ := S.fm.cx x c e
  exact hnone _ _ (S.fa.cb x c e) ho
 ·refine hide ?_; intro g; obtain ⟨k, L, o, es, ep, h1, h2, h3, h4, h5⟩ := S.fr e he; dsimp only [g]
  exact ⟨k, L, o, es, ep, h1, hnone _ _ h2 h4, h3, hk _ _ (fun z => ap.f L z e he h1) h4, h5⟩
theorem Evo.other {σ₀ : Sg} {s₀ s : Shared} {b₀ b : Heap} (E : Evo X env σ₀ σ s₀ b₀ s b) {own : List Addr} (hf : ∀ a ∈ own, s₀.heap.get? a = none) {h' b' : Heap} {tk : Nat}
  (hk : ∀ a o, a ∉ own → s.heap.get? a = some o → h'.get? a = some o) (hbb : Le b b') (hnew : ∀ a o, b'.get? a = some o → (∃ o', b.get? a = some o') ∨ s.heap.get? a = none) :
  Evo X env σ₀ σ s₀ b₀ { s with heap := h', toks := tk } b' := by
 have no : ∀ a o, s₀.heap.get? a = some o → a ∉ own := fun a o e z => by rw [hf a z] at e; exact nso e
 refine ⟨⟨fun a o f e => keep_trans (s₁ := s₀) (E.ext.keep a o f e) (fun o' e' => kept (hk a o' (no a o e) e')), E.ext.le.trans hbb, fun a o e => ?_, fun a o e => ?_, E.ext.os, E.ext.gens⟩, E.dom⟩
 ·rcases hnew a o e with ⟨o', z⟩ | z
  ·exact E.ext.new a o' z
  ·exact .inr (.inl (E.ext.none z))
 ·obtain ⟨o', z⟩ := E.ext.live a o e
  exact ⟨o', hk a o' (no a o e) z⟩
inductive ItD (own : List Addr) (s : Shared) (r : Option Value) (s₁ : Shared) : Prop
 | mk (e : r = none) (h₁ : Heap) (tk : Nat) (e₁ : s₁ = { s with heap := h₁, toks := tk }) (k : ∀ a o, a ∉ own → s.heap.get? a = some o → h₁.get? a = some o)
inductive ItN (X : Cx) (own : List Addr) (J : Heap → Prop) (s : Shared) (b : Heap) (v : Value) (d : D) (s₂ : Shared) : Prop
 | mk (h₂ b₂ : Heap) (tk : Nat) (e : s₂ = { s with heap := h₂, toks := tk }) (j : J h₂) (k : ∀ a o, a ∉ own → s.heap.get? a = some o → h₂.get? a = some o) (l : Le b b₂) (l2 : Le b₂ h₂) (n : ∀ a o, b₂.get? a = some o → (∃ o', b.get? a = some o') ∨ s.heap.get? a = none) (r : Rp X b₂ v d)
structure Itr (X : Cx) (A : Around) (target : Expr) (it : Value) (b₀ : Heap) (own : List Addr) (J : Nat → Heap → Prop) (seq : Sg → Option (List D)) : Prop where
 frame : ∀ i h h', J i h → (∀ a ∈ own, ∀ o, h.get? a = some o → h'.get? a = some o) → J i h'
 live : ∀ i h, J i h → ∀ a ∈ own, ∃ o, h.get? a = some o
 item : ∀ env σ i ds d s b, St X env σ b s → Le b₀ b → J i s.heap → seq σ = some ds → ds[i]? = some d → Apart X own env σ.ω b →
  wpAny X.M A (pyNext it) (fun r s₁ => ∃ v, r = some v ∧ wpAny X.M A (letOwnedTupleGo target it v) (fun _ s₂ => ItN X own (J (i + 1)) s b v d s₂) Never s₁) Never s
 done : ∀ env σ i ds s b, St X env σ b s → Le b₀ b → J i s.heap → seq σ = some ds → ds[i]? = none → Apart X own env σ.ω b →
  wpAny X.M A (pyNext it) (fun r s₁ => ItD own s r s₁) Never s
 self : ∀ i (s : Shared) (QQ : Value → Shared → Prop) (E : Value → Shared → Prop), J i s.heap → QQ it s → wpAny X.M A (pyIter it) QQ E s
inductive ItbP (X : Cx) (A : Around) (s : Shared) (b : Heap) (target : Expr) (seq : Sg → Option (List D)) (it : Value) (s₁ : Shared) : Prop
 | mk (own : List Addr) (J : Nat → Heap → Prop) (h₁ : Heap) (tk : Nat) (e : s₁ = { s with heap := h₁, toks := tk }) (l : Le s.heap h₁) (n : ∀ a ∈ own, s.heap.get? a = none) (I : Itr X A target it b own J seq) (j : J 0 h₁)
noncomputable def Itb (X : Cx) (A : Around) (env : Env) (σ : Sg) (target : Expr) (d : D) (seq : Sg → Option (List D)) : Prop :=
 ∀ s b v, St X env σ b s → Rp X b v d → wpAny X.M A (pyIter v) (fun it s₁ => ItbP X A s b target seq it s₁) Never s
theorem apart_new {s : Shared} {b : Heap} (S : St X env σ b s) {own : List Addr} (h : ∀ a ∈ own, s.heap.get? a = none) : Apart X own env σ.ω b := by
 refine ⟨fun a ha z => ?_, fun a ha => ?_, fun a ha z => ?_, fun a ha x z => ?_, fun a ha e he z => ?_⟩
 ·obtain ⟨p, hp, rfl⟩ := List.mem_map.mp z
  obtain ⟨o, ho⟩ := (S.hp.cell p hp).live
  rw [h _ ha] at ho; exact nso ho
 ·cases q : b.get? a with
  | none => rfl
  | some o => have := S.hp.le _ _ q; rw [h _ ha] at this; exact nso this
 ·subst z
  obtain ⟨m, ⟨o, _, _, h1, _⟩, _⟩ := S.fm.ns
  rw [h _ ha] at h1; exact nso h1
 ·obtain ⟨ov, o, ho, _⟩ := S.fm.cx x a z
  rw [h _ ha] at ho; exact nso ho
 ·obtain ⟨k, L, o, es, ep, h1, h2, h3, h4, h5⟩ := S.fr e he
  rw [z] at h1; obtain rfl := Option.some.inj h1
  rw [h _ ha] at h4; exact nso h4
theorem Apart.after {own : List Addr} {σ σ' : Sg} {s s' : Shared} {b b' : Heap} (ap : Apart X own env σ.ω b) (E : Evo X env σ σ' s b s' b') (hl : ∀ a ∈ own, ∃ o, s.heap.get? a = some o) : Apart X own env σ'.ω b' := by
 refine ⟨fun a ha z => ?_, fun a ha => ?_, ap.l, ap.c, ap.f⟩
 ·obtain ⟨o, ho⟩ := hl a ha
  rcases E.dom a z with z | z
  ·exact ap.w a ha z
  ·rw [ho] at z; exact sno z
 ·obtain ⟨o, ho⟩ := hl a ha
  cases q : b'.get? a with
  | none => rfl
  | some o' =>
   rcases E.ext.new a o' q with ⟨o'', z⟩ | z | z
   ·rw [ap.b a ha] at z; exact nso z
   ·rw [ho] at z; exact sno z
   ·rcases z with z | ⟨x, _, _, z⟩ | z
    ·exact absurd z (ap.l a ha)
    ·exact absurd z (ap.c a ha x)
    ·exact absurd z (ap.w a ha)
theorem Apart.keep {own : List Addr} {σ σ' : Sg} {s s' : Shared} {b b' : Heap} (ap : Apart X own env σ.ω b) (E : Evo X env σ σ' s b s' b') {a : Addr} (ha : a ∈ own) {o : Obj} (h : s.heap.get? a = some o) : s'.heap.get? a = some o := by
 refine E.ext.keepN (ap.f a ha) (fun f => ?_) h
 rcases f with f | ⟨x, _, _, f⟩ | f
 ·exact ap.l a ha f
 ·exact ap.c a ha x f
 ·exact ap.w a ha f
inductive SrcP (X : Cx) (A : Around) (env : Env) (σ : Sg) (s : Shared) (b : Heap) (target : Expr) (seq : Sg → Option (List D)) (R : Sg → Prop) (it : Value) (s₂ : Shared) : Prop
 | mk (σ₁ : Sg) (b₁ : Heap) (own : List Addr) (J : Nat → Heap → Prop) (E : Evo X env σ σ₁ s b s₂ b₁) (S : St X env σ₁ b₁ s₂) (a : Apart X own env σ₁.ω b₁) (n : ∀ a ∈ own, s.heap.get? a = none) (I : Itr X A target it b₁ own J seq) (j : J 0 s₂.heap) (p : R σ₁)
noncomputable def Src (X : Cx) (A : Around) (env : Env) (σ : Sg) (iter target : Expr) (seq : Sg → Option (List D)) (R : Sg → Prop) : Prop :=
 ∀ s b, St X env σ b s → wpAny X.M A (eval iter env) (fun x s₁ => wpAny X.M A (pyIter x) (fun it s₂ => SrcP X A env σ s b target seq R it s₂) Never s₁) Never s
theorem src_of {iter target : Expr} {seq : Sg → Option (List D)} {R : Sg → Prop} (h : Ev X A env σ iter (fun d σ₁ => Itb X A env σ₁ target d seq ∧ R σ₁)) : Src X A env σ iter target seq R := fun s b S => by
 refine wpAny_mono (h s b S) ?_ (fun _ _ x => x)
 rintro v s₁ ⟨d, σ₁, b₁, E₁, S₁, r₁, hitb, h0⟩
 refine wpAny_mono (hitb s₁ b₁ v S₁ r₁) ?_ (fun _ _ x => x)
 rintro it s₂ ⟨own, J, h₂, tk₂, rfl, hle, hfr, I, hJ⟩
 have ap₁ := apart_new S₁ hfr
 obtain ⟨S₂, E₂⟩ := S₁.extend (h' := h₂) (b' := b₁) (tk := tk₂) hle (Le.refl _) (S₁.hp.le.trans hle) (fun a o e => .inl ⟨o, e⟩)
 exact ⟨σ₁, b₁, own, J, E₁.trans E₂, S₂, ap₁, fun a ha => E₁.ext.none (hfr a ha), I, hJ, h0⟩
inductive ForI (X : Cx) (env : Env) (σ : Sg) (s : Shared) (b b₁ : Heap) (own : List Addr) (J : Nat → Heap → Prop) (Inv : Nat → Sg → Prop) (N n : Nat) (s' : Shared) : Prop
 | mk (i : Nat) (σ' : Sg) (b' : Heap) (e : n = N + 1 - i) (hi : i ≤ N) (h : Inv i σ') (S : St X env σ' b' s') (E : Evo X env σ σ' s b s' b') (l : Le b₁ b') (j : J i s'.heap) (a : Apart X own env σ'.ω b')
theorem ex_for {target iter : Expr} {body orelse : List Stmt} {pos : Pos} (Inv : Nat → Sg → Prop) (seq : Sg → Option (List D)) (N : Nat)
  (hiter : Src X A env σ iter target seq (Inv 0))
  (hN : ∀ i σ, Inv i σ → ∃ ds, seq σ = some ds ∧ ds.length ≤ N)
  (step : ∀ i σ ds d, Inv i σ → seq σ = some ds → ds[i]? = some d → Asg X A env σ target d (fun σ' => Exs X A env σ' body (fun fl σ'' => match fl with | .next | .cont => Inv (i + 1) σ'' | .brk => Q .next σ'' | .ret r => Q (.ret r) σ'')))
  (stop : ∀ i σ ds, Inv i σ → seq σ = some ds → ds[i]? = none → Exs X A env σ orelse Q)
  (hs : ∀ x, foldedSetIterable iter env x = pure x) : Ex X A env σ (.For target iter body orelse pos) Q := fun s b S => by
 refine wpAny_For (wpAny_mono (hiter s b S) ?_ (fun _ _ x => x)) hs
 intro v s₁ hv
 refine wpAny_mono hv ?_ (fun _ _ x => x)
 rintro it s₂ ⟨σ₁, b₁, own, J, E₂, S₂, ap₁, hfr, I, hJ, h0⟩
 let II : Nat → Shared → Prop := ForI X env σ s b b₁ own J Inv N
 refine codeAny_forLoop_any II ?_ (N + 1) ⟨0, σ₁, b₁, rfl, Nat.zero_le _, h0, S₂, E₂, Le.refl _, hJ, ap₁⟩
 rintro n s' ⟨i, σ', b', rfl, hi, hinv, S', E', hl', hJ', ap'⟩
 refine hide ?_; intro g; obtain ⟨ds, hds, hlen⟩ := hN i σ' hinv; dsimp only [g]
 cases hc : ds[i]? with
 | none =>
  refine wpAny_mono (I.done env σ' i ds s' b' S' hl' hJ' hds hc ap') ?_ (fun _ _ x => x.elim)
  rintro r s'' ⟨rfl, h₃, tk₃, rfl, hk₃⟩
  have hin : Le b' h₃ := fun a o e => hk₃ a o (fun z => by rw [ap'.b a z] at e; exact nso e) (S'.hp.le _ _ e)
  have S₃ := S'.other (h' := h₃) (b' := b') (tk := tk₃) ap' hk₃ (Le.refl _) hin (fun a o e => .inl ⟨o, e⟩)
  have E₃ := E'.other (h' := h₃) (b' := b') (tk := tk₃) hfr hk₃ (Le.refl _) (fun a o e => .inl ⟨o, e⟩)
  exact wpAny_mono (stop i σ' ds hinv hds hc _ b' S₃) (fun f s₄ q => q.after E₃) (fun _ _ x => x.elim)
 | some d' =>
  refine wpAny_mono (I.item env σ' i ds d' s' b' S' hl' hJ' hds hc ap') ?_ (fun _ _ x => x.elim)
  rintro r s'' ⟨v', rfl, hw⟩
  refine wpAny_mono hw ?_ (fun _ _ x => x.elim)
  rintro _ s₃ ⟨h₃, b₃, tk₃, rfl, hJ₃, hk₃, hbb, hin, hnew, r₃⟩
  have S₃ := S'.other (h' := h₃) (b' := b₃) (tk := tk₃) ap' hk₃ hbb hin hnew
  have E₃ := E'.other (h' := h₃) (b' := b₃) (tk := tk₃) hfr hk₃ hbb hnew
  have ap₃b : ∀ a ∈ own, b₃.get? a = none := fun a ha => by
   cases q : b₃.get? a with
   | none => rfl
   | some o =>
    obtain ⟨oo, hoo⟩ := I.live _ _ hJ' a ha
    rcases hnew a o q with ⟨o', z⟩ | z
    ·rw [ap'.b a ha] at z; exact nso z
    ·rw [hoo] at z; exact sno z
  have ap₃ : Apart X own env σ'.ω b₃ := ⟨ap'.w, ap₃b, ap'.l, ap'.c, ap'.f⟩
  refine wpAny_mono (step i σ' ds d' hinv hds hc _ b₃ v' S₃ r₃) ?_ (fun _ _ x => x.elim)
  rintro _ s₄ ⟨σ₄, b₄, E₄, S₄, h₄⟩
  have ap₄ := ap₃.after E₄ (I.live _ _ hJ₃)
  have hJ₄ := I.frame _ _ s₄.heap hJ₃ (fun a ha o e => ap₃.keep E₄ ha e)
  refine wpAny_mono (h₄ s₄ b₄ S₄) ?_ (fun _ _ x => x.elim)
  rintro f s₅ ⟨fl, σ₅, b₅, E₅, S₅, r₅, h₅⟩
  have ap₅ := ap₄.after E₅ (I.live _ _ hJ₄)
  have hJ₅ := I.frame _ _ s₅.heap hJ₄ (fun a ha o e => ap₄.keep E₅ ha e)
  have hlt : i < N := Nat.lt_of_lt_of_le (by simpa using (List.getElem?_eq_some_iff.mp hc).1) hlen
  have E₃₅ := (E₃.trans E₄).trans E₅
  have go : Inv (i + 1) σ₅ → ∃ m, m < N + 1 - i ∧ II m s₅ := fun hi5 =>
   ⟨N + 1 - (i + 1), by lia, i + 1, σ₅, b₅, rfl, hlt, hi5, S₅, E₃₅, ((hl'.trans hbb).trans E₄.ext.le).trans E₅.ext.le, hJ₅, ap₅⟩
  cases f with
  | next => cases fl with
   | next => exact go h₅
   | _ => exact r₅.elim
  | cont => cases fl with
   | cont => exact go h₅
   | _ => exact r₅.elim
  | brk => cases fl with
   | brk => exact ⟨.next, σ₅, b₅, E₃₅, S₅, trivial, h₅⟩
   | _ => exact r₅.elim
  | ret v => cases fl with
   | ret d => exact ⟨.ret d, σ₅, b₅, E₃₅, S₅, r₅, h₅⟩
   | _ => exact r₅.elim
theorem St.freeze {s : Shared} {b : Heap} (S : St X env σ b s) {a : Addr} {ds : List D} {ω' : Om} {ρ' : List (Str × D)} (ha : (a, C.lst ds) ∈ σ.ω) (hω : ∀ p ∈ ω', p ∈ σ.ω ∧ p.1 ≠ a) (hn : (ω'.map (·.1)).Nodup)
  (hρ : ∀ x d, ρ'.lookup x = some d → σ.ρ.lookup x = some d ∨ (σ.ρ.lookup x = some (.raw (.ref a)) ∧ d = .list ds)) :
  ∃ b', Le b b' ∧ St X env ⟨ρ', ω'⟩ b' s ∧ Evo X env σ ⟨ρ', ω'⟩ s b s b' ∧ Rp X b' (.ref a) (.list ds) := by
 refine hide ?_; intro g; obtain ⟨vs, n, hv, hr⟩ := S.hp.cell _ ha; dsimp only [g]
 have hle : Le b (grow b s.heap (· == a)) := grow_le S.hp.le
 have hg : (grow b s.heap (· == a)).get? a = some (seqObj "list" vs n) := grow_get (by simp) hv
 have hnone : ∀ x, x ≠ a → b.get? x = none → (grow b s.heap (· == a)).get? x = none := fun x hx e => grow_none (by simpa using hx) e
 have hra : Rp X (grow b s.heap (· == a)) (.ref a) (.list ds) := .list hg (hr.mono hle)
 have hmem : ∀ x, x ∈ ω'.map (·.1) → x ∈ σ.ω.map (·.1) := fun x hx => by
  obtain ⟨p, hp, rfl⟩ := List.mem_map.mp hx
  exact List.mem_map_of_mem (hω p hp).1
 have haω : a ∈ σ.ω.map (·.1) := List.mem_map_of_mem (f := (·.1)) ha
 refine ⟨_, hle, ⟨S.ok, ⟨grow_in, fun p hp => (S.hp.cell p (hω p hp).1).mono hle fun o e => e, fun p hp => hnone _ (hω p hp).2 (S.hp.out p (hω p hp).1), hn, S.hp.top.mono hle⟩, ?_, ?_, S.fr.mono (fun x o z l e => hnone x (fun w => z (w ▸ haω)) e) (fun x o l z w => z (hmem x w)) (fun x o es ep _ _ e q => ⟨o, es, ep, e, q⟩)⟩, ?_, hra⟩
 ·refine hide ?_; intro g; obtain ⟨⟨m, hm, hv'⟩, cl, cx⟩ := S.fm; dsimp only [g]
  refine ⟨⟨m, hm, fun x d k e => ?_⟩, fun x d k e => ?_, cx⟩
  ·rcases hρ x d e with e' | ⟨e', rfl⟩
   ·obtain ⟨v, h1, h2⟩ := hv' x d k e'; exact ⟨v, h1, h2.mono hle⟩
   ·obtain ⟨v, h1, h2⟩ := hv' x _ k e'; obtain rfl := h2.i_raw; exact ⟨_, h1, hra⟩
  ·rcases hρ x d e with e' | ⟨e', rfl⟩
   ·obtain ⟨c, v, h1, h2, h3⟩ := cl x d k e'; exact ⟨c, v, h1, h2, h3.mono hle⟩
   ·obtain ⟨c, v, h1, h2, h3⟩ := cl x _ k e'; obtain rfl := h3.i_raw; exact ⟨c, _, h1, h2, hra⟩
 ·refine ⟨hnone _ (fun z => S.fa.lw (z ▸ haω)) S.fa.lb, fun h => S.fa.lw (hmem _ h), fun x c e => hnone _ (fun z => S.fa.cw x c e (z ▸ haω)) (S.fa.cb x c e), fun x c e h => S.fa.cw x c e (hmem _ h), S.fa.cl, S.fa.inj⟩
 ·refine ⟨⟨fun _ _ _ e => kept e, hle, fun x o e => ?_, fun x o e => ⟨o, e⟩, rfl, rfl⟩, fun x h => .inl (hmem x h)⟩
  rcases grow_new e with q | q
  ·exact .inl q
  ·exact .inr (.inr (.inr (.inr (by rw [beq_iff_eq.mp q]; exact haω))))
theorem letGo_plain {M : Model} {E : Value → Shared → Prop} {target : Expr} {I : Addr} {v : Value} {o : Obj} {n : String} {s : Shared} {QQ : Unit → Shared → Prop} (ho : s.heap.get? I = some o) (hc : o.cls = .type n)
  (hn : (["enumerate", "zip", "dict_itemiterator", "dict_reverseitemiterator", "odict_iterator", "itertools.zip_longest", "itertools.pairwise"] : List String).contains n = false) (h : QQ () s) :
  wpAny M A (letOwnedTupleGo target (.ref I) v) QQ E s := by
 unfold letOwnedTupleGo
 cases target <;> first | exact wpAny_pure h | skip
 all_goals
  cases v <;> first | exact wpAny_pure h | skip
  refine wpAny_bind (wpAny_load ho ?_)
  rw [hc]
  cases o.data <;> first | exact wpAny_pure h | skip
  dsimp only
  rw [hn]
  exact wpAny_pure h
theorem isList_of {h : Heap} {a : Addr} {vs : Array Value} {n : Nat} (e : h.get? a = some (seqObj "list" vs n)) : h.IsList a vs := ⟨_, e, rfl, ⟨n, rfl⟩⟩
theorem itr_list {target : Expr} {I a : Addr} {b₀ : Heap} {seq : Sg → Option (List D)} (hh : A.handled = none)
  (hl : ∀ env σ s b ds, St X env σ b s → Le b₀ b → seq σ = some ds → ∃ vs, s.heap.IsList a vs ∧ RpAll X b vs.toList ds) :
  Itr X A target (.ref I) b₀ [I] (fun i h => h.IsListIter I a i) seq where
 frame := fun i h h' j k => j.at fun o e => k I (by simp) o e
 live := fun i h ⟨o, e, _⟩ x hx => by rw [List.mem_singleton.mp hx]; exact ⟨o, e⟩
 item := fun env σ i ds d s b S hb j e g ap => by
  obtain ⟨vs, hl', ra⟩ := hl env σ s b ds S hb e
  obtain ⟨v, hv, r⟩ := ra.getD g
  refine wpAny_pyNext_list_item j hl' (x := v) (by simpa using hv) fun h' j' hs => ⟨v, rfl, ?_⟩
  refine hide ?_; intro g; obtain ⟨o, ho, hc, _⟩ := j'; dsimp only [g]
  refine letGo_plain (s := { s with heap := h' }) ho hc (by decide) ⟨h', b, s.toks, rfl, ⟨o, ho, hc, by assumption⟩, fun x o hx e => hs.extBut x o (fun z => hx (by simp [z])) e, Le.refl _, fun x o e => ?_, fun x o e => .inl ⟨o, e⟩, r⟩
  exact hs.extBut x o (fun z => by have := ap.b I (by simp); rw [← z, e] at this; exact sno this) (S.hp.le _ _ e)
 done := fun env σ i ds s b S hb j e g ap => by
  obtain ⟨vs, hl', ra⟩ := hl env σ s b ds S hb e
  refine wpAny_pyNext_list_end hh j hl' ?_ fun h' he => ⟨rfl, h', s.toks, rfl, fun x o hx e => he x o (fun z => hx (by simp [z])) e⟩
  have := ra.length
  have hg : ds.length ≤ i := by simpa using g
  simp; have : vs.size = ds.length := by rw [← this]; simp
  exact Nat.le_trans (Nat.le_of_eq this) hg
 self := fun i s QQ E j h => wpAny_pyIter_listiter j h
theorem itb_list {target : Expr} {ds : List D} (hh : A.handled = none) : Itb X A env σ target (.list ds) (fun _ => some ds) := fun s b v S r => by
 obtain ⟨_, _, _, rfl, g, ra⟩ := r.i_list
 rename_i a vs n
 refine wpAny_pyIter_list (isList_of (S.hp.le _ _ g)) ⟨[s.heap.objs.size], fun i h => h.IsListIter s.heap.objs.size a i, _, s.toks, rfl, le_push _ _, fun x hx => by rw [List.mem_singleton.mp hx]; exact fresh_none _, ?_, ⟨_, Heap.get?_push_size _ rfl, rfl, rfl⟩⟩
 exact itr_list hh fun env σ s' b' ds' S' hb e => by obtain rfl := Option.some.inj e; exact ⟨vs, isList_of (S'.hp.le _ _ (hb _ _ g)), ra.mono hb⟩
theorem itb_tup {target : Expr} {ds : List D} (hh : A.handled = none) : Itb X A env σ target (.tup ds) (fun _ => some ds) := fun s b v S r => by
 obtain ⟨_, _, _, rfl, g, ra⟩ := r.i_tup
 rename_i a vs n
 refine wpAny_pyIter_tuple (isTuple_of (S.hp.le _ _ g)) ⟨[s.heap.objs.size], fun i h => h.IsTupleIter s.heap.objs.size a i, _, s.toks, rfl, le_push _ _, fun x hx => by rw [List.mem_singleton.mp hx]; exact fresh_none _, ?_, ⟨_, Heap.get?_push_size _ rfl, rfl, rfl⟩⟩
 generalize s.heap.objs.size = I
 exact {
  frame := fun i h h' ⟨o, e, r⟩ k => ⟨o, k I (by simp) o e, r⟩
  live := fun i h ⟨o, e, _⟩ x hx => by rw [List.mem_singleton.mp hx]; exact ⟨o, e⟩
  item := fun env σ i ds' d s b' S hb j e g' ap => by
   obtain rfl := Option.some.inj e
   obtain ⟨v, hv, r⟩ := (ra.mono hb).getD g'
   refine wpAny_pyNext_tuple_item j (isTuple_of (S.hp.le _ _ (hb _ _ g))) (x := v) (by simpa using hv) fun h' j' hs => ⟨v, rfl, ?_⟩
   refine hide ?_; intro g; obtain ⟨o, ho, hc, _⟩ := j'; dsimp only [g]
   refine letGo_plain (s := { s with heap := h' }) ho hc (by decide) ⟨h', b', s.toks, rfl, ⟨o, ho, hc, by assumption⟩, fun x o hx e => hs.extBut x o (fun z => hx (by simp [z])) e, Le.refl _, fun x o e => ?_, fun x o e => .inl ⟨o, e⟩, r⟩
   exact hs.extBut x o (fun z => by have := ap.b I (by simp); rw [← z, e] at this; exact sno this) (S.hp.le _ _ e)
  done := fun env σ i ds' s b' S hb j e g' ap => by
   obtain rfl := Option.some.inj e
   refine wpAny_pyNext_tuple_end hh j (isTuple_of (S.hp.le _ _ (hb _ _ g))) ?_ fun h' he => ⟨rfl, h', s.toks, rfl, fun x o hx e => he x o (fun z => hx (by simp [z])) e⟩
   have := ra.length
   have hg : ds.length ≤ i := by simpa using g'
   simp; have : vs.size = ds.length := by rw [← this]; simp
   exact Nat.le_trans (Nat.le_of_eq this) hg
  self := fun i s QQ E j h => wpAny_pyIter_tupleiter j h }
theorem rngSize (n : Nat) : Builtin.Range.rangeSize 0 (n : Int) 1 = n := by
 unfold Builtin.Range.rangeSize
 simp
 lia
theorem itb_rng {target : Expr} {n : Nat} (hh : A.handled = none) (hn : n < 2 ^ 31) : Itb X A env σ target (.rng n) (fun _ => some ((List.range n).map fun i => .int (i : Nat))) := fun s b v S r => by
 obtain ⟨_, _, _, _, rfl, g⟩ := r.i_rng
 rename_i a t u v
 have hsm : Builtin.Range.small 0 (n : Int) 1 = true := by
  unfold Builtin.Range.small
  rw [rngSize]
  simp [Builtin.Range.rangeFitsLong]
  lia
 refine wpAny_pyIter_range (S.hp.le _ _ g) hsm ⟨[s.heap.objs.size], fun i h => i ≤ n ∧ IsRangeIter h s.heap.objs.size (i : Nat) ((n : Int) - (i : Nat)) 1, _, s.toks, rfl, le_push _ _, fun x hx => by rw [List.mem_singleton.mp hx]; exact fresh_none _, ?_, ⟨Nat.zero_le _, ?_⟩⟩
 ·generalize s.heap.objs.size = I
  exact {
   frame := fun i h h' ⟨l, e⟩ k => ⟨l, k I (by simp) _ e⟩
   live := fun i h ⟨l, e⟩ x hx => by rw [List.mem_singleton.mp hx]; exact ⟨_, e⟩
   item := fun env σ i ds' d s b' S hb j e g' ap => by
    obtain rfl := Option.some.inj e
    have hi : i < n := by
     have := (List.getElem?_eq_some_iff.mp g').1; simpa using this
    have hd : d = .int (i : Nat) := by simp [hi] at g'; exact g'.symm
    subst hd
    refine wpAny_pyNext_range_item j.2 (by lia) fun h' j' hs => ⟨_, rfl, ?_⟩
    have j2 : IsRangeIter h' I ((i + 1 : Nat) : Int) ((n : Int) - ((i + 1 : Nat) : Int)) 1 := by
     have e1 : ((i : Nat) : Int) + 1 = ((i + 1 : Nat) : Int) := by lia
     have e2 : (n : Int) - (i : Nat) - 1 = (n : Int) - ((i + 1 : Nat) : Int) := by lia
     rw [e1, e2] at j'; exact j'
    refine letGo_plain (s := { s with heap := h', toks := s.toks + 1 }) j2 rfl (by decide) ⟨h', b', s.toks + 1, rfl, ⟨hi, j2⟩, fun x o hx e => hs.extBut x o (fun z => hx (by simp [z])) e, Le.refl _, fun x o e => ?_, fun x o e => .inl ⟨o, e⟩, .int ..⟩
    exact hs.extBut x o (fun z => by have := ap.b I (by simp); rw [← z, e] at this; exact sno this) (S.hp.le _ _ e)
   done := fun env σ i ds' s b' S hb j e g' ap => by
    obtain rfl := Option.some.inj e
    have hi : n ≤ i := by simpa using g'
    have : i = n := Nat.le_antisymm j.1 hi
    subst this
    exact wpAny_pyNext_range_end hh j.2 (by lia) fun h' he => ⟨rfl, h', s.toks, rfl, fun x o hx e => he x o (fun z => hx (by simp [z])) e⟩
   self := fun i s QQ E j h => wpAny_pyIter_rangeiter j.2 h }
 ·show (s.heap.push _).get? _ = _
  rw [rngSize]
  simpa [rawInt] using Heap.get?_push_size (h := s.heap) (o := { cls := .type "range_iterator", data := .fields #[rawInt 0, rawInt (n : Int), rawInt 1] }) rfl
theorem itr_dict {target : Expr} {I a : Addr} {b₀ : Heap} {ep : Nat} {seq : Sg → Option (List D)} {n : Nat} (hh : A.handled = none)
  (hl : ∀ env σ s b ds, St X env σ b s → Le b₀ b → seq σ = some ds → ∃ kvs, s.heap.DictAt X.kd a kvs ep ∧ ds = kvs.map (fun p => D.str p.1) ∧ kvs.length = n) :
  Itr X A target (.ref I) b₀ [I] (fun i h => h.IsKeyIter I a i n ep) seq where
 frame := fun i h h' ⟨o, e, r⟩ k => ⟨o, k I (by simp) o e, r⟩
 live := fun i h ⟨o, e, _⟩ x hx => by rw [List.mem_singleton.mp hx]; exact ⟨o, e⟩
 item := fun env σ i ds d s b S hb j e g ap => by
  obtain ⟨kvs, hm, rfl, rfl⟩ := hl env σ s b ds S hb e
  obtain ⟨⟨k, v⟩, hkv, rfl⟩ : ∃ p, kvs[i]? = some p ∧ d = D.str p.1 := by
   rw [List.getElem?_map] at g
   cases q : kvs[i]? with
   | none => rw [q] at g; exact nso g
   | some p => rw [q] at g; obtain rfl := Option.some.inj g; exact ⟨p, rfl, rfl⟩
  refine wpAny_pyNext_dict_item j hm hkv fun key h' hkey j' hs => ⟨key, rfl, ?_⟩
  obtain ⟨o, ho, hc, hd⟩ := j'
  obtain ⟨t, rfl⟩ := Value.isStrOf_shape hkey
  refine letGo_plain (s := { s with heap := h' }) ho hc (by decide) ⟨h', b, s.toks, rfl, ⟨o, ho, hc, hd⟩, fun x o hx e => hs.extBut x o (fun z => hx (by simp [z])) e, Le.refl _, fun x o e => ?_, fun x o e => .inl ⟨o, e⟩, .str ..⟩
  exact hs.extBut x o (fun z => by have := ap.b I (by simp); rw [← z, e] at this; exact sno this) (S.hp.le _ _ e)
 done := fun env σ i ds s b S hb j e g ap => by
  obtain ⟨kvs, hm, rfl, rfl⟩ := hl env σ s b ds S hb e
  refine wpAny_pyNext_dict_end hh j hm (by simpa using g) fun h' he => ⟨rfl, h', s.toks, rfl, fun x o hx e => he x o (fun z => hx (by simp [z])) e⟩
 self := fun i s QQ E j h => wpAny_pyIter_keyiter j h
theorem RpKv.keysD {b : Heap} {kvs : List (Str × Value)} {kds : List (Str × D)} (h : RpKv X b kvs kds) : kds.map (fun p => D.str p.1) = kvs.map (fun p => D.str p.1) := by
 have := congrArg (List.map D.str) h.keys
 rw [List.map_map, List.map_map] at this
 exact this.symm
theorem itb_dct {target : Expr} {kds : List (Str × D)} (hh : A.handled = none) : Itb X A env σ target (.dct kds) (fun _ => some (kds.map fun p => .str p.1)) := fun s b v S r => by
 obtain ⟨_, _, _, rfl, hne, g, rk⟩ := r.i_dct
 rename_i a kvs ep
 refine wpAny_pyIter_dict hne (g.keep S.hp.le) ⟨[s.heap.objs.size], fun i h => h.IsKeyIter s.heap.objs.size a i kvs.length ep, _, s.toks, rfl, le_push _ _, fun x hx => by rw [List.mem_singleton.mp hx]; exact fresh_none _, ?_, ⟨_, Heap.get?_push_size _ rfl, rfl, rfl⟩⟩
 exact itr_dict hh fun env σ s' b' ds' S' hb e => by obtain rfl := Option.some.inj e; exact ⟨kvs, (g.keep hb).keep S'.hp.le, rk.keysD, rfl⟩
noncomputable def pick (ns : List Str) (ρ : List (Str × D)) : List (Str × D) := ns.filterMap fun n => (ρ.lookup n).map fun d => (n, d)
theorem pick_lookup {ns : List Str} {ρ : List (Str × D)} {y : Str} {d : D} (h : (pick ns ρ).lookup y = some d) : ρ.lookup y = some d ∧ y ∈ ns := by
 induction ns with
 | nil => exact nso h
 | cons n r ih =>
  unfold pick at h
  rw [List.filterMap_cons] at h
  cases q : ρ.lookup n with
  | none =>
   rw [q] at h
   have := ih h
   exact ⟨this.1, .tail _ this.2⟩
  | some e =>
   rw [q] at h
   simp only [Option.map_some, List.lookup_cons] at h
   cases z : (y == n) with
   | true => rw [z] at h; obtain rfl := Option.some.inj h; rw [beq_iff_eq.mp z]; exact ⟨q, .head _⟩
   | false => rw [z] at h; have := ih h; exact ⟨this.1, .tail _ this.2⟩
noncomputable def freesOf (scope : Scope) : List Str := (scope.names.filter fun p => p.2 == .free).map (·.1)
structure CompOk (scope : Scope) (env : Env) : Prop where
 kind : scope.kind = .function
 noCell : ∀ y ∈ scope.names, y.2 ≠ .cell
 loc : ∀ y ∈ scope.names, y.2 = .local → scope.names.lookup y.1 = some .local
 free : ∀ y ∈ scope.names, y.2 = .free → scope.names.lookup y.1 = some .free ∧ (env.kindOf y.1 = some .cell ∨ env.kindOf y.1 = some .free)
noncomputable def compOk (scope : Scope) (env : Env) : Bool :=
 scope.kind == .function && scope.names.all fun y => y.2 != .cell && (y.2 != .local || scope.names.lookup y.1 == some .local) &&
  (y.2 != .free || (scope.names.lookup y.1 == some .free && (env.kindOf y.1 == some .cell || env.kindOf y.1 == some .free)))
theorem compOk_of {scope : Scope} {env : Env} (h : compOk scope env = true) : CompOk scope env := by
 unfold compOk at h
 simp only [Bool.and_eq_true, List.all_eq_true, Bool.or_eq_true, bne_iff_ne, beq_iff_eq, ne_eq] at h
 obtain ⟨h1, h2⟩ := h
 refine ⟨h1, fun y hy => (h2 y hy).1.1, fun y hy e => ?_, fun y hy e => ?_⟩
 ·rcases (h2 y hy).1.2 with q | q
  ·exact absurd e q
  ·exact q
 ·rcases (h2 y hy).2 with q | q
  ·exact absurd e q
  ·exact q
noncomputable def clo (cells : List (Str × Addr)) : List (Str × NameKind) → List (Str × Addr) → List (Str × Addr)
 | [], acc => acc
 | (n, k) :: r, acc => if k == .free then clo cells r ((n, (cells.lookup n).getD 0) :: acc) else clo cells r acc
theorem clo_lookup {cells : List (Str × Addr)} {y : Str} {c : Addr} (names : List (Str × NameKind)) : ∀ (acc : List (Str × Addr)), (∀ p ∈ names, p.2 = .free → ∃ c, cells.lookup p.1 = some c) → (clo cells names acc).lookup y = some c →
  cells.lookup y = some c ∨ acc.lookup y = some c := by
 induction names with
 | nil => intro acc _ h; exact .inr h
 | cons p0 r ih =>
  obtain ⟨n, k⟩ := p0; intro acc hf h
  unfold clo at h
  split at h
  ·rename_i hk
   rcases ih _ (fun p hp => hf p (.tail _ hp)) h with q | q
   ·exact .inl q
   ·rw [List.lookup_cons] at q
    cases z : (y == n) with
    | true =>
     rw [z] at q
     obtain ⟨c', e⟩ := hf (n, k) (.head _) (beq_iff_eq.mp hk)
     dsimp only at e q
     rw [e] at q; obtain rfl := Option.some.inj q
     rw [beq_iff_eq.mp z]; exact .inl e
    | false => rw [z] at q; exact .inr q
  ·exact ih acc (fun p hp => hf p (.tail _ hp)) h
theorem clo_has {cells : List (Str × Addr)} {y : Str} {c : Addr} (hc : cells.lookup y = some c) (names : List (Str × NameKind)) : ∀ (acc : List (Str × Addr)), ((y, NameKind.free) ∈ names ∨ acc.lookup y = some c) → (clo cells names acc).lookup y = some c := by
 induction names with
 | nil => intro acc h; exact h.elim (fun h => by cases h) id
 | cons p0 r ih =>
  obtain ⟨n, k⟩ := p0; intro acc h
  unfold clo
  split
  ·rename_i hk
   refine ih _ ?_
   by_cases hy : y = n
   ·subst hy; right; simp [hc]
   ·rcases h with h | h
    ·left
     rcases List.mem_cons.mp h with e | e
     ·cases e; exact absurd rfl hy
     ·exact e
    ·right
     have : (y == n) = false := by simpa using hy
     rw [List.lookup_cons, this]; exact h
  ·rename_i hk
   refine ih _ ?_
   rcases h with h | h
   ·left
    rcases List.mem_cons.mp h with e | e
    ·cases e; exact absurd rfl hk
    ·exact e
   ·exact .inr h
theorem closureFor_eq {scope : Scope} (hf : ∀ p ∈ scope.names, p.2 = .free → ∃ c, env.cells.lookup p.1 = some c) : closureFor scope env = pure (clo env.cells scope.names []) := by
 have key : ∀ (names : List (Str × NameKind)) (acc : List (Str × Addr)), (∀ p ∈ names, p.2 = .free → ∃ c, env.cells.lookup p.1 = some c) →
   forIn names acc (fun x r => if (x.2 == NameKind.free) = true then (cellOf env x.1) >>= fun c => pure (ForInStep.yield ((x.1, c) :: r)) else pure (ForInStep.yield r)) = (pure (clo env.cells names acc) : Sem _) := by
  intro names
  induction names with
  | nil => intro acc _; rfl
  | cons p r ih =>
   intro acc hf
   obtain ⟨n, k⟩ := p
   rw [List.forIn_cons]
   unfold clo
   by_cases hk : (k == NameKind.free) = true
   ·simp only [hk, if_true]
    obtain ⟨c, e⟩ := hf (n, k) (.head _) (beq_iff_eq.mp hk)
    have e2 : cellOf env n = pure c := by unfold cellOf; rw [e]
    rw [e2]
    have e' : env.cells.lookup n = some c := e
    rw [e']
    exact ih _ fun p hp => hf p (.tail _ hp)
   ·simp only [hk, if_false]
    exact ih _ fun p hp => hf p (.tail _ hp)
 have h2 : closureFor scope env = ((forIn scope.names ([] : List (Str × Addr)) (fun x r => if (x.2 == NameKind.free) = true then (cellOf env x.1) >>= fun c => pure (ForInStep.yield ((x.1, c) :: r)) else pure (ForInStep.yield r))) >>= fun s => pure s) := rfl
 rw [h2, key scope.names [] hf]
 rfl
noncomputable def TsB (X : Cx) (A : Around) (env : Env) (σ : Sg) (ifs : List Expr) (PB : Bool → Sg → Prop) : Prop :=
 TrB X A env σ (forIn ifs true fun c r => if r = true then do let ok ← isTrue c env (eval c env); pure (ForInStep.yield ok) else pure (ForInStep.yield r)) PB
theorem ts_nil {PB : Bool → Sg → Prop} (p : PB true σ) : TsB X A env σ [] PB := fun s b S => wpAny_tests_nil (PoB.here S p)
theorem ts_one {PB : Bool → Sg → Prop} {c : Expr} (h : Te X A env σ c PB) : TsB X A env σ [c] PB := fun s b S => wpAny_tests_one (h s b S)
inductive CmpI {α : Type} (mk : α → C) (X : Cx) (ce : Env) (own : List Addr) (J : Nat → Heap → Prop) (Inv : Nat → α → Om → Prop) (ρ : List (Str × D)) (acc : Addr) (c₀ : C) (ω₁ : Om) (s₀ : Shared) (b₁ : Heap) (N n : Nat) (s' : Shared) : Prop
 | mk (i : Nat) (out : α) (ω' : Om) (b' : Heap) (e : n = N + 1 - i) (hi : i ≤ N) (h : Inv i out ω') (S : St X ce ⟨ρ, (acc, mk out) :: ω'⟩ b' s') (E : Evo X ce ⟨ρ, (acc, c₀) :: ω₁⟩ ⟨ρ, (acc, mk out) :: ω'⟩ s₀ b₁ s' b') (j : J i s'.heap) (a : Apart X own ce ((acc, mk out) :: ω') b')
theorem relabel_kind {scope : Scope} (ok : CompOk scope env) (hk : env.scope.kind = .function) {cl : List (Str × Addr)} {C : Addr} {y : Str} :
  (scope.names.lookup y = some .free → (compEnvC scope cl C env).kindOf y = some .cell ∨ (compEnvC scope cl C env).kindOf y = some .free) ∧
  ((compEnvC scope cl C env).kindOf y = some .cell ∨ (compEnvC scope cl C env).kindOf y = some .free → scope.names.lookup y = some .free) := by
 have gen : ∀ names : List (Str × NameKind), (∀ z ∈ names, z.2 ≠ .cell) →
   (names.lookup y = some .free → (names.map fun (n, k) => if (k == NameKind.free && env.scope.kind == .function && env.kindOf n == some .cell) then (n, NameKind.cell) else (n, k)).lookup y = some .cell ∨ (names.map fun (n, k) => if (k == NameKind.free && env.scope.kind == .function && env.kindOf n == some .cell) then (n, NameKind.cell) else (n, k)).lookup y = some .free) ∧
   ((names.map fun (n, k) => if (k == NameKind.free && env.scope.kind == .function && env.kindOf n == some .cell) then (n, NameKind.cell) else (n, k)).lookup y = some .cell ∨ (names.map fun (n, k) => if (k == NameKind.free && env.scope.kind == .function && env.kindOf n == some .cell) then (n, NameKind.cell) else (n, k)).lookup y = some .free → names.lookup y = some .free) := by
  intro names
  induction names with
  | nil => intro _; exact ⟨(fun h => by exact nso h), (fun h => by rcases h with h | h <;> cases h)⟩
  | cons p r ih =>
   intro hc
   obtain ⟨n, k⟩ := p
   have ih' := ih fun z hz => hc z (.tail _ hz)
   have hck : k ≠ .cell := hc (n, k) (.head _)
   simp only [List.map_cons]
   by_cases hcond : (k == NameKind.free && env.scope.kind == .function && env.kindOf n == some .cell) = true
   ·simp only [hcond, if_true, List.lookup_cons]
    have hkf : k = .free := by simp only [Bool.and_eq_true, beq_iff_eq] at hcond; exact hcond.1.1
    cases z : (y == n) with
    | true => simp [hkf]
    | false => simpa using ih'
   ·simp only [hcond, List.lookup_cons]
    cases z : (y == n) with
    | true => simp [List.lookup_cons, z, hck]
    | false => simpa [List.lookup_cons, z] using ih'
 exact gen scope.names ok.noCell
theorem mem_frees {scope : Scope} (ok : CompOk scope env) {y : Str} (h : y ∈ freesOf scope) : (y, NameKind.free) ∈ scope.names ∧ scope.names.lookup y = some .free ∧ (env.kindOf y = some .cell ∨ env.kindOf y = some .free) := by
 unfold freesOf at h
 obtain ⟨⟨n, k⟩, hp, rfl⟩ := List.mem_map.mp h
 obtain ⟨h1, h2⟩ := List.mem_filter.mp hp
 have hk : k = .free := beq_iff_eq.mp h2
 subst hk
 exact ⟨h1, ok.free _ h1 rfl⟩
theorem FrOk.less {l : List Env} {ω : Om} {b h : Heap} (x : FrOk (X.at l) ω b h) (hl : ∀ e ∈ X.fr, e ∈ l) : FrOk X ω b h := fun e he => x e (hl e he)
theorem St.leave {l : List Env} {cenv : Env} {ρ ρ' ρ₀ : List (Str × D)} {ω₃ ω' : Om} {b₁ b' : Heap} {s₄ s' : Shared} (hl : ∀ e ∈ X.fr, e ∈ l) (S₄ : St X env ⟨ρ, ω₃⟩ b₁ s₄) (S' : St (X.at l) cenv ⟨ρ', ω'⟩ b' s') (E' : Evo (X.at l) cenv ⟨ρ₀, ω₃⟩ ⟨ρ', ω'⟩ s₄ b₁ s' b')
  (hF : ∀ a, Fx cenv ω₃ a → a ∈ ω₃.map (·.1) ∨ (a ≠ env.locals ∧ ∀ x, env.cells.lookup x ≠ some a)) : St X env ⟨ρ, ω'⟩ b' s' := by
 obtain ⟨oL, hoL⟩ : ∃ o, s₄.heap.get? env.locals = some o := by obtain ⟨m, ⟨o, _, _, h, _⟩, _⟩ := S₄.fm.ns; exact ⟨o, h⟩
 have nL : ¬ Fx cenv ω₃ env.locals := fun f => by
  rcases hF _ f with q | q
  ·exact S₄.fa.lw q
  ·exact q.1 rfl
 have nC : ∀ x c, env.cells.lookup x = some c → ¬ Fx cenv ω₃ c := fun x c e f => by
  rcases hF _ f with q | q
  ·exact S₄.fa.cw x c e q
  ·exact q.2 x e
 have hb : ∀ a o, b₁.get? a = none → s₄.heap.get? a = some o → ¬ Fx cenv ω₃ a → b'.get? a = none := fun a o e1 e2 nf => by
  cases q : b'.get? a with
  | none => rfl
  | some o' =>
   rcases E'.ext.new a o' q with ⟨o'', z⟩ | z | z
   ·rw [e1] at z; exact nso z
   ·rw [e2] at z; exact sno z
   ·exact absurd z nf
 have hd : ∀ a o, a ∉ ω₃.map (·.1) → s₄.heap.get? a = some o → a ∉ ω'.map (·.1) := fun a o h1 h2 h3 => by
  rcases E'.dom a h3 with q | q
  ·exact h1 q
  ·rw [h2] at q; exact sno q
 refine ⟨S₄.ok, S'.hp.at, S₄.fm.monoS E'.ext.le (fun o e => (E'.ext.keep _ _ nL e).imp fun _ z => z.1) (fun y c o e1 e2 => (E'.ext.keep _ _ (nC y c e1) e2).imp fun _ z => z.1), ⟨hb _ _ S₄.fa.lb hoL nL, hd _ _ S₄.fa.lw hoL, fun x c e => ?_, fun x c e => ?_, S₄.fa.cl, S₄.fa.inj⟩, S'.fr.less hl⟩
 ·obtain ⟨ov, o, ho, _⟩ := S₄.fm.cx x c e
  exact hb _ _ (S₄.fa.cb x c e) ho (nC x c e)
 ·obtain ⟨ov, o, ho, _⟩ := S₄.fm.cx x c e
  exact hd _ _ (S₄.fa.cw x c e) ho
theorem Evo.leave {l : List Env} {cenv : Env} {σ₀ : Sg} {ρ ρ' ρ₀ : List (Str × D)} {ω₃ ω' : Om} {b b₁ b' : Heap} {s s₄ s' : Shared} (hl : ∀ a o, s.heap.get? a = some o → NotFr X a → NotFr (X.at l) a) (E₀ : Evo X env σ₀ ⟨ρ, ω₃⟩ s b s₄ b₁) (E' : Evo (X.at l) cenv ⟨ρ₀, ω₃⟩ ⟨ρ', ω'⟩ s₄ b₁ s' b')
  (hF : ∀ a, Fx cenv ω₃ a → a ∈ ω₃.map (·.1) ∨ s.heap.get? a = none) : Evo X env σ₀ ⟨ρ, ω'⟩ s b s' b' := by
 have nf : ∀ a o, ¬ Fx env σ₀.ω a → s.heap.get? a = some o → ¬ Fx cenv ω₃ a := fun a o f e g => by
  rcases hF a g with q | q
  ·rcases E₀.dom a q with z | z
   ·exact f (.inr (.inr z))
   ·rw [e] at z; exact sno z
  ·rw [e] at q; exact sno q
 refine ⟨⟨fun a o f e => keep_trans (s₁ := s) (E₀.ext.keep a o f e) (fun o' e' => (E'.ext.keep a o' (nf a o f e) e').imp fun _ z => ⟨z.1, fun n => z.2 (hl a o e n)⟩), E₀.ext.le.trans E'.ext.le, fun a o e => ?_, fun a o e => ?_, E'.ext.os.trans E₀.ext.os, E'.ext.gens.trans E₀.ext.gens⟩, fun a h => ?_⟩
 ·rcases E'.ext.new a o e with ⟨o', z⟩ | z | z
  ·exact E₀.ext.new a o' z
  ·exact .inr (.inl (E₀.ext.none z))
  ·rcases hF a z with q | q
   ·rcases E₀.dom a q with z | z
    ·exact .inr (.inr (.inr (.inr z)))
    ·exact .inr (.inl z)
   ·exact .inr (.inl q)
 ·obtain ⟨o', z⟩ := E₀.ext.live a o e
  exact E'.ext.live a o' z
 ·rcases E'.dom a h with q | q
  ·exact E₀.dom a q
  ·exact .inr (E₀.ext.none q)
inductive CompSet (X : Cx) (env : Env) (σ : Sg) (s : Shared) (b : Heap) (scope : Scope) (acc : Addr) (c₀ : C) (ω₁ : Om) (b₁ : Heap) (s₃ : Shared) (own : List Addr) (cA : Addr) (h₄ : Heap) (cl : List (Str × Addr)) : Prop
 | mk (hv : Heap) (CNone : s₃.heap.get? cA = none) (CNone₀ : s.heap.get? cA = none) (hle₄ : Le s₃.heap h₄) (hvle : Le hv h₄) (hvn : ∀ a ∈ own, hv.get? a = none)
  (SV : St X env ⟨σ.ρ, (acc, c₀) :: ω₁⟩ b₁ { s₃ with heap := hv, toks := s₃.toks + 0 })
  (EV : Evo X env σ ⟨σ.ρ, (acc, c₀) :: ω₁⟩ s b { s₃ with heap := hv, toks := s₃.toks + 0 } b₁)
  (back : ∀ (ω' : Om) (b' : Heap) (s' : Shared) (ρ' : List (Str × D)), St X (compEnvC scope cl cA env) ⟨ρ', ω'⟩ b' s' → Evo X (compEnvC scope cl cA env) ⟨pick (freesOf scope) σ.ρ, (acc, c₀) :: ω₁⟩ ⟨ρ', ω'⟩ { s₃ with heap := hv, toks := s₃.toks + 0 } b₁ s' b' →
   St X (compEnvC scope cl cA env) ⟨pick (freesOf scope) σ.ρ, ω'⟩ b' s')
  (SC : St X (compEnvC scope cl cA env) ⟨pick (freesOf scope) σ.ρ, (acc, c₀) :: ω₁⟩ b₁ { s₃ with heap := h₄, toks := s₃.toks + 0 })
  (apC : Apart X own (compEnvC scope cl cA env) ((acc, c₀) :: ω₁) b₁)
theorem comp_setup {scope : Scope} {acc : Addr} {c₀ : C} {ω₁ : Om} {b b₁ : Heap} {s s₂ s₃ : Shared} {own : List Addr} {h₄ : Heap} (ok : CompOk scope env) (S : St X env σ b s) (E₂ : Evo X env σ ⟨σ.ρ, ω₁⟩ s b s₂ b₁)
  (S₃' : St X env ⟨σ.ρ, (acc, c₀) :: ω₁⟩ b₁ s₃) (E₃' : Evo X env ⟨σ.ρ, ω₁⟩ ⟨σ.ρ, (acc, c₀) :: ω₁⟩ s₂ b₁ s₃ b₁) (ap₃ : Apart X own env ((acc, c₀) :: ω₁) b₁) (hfr : ∀ a ∈ own, s.heap.get? a = none) (hlive : ∀ a ∈ own, ∃ o, s₃.heap.get? a = some o)
  (hns : h₄.Ns s₃.heap.objs.size fun x => ([] : List (Str × Value)).reverse.lookup x) (hsb : Heap.SameBut s₃.heap.objs.size (s₃.heap.push { cls := .type (if (some env : Option Env).isSome then "dict" else "frame"), data := .dict #[] }) h₄) :
  CompSet X env σ s b scope acc c₀ ω₁ b₁ s₃ own s₃.heap.objs.size h₄ (clo env.cells scope.names []) := by
 generalize hC : s₃.heap.objs.size = cA at hns hsb ⊢
 have CNone : s₃.heap.get? cA = none := hC ▸ fresh_none _
 have hle₄ : Le s₃.heap h₄ := fun a o e => by
  have hne : a ≠ cA := fun z => by rw [z, CNone] at e; exact nso e
  exact (hsb.2 a hne).trans (Heap.get?_push_of_some _ e)
 obtain ⟨S₄, E₄⟩ := S₃'.extend (h' := h₄) (b' := b₁) (tk := s₃.toks + 0) hle₄ (Le.refl _) (S₃'.hp.le.trans hle₄) (fun a o e => .inl ⟨o, e⟩)
 have E₀₄ := (E₂.trans E₃').trans E₄
 generalize hhv : restrict h₄ (fun a => !(own.contains a)) = hv
 have hvk : ∀ a o, a ∉ own → h₄.get? a = some o → hv.get? a = some o := fun a o h e => by
  rw [← hhv, get?_restrict]
  have : own.contains a = false := by simpa using h
  rw [this]; simpa using e
 have hvle : Le hv h₄ := fun a o e => by
  rw [← hhv, get?_restrict] at e
  split at e
  ·exact e
  ·exact nso e
 have hvn : ∀ a ∈ own, hv.get? a = none := fun a h => by
  rw [← hhv, get?_restrict]
  have : own.contains a = true := by simpa using h
  rw [this]; rfl
 have ap₄ : Apart X own env ((acc, c₀) :: ω₁) b₁ := ap₃
 have SV := S₄.other (h' := hv) (b' := b₁) (tk := s₃.toks + 0) ap₄ hvk (Le.refl _) (fun a o e => hvk a o (fun z => by rw [ap₄.b a z] at e; exact nso e) (S₄.hp.le _ _ e)) (fun a o e => .inl ⟨o, e⟩)
 have EV := E₀₄.other (h' := hv) (b' := b₁) (tk := s₃.toks + 0) hfr hvk (Le.refl _) (fun a o e => .inl ⟨o, e⟩)
 have CNone₀ : s.heap.get? cA = none := (E₂.trans E₃').ext.none CNone
 generalize hcl : clo env.cells scope.names [] = cl
 have hfc : ∀ p ∈ scope.names, p.2 = .free → ∃ c, env.cells.lookup p.1 = some c := fun p hp hk => S.ok.cells _ (ok.free p hp hk).2
 have cl1 : ∀ y c, cl.lookup y = some c → env.cells.lookup y = some c := fun y c e => by
  rw [← hcl] at e
  rcases clo_lookup _ _ hfc e with q | q
  ·exact q
  ·exact nso q
 have cl2 : ∀ y c, (y, NameKind.free) ∈ scope.names → env.cells.lookup y = some c → cl.lookup y = some c := fun y c hy e => by
  rw [← hcl]; exact clo_has e _ _ (.inl hy)
 have hck : env.scope.kind = .function := S.ok.kind
 have lk_free : ∀ y, scope.names.lookup y = some .free → (y, NameKind.free) ∈ scope.names := fun y e => by
  have gen : ∀ l : List (Str × NameKind), l.lookup y = some .free → (y, NameKind.free) ∈ l := by
   intro l
   induction l with
   | nil => intro h; exact nso h
   | cons p r ih =>
    intro h
    obtain ⟨n, k⟩ := p
    rw [List.lookup_cons] at h
    cases z : (y == n) with
    | true => rw [z] at h; obtain rfl := Option.some.inj h; rw [beq_iff_eq.mp z]; exact .head _
    | false => rw [z] at h; exact .tail _ (ih h)
  exact gen _ e
 have okC : EnvOk (compEnvC scope cl cA env) := by
  refine ⟨?_, S.ok.glob, S.ok.blt, fun y k => ?_⟩
  ·show (relabel scope env).kind = .function; exact ok.kind
  ·have hf := (relabel_kind ok hck (cl := cl) (C := cA) (y := y)).2 k
   have hm := lk_free y hf
   obtain ⟨c, e⟩ := hfc _ hm rfl
   exact ⟨c, cl2 y c hm e⟩
 have back : ∀ (ω' : Om) (b' : Heap) (s' : Shared) (ρ' : List (Str × D)), St X (compEnvC scope cl cA env) ⟨ρ', ω'⟩ b' s' → Evo X (compEnvC scope cl cA env) ⟨pick (freesOf scope) σ.ρ, (acc, c₀) :: ω₁⟩ ⟨ρ', ω'⟩ { s₃ with heap := hv, toks := s₃.toks + 0 } b₁ s' b' →
   St X (compEnvC scope cl cA env) ⟨pick (freesOf scope) σ.ρ, ω'⟩ b' s' := by
  intro ω' b' s' ρ' S' E'
  refine ⟨S'.ok, S'.hp, ⟨?_, fun y d k e => ?_, S'.fm.cx⟩, S'.fa, S'.fr⟩
  ·obtain ⟨m, hm, _⟩ := S'.fm.ns
   refine ⟨m, hm, fun y d k e => ?_⟩
   obtain ⟨_, hy⟩ := pick_lookup e
   have := (mem_frees ok hy).2.1
   have q := (relabel_kind ok hck (cl := cl) (C := cA) (y := y)).1 this
   rcases q with q | q <;> rw [k] at q <;> cases q
  ·obtain ⟨e', hy⟩ := pick_lookup e
   refine hide ?_; intro g; obtain ⟨hm, _, hk⟩ := mem_frees ok hy; dsimp only [g]
   refine hide ?_; intro g; obtain ⟨c, v, h1, ⟨o, h2, h3⟩, h4⟩ := SV.fm.cl y d hk e'; dsimp only [g]
   have nf : ¬ Fx (compEnvC scope cl cA env) ((acc, c₀) :: ω₁) c := fun f => by
    rcases f with f | f | f
    ·obtain ⟨ov, o', ho', _⟩ := S₃'.fm.cx y c h1
     have f' : c = cA := f
     rw [f', CNone] at ho'; exact nso ho'
    ·obtain ⟨_, _, f, _⟩ := f; exact fet f
    ·exact S₃'.fa.cw y c h1 f
   obtain ⟨sl, h2', _⟩ := E'.ext.keep c o nf h2
   exact ⟨c, v, cl2 y c hm h1, ⟨_, h2', h3⟩, h4.mono E'.ext.le⟩
 have SC : St X (compEnvC scope cl cA env) ⟨pick (freesOf scope) σ.ρ, (acc, c₀) :: ω₁⟩ b₁ { s₃ with heap := h₄, toks := s₃.toks + 0 } := by
  refine ⟨okC, S₄.hp, ⟨⟨_, hns, fun y d k e => ?_⟩, fun y d k e => ?_, fun y c e => S₄.fm.cx y c (cl1 y c e)⟩, ⟨?_, ?_, fun y c e => S₄.fa.cb y c (cl1 y c e), fun y c e => S₄.fa.cw y c (cl1 y c e), fun y c e => ?_, fun y z c e1 e2 => S₄.fa.inj y z c (cl1 y c e1) (cl1 z c e2)⟩, S₄.fr⟩
  ·obtain ⟨_, hy⟩ := pick_lookup e
   have := (mem_frees ok hy).2.1
   have q := (relabel_kind ok hck (cl := cl) (C := cA) (y := y)).1 this
   rcases q with q | q <;> rw [k] at q <;> cases q
  ·obtain ⟨e', hy⟩ := pick_lookup e
   refine hide ?_; intro g; obtain ⟨hm, _, hk⟩ := mem_frees ok hy; dsimp only [g]
   refine hide ?_; intro g; obtain ⟨c, v, h1, h2, h4⟩ := S₄.fm.cl y d hk e'; dsimp only [g]
   exact ⟨c, v, cl2 y c hm h1, h2, h4⟩
  ·show b₁.get? cA = none
   cases q : b₁.get? cA with
   | none => rfl
   | some o => have := S₃'.hp.le _ _ q; rw [CNone] at this; exact nso this
  ·show cA ∉ _
   intro h
   obtain ⟨p, hp, e⟩ := List.mem_map.mp h
   obtain ⟨o, ho⟩ := (S₃'.hp.cell p hp).live
   rw [e, CNone] at ho; exact nso ho
  ·show c ≠ cA
   intro z
   obtain ⟨ov, o', ho', _⟩ := S₃'.fm.cx y c (cl1 y c e)
   rw [z, CNone] at ho'; exact nso ho'
 have apC : Apart X own (compEnvC scope cl cA env) ((acc, c₀) :: ω₁) b₁ := by
  refine ⟨ap₃.w, ap₃.b, fun a ha z => ?_, fun a ha y z => ap₃.c a ha y (cl1 y a z), ap₃.f⟩
  obtain ⟨o, ho⟩ := hlive a ha
  have z' : a = cA := z
  rw [z', CNone] at ho; exact nso ho
 exact ⟨hv, CNone, CNone₀, hle₄, hvle, hvn, SV, EV, back, SC, apC⟩
inductive CompDn (X : Cx) (env : Env) (σ : Sg) (s : Shared) (b : Heap) (acc : Addr) (cO : C) (ω' : Om) (cA : Addr) (b' : Heap) (sF : Shared) : Prop
 | mk (L : St X env ⟨σ.ρ, (acc, cO) :: ω'⟩ b' sF) (F : Evo X env σ ⟨σ.ρ, (acc, cO) :: ω'⟩ s b sF b')
  (AP : ∀ (ω'' : Om) (b₇ : Heap), (cA ∈ ω''.map (·.1) → cA ∈ ((acc, cO) :: ω' : Om).map (·.1)) → (∀ o, b₇.get? cA = some o → (∃ o', b'.get? cA = some o') ∨ sF.heap.get? cA = none ∨ Fx env ((acc, cO) :: ω') cA) → Apart X [cA] env ω'' b₇) (ns : ∃ m, sF.heap.Ns cA m)
theorem comp_done {scope : Scope} {cl : List (Str × Addr)} {acc : Addr} {c₀ cO : C} {ω₁ ω' : Om} {b b₁ b' : Heap} {s s₃ s' : Shared} {own : List Addr} {hv h₅ : Heap} {cA : Addr} {tk₅ : Nat}
  (CNone : s₃.heap.get? cA = none) (CNone₀ : s.heap.get? cA = none) (S₃' : St X env ⟨σ.ρ, (acc, c₀) :: ω₁⟩ b₁ s₃) (ap₃ : Apart X own env ((acc, c₀) :: ω₁) b₁) (hfr : ∀ a ∈ own, s.heap.get? a = none)
  (SV : St X env ⟨σ.ρ, (acc, c₀) :: ω₁⟩ b₁ { s₃ with heap := hv, toks := s₃.toks + 0 }) (EV : Evo X env σ ⟨σ.ρ, (acc, c₀) :: ω₁⟩ s b { s₃ with heap := hv, toks := s₃.toks + 0 } b₁)
  (S' : St X (compEnvC scope cl cA env) ⟨pick (freesOf scope) σ.ρ, (acc, cO) :: ω'⟩ b' s')
  (E' : Evo X (compEnvC scope cl cA env) ⟨pick (freesOf scope) σ.ρ, (acc, c₀) :: ω₁⟩ ⟨pick (freesOf scope) σ.ρ, (acc, cO) :: ω'⟩ { s₃ with heap := hv, toks := s₃.toks + 0 } b₁ s' b')
  (ap' : Apart X own (compEnvC scope cl cA env) ((acc, cO) :: ω') b') (hk₅ : ∀ a o, a ∉ own → s'.heap.get? a = some o → h₅.get? a = some o) :
  CompDn X env σ s b acc cO ω' cA b' { s' with heap := h₅, toks := tk₅ } := by
 have hin : Le b' h₅ := fun a o e => hk₅ a o (fun z => by rw [ap'.b a z] at e; exact nso e) (S'.hp.le _ _ e)
 have S₅ := S'.other (h' := h₅) (b' := b') (tk := tk₅) ap' hk₅ (Le.refl _) hin (fun a o e => .inl ⟨o, e⟩)
 have hF : ∀ a, Fx (compEnvC scope cl cA env) ((acc, c₀) :: ω₁) a → a ∈ ((acc, c₀) :: ω₁ : Om).map (·.1) ∨ a = cA := fun a f => by
  rcases f with f | f | f
  ·exact .inr f
  ·obtain ⟨_, _, f, _⟩ := f; exact fet f
  ·exact .inl f
 have cAL : cA ≠ env.locals := fun z => by
  obtain ⟨m, ⟨o, _, _, h1, _⟩, _⟩ := S₃'.fm.ns
  rw [← z, CNone] at h1; exact nso h1
 have cAC : ∀ y, env.cells.lookup y ≠ some cA := fun y z => by
  obtain ⟨ov, o', ho', _⟩ := S₃'.fm.cx y cA z
  rw [CNone] at ho'; exact nso ho'
 have L₅ := St.leave (fun _ z => z) SV S' E' (fun a f => (hF a f).imp id fun z => by subst z; exact ⟨cAL, cAC⟩)
 have F₅ := Evo.leave (fun _ _ _ z => z) EV E' (fun a f => (hF a f).imp id fun z => by subst z; exact CNone₀)
 have apE : Apart X own env ((acc, cO) :: ω') b' := ⟨ap'.w, ap'.b, ap₃.l, ap₃.c, ap₃.f⟩
 have L₆ := L₅.other (h' := h₅) (b' := b') (tk := tk₅) apE hk₅ (Le.refl _) hin (fun a o e => .inl ⟨o, e⟩)
 have F₆ := F₅.other (h' := h₅) (b' := b') (tk := tk₅) hfr hk₅ (Le.refl _) (fun a o e => .inl ⟨o, e⟩)
 refine ⟨L₆, F₆, fun ω'' b₇ hm hn => ⟨?_, ?_, ?_, ?_, ?_⟩, ?_⟩
 ·intro a ha
  rw [List.mem_singleton.mp ha]
  intro z
  exact S'.fa.lw (hm z)
 ·intro a ha
  rw [List.mem_singleton.mp ha]
  cases q : b₇.get? cA with
  | none => rfl
  | some o =>
   rcases hn o q with ⟨o', z⟩ | z | z
   ·have : b'.get? cA = none := S'.fa.lb
    rw [this] at z; exact nso z
   ·obtain ⟨m, ⟨oo, _, _, h1, _⟩, _⟩ := S₅.fm.ns
    have h1' : h₅.get? cA = some oo := h1
    have z' : h₅.get? cA = none := z
    rw [h1'] at z'; exact sno z'
   ·rcases z with z | z | z
    ·exact absurd z cAL
    ·obtain ⟨y, _, _, z⟩ := z; exact absurd z (cAC y)
    ·exact absurd z S'.fa.lw
 ·intro a ha; rw [List.mem_singleton.mp ha]; exact cAL
 ·intro a ha; rw [List.mem_singleton.mp ha]; exact cAC
 ·intro a ha e he z
  rw [List.mem_singleton.mp ha] at z
  obtain ⟨k, L, o, es, ep, h1, h2, h3, h4, h5⟩ := S₃'.fr e he
  rw [z] at h1; obtain rfl := Option.some.inj h1
  rw [CNone] at h4; exact nso h4
 ·obtain ⟨m, hm, _⟩ := S₅.fm.ns; exact ⟨m, hm⟩
theorem bindL_none {kindOf : Str → Option NameKind} {y : Str} (binds : List (Str × Value)) : ∀ (m : Str → Option Value), y ∉ binds.map (·.1) → bindL kindOf binds m y = m y := by
 induction binds with
 | nil => intro m _; exact rfl
 | cons p0 r ih =>
  obtain ⟨n, v⟩ := p0; intro m h
  simp only [List.map_cons, List.mem_cons, not_or] at h
  unfold bindL
  rw [ih _ h.2]
  split
  ·simp [h.1]
  ·rfl
theorem bindC_none {kindOf : Str → Option NameKind} {y : Str} (binds : List (Str × Value)) : ∀ (m : Str → Option Value), y ∉ binds.map (·.1) → bindC kindOf binds m y = m y := by
 induction binds with
 | nil => intro m _; exact rfl
 | cons p0 r ih =>
  obtain ⟨n, v⟩ := p0; intro m h
  simp only [List.map_cons, List.mem_cons, not_or] at h
  unfold bindC
  rw [ih _ h.2]
  split
  ·rfl
  ·simp [h.1]
theorem bindL_some {kindOf : Str → Option NameKind} {y : Str} {v : Value} (hk : kindOf y = some .local) (binds : List (Str × Value)) : ∀ (m : Str → Option Value), (binds.map (·.1)).Nodup → binds.lookup y = some v → bindL kindOf binds m y = some v := by
 induction binds with
 | nil => intro m _ h; exact nso h
 | cons p0 r ih =>
  obtain ⟨n, w⟩ := p0; intro m hn h
  simp only [List.map_cons, List.nodup_cons] at hn
  unfold bindL
  rw [List.lookup_cons] at h
  cases z : (y == n) with
  | true =>
   rw [z] at h; obtain rfl := Option.some.inj h
   have e := beq_iff_eq.mp z; subst e
   rw [bindL_none r _ hn.1, if_pos hk]; simp
  | false => rw [z] at h; exact ih _ hn.2 h
theorem bindC_some {kindOf : Str → Option NameKind} {y : Str} {v : Value} (hk : kindOf y ≠ some .local) (binds : List (Str × Value)) : ∀ (m : Str → Option Value), (binds.map (·.1)).Nodup → binds.lookup y = some v → bindC kindOf binds m y = some v := by
 induction binds with
 | nil => intro m _ h; exact nso h
 | cons p0 r ih =>
  obtain ⟨n, w⟩ := p0; intro m hn h
  simp only [List.map_cons, List.nodup_cons] at hn
  unfold bindC
  rw [List.lookup_cons] at h
  cases z : (y == n) with
  | true =>
   rw [z] at h; obtain rfl := Option.some.inj h
   have e := beq_iff_eq.mp z; subst e
   rw [bindC_none r _ hn.1, if_neg hk]; simp
  | false => rw [z] at h; exact ih _ hn.2 h
noncomputable def nodupS : List Str → Bool
 | [] => true
 | x :: r => !(r.contains x) && nodupS r
theorem nodup_of {l : List Str} : nodupS l = true → l.Nodup := by
 induction l with
 | nil => intro _; exact List.nodup_nil
 | cons x r ih =>
  intro h
  unfold nodupS at h
  obtain ⟨h1, h2⟩ := Bool.and_eq_true_iff.mp h
  refine List.nodup_cons.mpr ⟨fun hm => ?_, ih h2⟩
  have : r.contains x = true := by simpa using hm
  rw [this] at h1; exact fet h1
structure FnOk (X : Cx) (fa : Addr) (qual : Str) (body : List Stmt) (scope : Scope) (cdv : Value) (fd : FuncData) : Prop where
 look : ∃ oc od osl, X.K.lookup fa = some ⟨oc, od, .func fd, osl⟩
 fbody : fd.body = .stmts body
 fqual : fd.qualname = qual
 fscope : fd.scope = scope
 fglob : fd.globals = mainGlobals
 fblt : fd.builtins = builtinsNs
 fclo : fd.closure = []
 fcode : fd.code = cdv
 code : codeIn X.K cdv qual = true
 co : scope.isCoroutine = false
 gen : scope.isGenerator = false
 kind : scope.kind = .function
 nofree : (scope.names.all fun p => p.2 != .free) = true
theorem lookup_mem_kind {y : Str} {k : NameKind} {l : List (Str × NameKind)} : l.lookup y = some k → (y, k) ∈ l := by
 induction l with
 | nil => intro h; exact nso h
 | cons p0 r ih =>
  obtain ⟨n, k'⟩ := p0; intro h
  rw [List.lookup_cons] at h
  cases z : (y == n) with
  | true => rw [z] at h; obtain rfl := Option.some.inj h; rw [beq_iff_eq.mp z]; exact .head _
  | false => rw [z] at h; exact .tail _ (ih h)
noncomputable abbrev Cx.push (X : Cx) (e : Env) : Cx := X.at (e :: X.fr)
noncomputable def OpC (X : Cx) (A : Around) (env : Env) (σ : Sg) (fa : Addr) (ds : List D) (P : D → Sg → Prop) : Prop :=
 ∀ s b vs, St X env σ b s → RpAll X b vs ds → codeAny X.M A (.call (.ref fa) ⟨vs, []⟩) (fun r s' => match r with | .ok (.ret v) => Po X env σ s b P v s' | .ok _ => False | .error e => Never e s') s
theorem OpC.call {fa : Addr} {ds : List D} (h : OpC X A env σ fa ds P) : OpL X A env σ (fun vs => call (.ref fa) vs) ds P := fun s b vs S rv => wpAny_call (h s b vs S rv)
theorem fn_end {env' : Env} {dbs : List (Str × D)} {s s' : Shared} {b h₁ : Heap} {tk₁ : Nat} {L : Addr} {f : Flow} (S : St X env σ b s) (S₁ : St X env σ b { s with heap := h₁, toks := tk₁ }) (E₁ : Evo X env σ σ s b { s with heap := h₁, toks := tk₁ } b)
  (hl : env'.frame = some L) (LNone : s.heap.get? L = none) (hF : ∀ a, Fx env' σ.ω a → a ∈ σ.ω.map (·.1) ∨ s.heap.get? a = none)
  (hq : PoF (X.push env') env' ⟨dbs, σ.ω⟩ { s with heap := h₁, toks := tk₁ } b (fun fl σ' => match fl with | .ret d => P d ⟨σ.ρ, σ'.ω⟩ | .next => P .none ⟨σ.ρ, σ'.ω⟩ | _ => False) f s') : Po X env σ s b P (match (generalizing := false) f with | .ret v => v | _ => .none) s' := by
 obtain ⟨fl, ⟨ρ', ω'⟩, b', E', S', rf, hp⟩ := hq
 have hnf' : ∀ a o, s.heap.get? a = some o → NotFr X a → NotFr (X.push env') a := fun a o e n e' he => by
  rcases List.mem_cons.mp he with rfl | he
  ·intro z
   have : L = a := Option.some.inj (hl.symm.trans z)
   rw [← this, LNone] at e; exact nso e
  ·exact n e' he
 have nl : ∀ a, s.heap.get? a = none → a ≠ env.locals := fun a z q => by
  obtain ⟨m, ⟨o, _, _, h1, _⟩, _⟩ := S.fm.ns
  rw [← q, z] at h1; exact nso h1
 have nc : ∀ a, s.heap.get? a = none → ∀ x, env.cells.lookup x ≠ some a := fun a z x q => by
  obtain ⟨ov, o, ho, _⟩ := S.fm.cx x a q
  rw [z] at ho; exact nso ho
 have L₅ := St.leave (fun _ z => .tail _ z) S₁ S' E' (fun a f => (hF a f).imp id fun z => ⟨nl a z, nc a z⟩)
 have F₅ := Evo.leave hnf' E₁ E' hF
 cases f with
 | next => cases fl with
  | next => exact ⟨.none, _, b', F₅, L₅, .none, hp⟩
  | _ => exact rf.elim
 | ret v => cases fl with
  | ret d => exact ⟨d, _, b', F₅, L₅, Rp.at (X := X.push env') (l := X.fr) rf, hp⟩
  | _ => exact rf.elim
 | brk => cases fl with
  | brk => exact hp.elim
  | _ => exact rf.elim
 | cont => cases fl with
  | cont => exact hp.elim
  | _ => exact rf.elim
theorem fn_callC {fa : Addr} {qual : Str} {body : List Stmt} {scope : Scope} {cdv : Value} {fd : FuncData} {ds : List D} {dbs : List (Str × D)} (hf : FnOk X fa qual body scope cdv fd) (hroom : A.depth < recursionLimit)
  (hbind : ∀ s b vs, X.Top b → Le b s.heap → RpAll X b vs ds → ∃ binds, BindsTo s fd ⟨vs, []⟩ binds ∧ RpKv X b binds dbs)
  (hnd' : nodupS (dbs.map (·.1)) = true) (hkind : (dbs.all fun y => scope.names.lookup y.1 == some .local || scope.names.lookup y.1 == some .cell) = true)
  (hbody : ∀ L, Exs (X.push (envOfC qual scope L fa cdv)) (A.deeper (envOfC qual scope L fa cdv)) (envOfC qual scope L fa cdv) ⟨dbs, σ.ω⟩ body (fun fl σ' => match fl with | .ret d => P d ⟨σ.ρ, σ'.ω⟩ | .next => P .none ⟨σ.ρ, σ'.ω⟩ | _ => False)) :
  OpC X A env σ fa ds P := fun s b vs S rv => by
 refine hide ?_; intro g; obtain ⟨⟨oc, od, osl, hlook⟩, hfb, rfl, rfl, hfg, hfbl, hfc, rfl, hcode, hco, hgen, hk, hnf⟩ := hf; dsimp only [g]
 have hnd := nodup_of hnd'
 have T := S.hp.top
 have ho : s.heap.get? fa = some ⟨oc, od, .func fd, osl⟩ := S.hp.le _ _ (T.inK _ _ hlook)
 have hcd : s.heap.CodeRec fd.code fd.qualname := codeRec_of (T.inK.keeps S.hp.le) hcode
 refine hide ?_; intro g; obtain ⟨binds, hb, rb⟩ := hbind s b vs T S.hp.le rv; dsimp only [g]
 have hkeys : binds.map (·.1) = dbs.map (·.1) := rb.keys
 have hkb : ∀ x ∈ binds, fd.scope.names.lookup x.1 = some .local ∨ fd.scope.names.lookup x.1 = some .cell := fun x hx => by
  have : x.1 ∈ dbs.map (·.1) := by rw [← hkeys]; exact List.mem_map_of_mem hx
  obtain ⟨p, hp, e⟩ := List.mem_map.mp this
  have := List.all_eq_true.mp hkind p hp
  rw [e] at this
  rcases Bool.or_eq_true_iff.mp this with q | q
  ·exact .inl (by simpa using q)
  ·exact .inr (by simpa using q)
 refine codeAny_call_function hroom ho rfl hco hgen hfb hcd ?_
 refine hb _ _ _ _ ?_
 rw [hfc]
 refine wpAny_newFunctionEnv_cells hk (fun x hx => (hkb x hx).imp id fun q => ⟨q, cellsFrom_some _ _ _ (.inl q)⟩) ?_
 intro cenv hcenv s₁ x₁
 generalize hL : s.heap.objs.size = L at hcenv
 have hcenv' : cenv = envOfC fd.qualname fd.scope L fa fd.code := by
  rw [hcenv, hfg, hfbl]; rfl
 subst hcenv'
 clear hcenv
 obtain ⟨h₁, tk₁, rfl⟩ := x₁.toInCall.same
 have hle : Le s.heap h₁ := x₁.toInCall.keep
 obtain ⟨S₁, E₁⟩ := S.extend (h' := h₁) (b' := b) (tk := tk₁) hle (Le.refl _) (S.hp.le.trans hle) (fun a o e => .inl ⟨o, e⟩)
 have LNone : s.heap.get? L = none := hL ▸ fresh_none _
 have CNone : ∀ x c, (envOfC fd.qualname fd.scope L fa fd.code).cells.lookup x = some c → s.heap.get? c = none := fun x c e => by
  have h1 : L < c := x₁.above x c (PySem.mem_of_lookup e)
  cases q : s.heap.get? c with
  | none => rfl
  | some o =>
   have h2 := Heap.lt_size q
   rw [hL] at h2
   exact absurd (Nat.lt_trans h1 h2) (Nat.lt_irrefl _)
 have okC : EnvOk (envOfC fd.qualname fd.scope L fa fd.code) := by
  refine ⟨hk, rfl, rfl, fun x kx => ?_⟩
  rcases kx with kx | kx
  ·have := cellsFrom_some (x := x) fd.scope.names (L + 1) [] (.inl kx)
   exact Option.isSome_iff_exists.mp this
  ·have hm := lookup_mem_kind kx
   have := List.all_eq_true.mp hnf _ hm
   simp at this
 have fresh_b : ∀ a, s.heap.get? a = none → b.get? a = none := fun a e => by
  cases q : b.get? a with
  | none => rfl
  | some o => have := S.hp.le _ _ q; rw [e] at this; exact nso this
 have fresh_w : ∀ a, s.heap.get? a = none → a ∉ σ.ω.map (·.1) := fun a e h => by
  obtain ⟨p, hp, rfl⟩ := List.mem_map.mp h
  obtain ⟨o, ho⟩ := (S.hp.cell p hp).live
  rw [e] at ho; exact nso ho
 have hnb : (binds.map (·.1)).Nodup := by rw [hkeys]; exact hnd
 have SC : St (X.push (envOfC fd.qualname fd.scope L fa fd.code)) (envOfC fd.qualname fd.scope L fa fd.code) ⟨dbs, σ.ω⟩ b { s with heap := h₁, toks := tk₁ } := by
  refine ⟨okC, S₁.hp.at, ⟨⟨_, x₁.toInCall.ns, fun x d kx e => ?_⟩, fun x d kx e => ?_, fun x c e => ⟨_, x₁.cell x c e⟩⟩, ⟨fresh_b _ LNone, fresh_w _ LNone, fun x c e => fresh_b _ (CNone x c e), fun x c e => fresh_w _ (CNone x c e), fun x c e => ?_, fun x y c e1 e2 => name_of_addr x₁.apart (PySem.mem_of_lookup e1) (PySem.mem_of_lookup e2)⟩, fun e he => ?_⟩
  ·obtain ⟨v, h1, h2⟩ := rb.lookup e
   exact ⟨v, bindL_some kx binds _ hnb h1, h2.at⟩
  ·obtain ⟨v, h1, h2⟩ := rb.lookup e
   obtain ⟨c, hc⟩ := okC.cells x kx
   have hne : (envOfC fd.qualname fd.scope L fa fd.code).kindOf x ≠ some .local := by
    rcases kx with kx | kx <;> rw [kx] <;> simp
   refine ⟨c, v, hc, ?_, h2.at⟩
   have := x₁.cell x c hc
   rw [bindC_some hne binds _ hnb h1] at this
   exact this
  ·exact Nat.ne_of_gt (x₁.above x c (PySem.mem_of_lookup e))
  ·rcases List.mem_cons.mp he with rfl | he
   ·refine hide ?_; intro g; obtain ⟨o, es, ep, h1, h2, _⟩ := x₁.toInCall.ns; dsimp only [g]
    exact ⟨hk, L, o, es, ep, rfl, fresh_b _ LNone, fresh_w _ LNone, h1, h2⟩
   ·exact S₁.fr e he
 refine ⟨(T.tr.nolimit.keeps S.hp.le).keeps hle, codeAny_func (wpAny_mono (hbody L _ b SC) (fun f s' hq => ?_) fun _ _ x => x.elim)⟩
 have hF : ∀ a, Fx (envOfC fd.qualname fd.scope L fa fd.code) σ.ω a → a ∈ σ.ω.map (·.1) ∨ s.heap.get? a = none := fun a f => by
  rcases f with f | ⟨x, _, _, f⟩ | f
  ·exact .inr (f ▸ LNone)
  ·exact .inr (CNone x a f)
  ·exact .inl f
 exact fn_end S S₁ E₁ rfl LNone hF hq
theorem fn_call {fa : Addr} {qual : Str} {body : List Stmt} {scope : Scope} {cdv : Value} {fd : FuncData} {ds : List D} {dbs : List (Str × D)} (hf : FnOk X fa qual body scope cdv fd) (hroom : A.depth < recursionLimit)
  (hbind : ∀ s b vs, X.Top b → Le b s.heap → RpAll X b vs ds → ∃ binds, BindsTo s fd ⟨vs, []⟩ binds ∧ RpKv X b binds dbs)
  (hnd' : nodupS (dbs.map (·.1)) = true) (hkind : (dbs.all fun y => scope.names.lookup y.1 == some .local || scope.names.lookup y.1 == some .cell) = true)
  (hbody : ∀ L, Exs (X.push (envOfC qual scope L fa cdv)) (A.deeper (envOfC qual scope L fa cdv)) (envOfC qual scope L fa cdv) ⟨dbs, σ.ω⟩ body (fun fl σ' => match fl with | .ret d => P d ⟨σ.ρ, σ'.ω⟩ | .next => P .none ⟨σ.ρ, σ'.ω⟩ | _ => False)) :
  OpL X A env σ (fun vs => call (.ref fa) vs) ds P := (fn_callC hf hroom hbind hnd' hkind hbody).call
mutual
noncomputable def D.py : D → PyData
 | .none => .none
 | .bool b => .bool b
 | .int i => .int i
 | .str s => .str s
 | .list xs => .list (D.pyAll xs)
 | .tup xs => .tuple (D.pyAll xs)
 | .dct _ => .none
 | .raw _ => .none
 | .rng _ => .none
 | .obj _ _ => .none
 | .inst _ _ => .none
noncomputable def D.pyAll : List D → List PyData
 | [] => []
 | x :: xs => D.py x :: D.pyAll xs
end
theorem pyAll_eq (xs : List D) : D.pyAll xs = xs.map D.py := by
 induction xs with
 | nil => rfl
 | cons x xs ih => simp [D.pyAll, ih]
noncomputable def okd : Nat → D → Bool
 | _, .none => true
 | _, .bool _ => true
 | _, .int _ => true
 | _, .str s => PyData.strOk s
 | n + 1, .list xs => xs.all (okd n)
 | n + 1, .tup xs => xs.all (okd n)
 | _, _ => false
theorem canLayAll_of {xs : List PyData} (h : ∀ x ∈ xs, x.canLay0 = true) : PyData.canLayAll0 xs = true := by
 induction xs with
 | nil => simp [PyData.canLayAll0]
 | cons x xs ih => simp [PyData.canLayAll0, h x (.head _), ih fun y hy => h y (.tail _ hy)]
theorem depthAll_le {xs : List PyData} {n : Nat} (h : ∀ x ∈ xs, x.depth ≤ n) : PyData.depthAll xs ≤ n := by
 induction xs with
 | nil => simp [PyData.depthAll]
 | cons x xs ih =>
  have h1 := h x (.head _)
  have h2 := ih fun y hy => h y (.tail _ hy)
  simp only [PyData.depthAll]; lia
theorem okd_lay (n : Nat) : ∀ (d : D), okd n d = true → d.py.canLay0 = true ∧ d.py.depth ≤ n := by
 induction n with
 | zero =>
  intro d h
  cases d with
  | none => exact ⟨rfl, Nat.le_refl 0⟩
  | bool _ => exact ⟨rfl, Nat.le_refl 0⟩
  | int _ => exact ⟨rfl, Nat.le_refl 0⟩
  | str s => exact ⟨h, Nat.le_refl 0⟩
  | _ => exact fet h
 | succ n ih =>
  intro d h
  have go : ∀ xs : List D, xs.all (okd n) = true → PyData.canLayAll0 (D.pyAll xs) = true ∧ PyData.depthAll (D.pyAll xs) ≤ n := fun xs h' => by
   rw [pyAll_eq]
   refine ⟨canLayAll_of fun y hy => ?_, depthAll_le fun y hy => ?_⟩
   ·obtain ⟨z, hz, rfl⟩ := List.mem_map.mp hy; exact (ih z (List.all_eq_true.mp h' z hz)).1
   ·obtain ⟨z, hz, rfl⟩ := List.mem_map.mp hy; exact (ih z (List.all_eq_true.mp h' z hz)).2
  cases d with
  | none => exact ⟨rfl, Nat.zero_le _⟩
  | bool _ => exact ⟨rfl, Nat.zero_le _⟩
  | int _ => exact ⟨rfl, Nat.zero_le _⟩
  | str s => exact ⟨h, Nat.zero_le _⟩
  | list xs => exact ⟨(go xs h).1, Nat.succ_le_succ (go xs h).2⟩
  | tup xs => exact ⟨(go xs h).1, Nat.succ_le_succ (go xs h).2⟩
  | _ => exact fet h
theorem readsAll_of {b : Heap} {n : Nat} (ih : ∀ v d, Rp X b v d → okd n d = true → ∃ as, Reads b v d.py as) {vs : List Value} {ds : List D} (q : RpAll X b vs ds) : (∀ d ∈ ds, okd n d = true) → ∃ as, ReadsAll b vs (ds.map D.py) as := by
 induction q using RpAll.ind with
 | nil => exact fun _ => ⟨[], .nil⟩
 | cons r _ iq =>
  intro h
  obtain ⟨as, h1⟩ := ih _ _ r (h _ (.head _))
  obtain ⟨bs, h2⟩ := iq fun d hd => h d (.tail _ hd)
  exact ⟨_, .cons h1 h2⟩
theorem reads_of {b : Heap} (n : Nat) : ∀ (v : Value) (d : D), Rp X b v d → okd n d = true → ∃ as, Reads b v d.py as := by
 induction n with
 | zero =>
  intro v d r
  exact @Rp.casesOn X b (fun v d _ => okd 0 d = true → ∃ as, Reads b v d.py as) v d r (fun _ => ⟨_, .none⟩) (fun x _ => ⟨_, .bool x⟩) (fun i t _ => ⟨_, .int i t⟩) (fun x t _ => ⟨_, .str x t⟩) (fun _ _ h => fet h) (fun _ _ h => fet h) (fun _ _ _ h => fet h) (fun _ h => fet h) (fun _ h => fet h) (fun _ h => fet h) (fun _ _ _ _ h => fet h)
 | succ n ih =>
  intro v d r
  exact @Rp.casesOn X b (fun v d _ => okd (n + 1) d = true → ∃ as, Reads b v d.py as) v d r (fun _ => ⟨_, .none⟩) (fun x _ => ⟨_, .bool x⟩) (fun i t _ => ⟨_, .int i t⟩) (fun x t _ => ⟨_, .str x t⟩)
   (fun g ra h => by
    obtain ⟨as, h1⟩ := readsAll_of ih ra (List.all_eq_true.mp h)
    exact ⟨_, pyAll_eq _ ▸ Reads.list g rfl rfl h1⟩)
   (fun g ra h => by
    obtain ⟨as, h1⟩ := readsAll_of ih ra (List.all_eq_true.mp h)
    exact ⟨_, pyAll_eq _ ▸ Reads.tuple g rfl rfl h1⟩)
   (fun _ _ _ h => fet h) (fun _ h => fet h) (fun _ h => fet h) (fun _ h => fet h) (fun _ _ _ _ h => fet h)
theorem Le.reads {b h : Heap} (x : Le b h) {v : Value} {d : PyData} {as : List Addr} (r : Reads b v d as) : Reads h v d as := Reads.keeps x r
noncomputable def deq (x y : D) : Bool := PyData.eqv x.py y.py
structure ARoom (k : Nat) (A : Around) : Prop where
 hd : A.handled = none
 units : A.units + 200 + 10 * k < cLine
 depth : A.depth + 50 + 10 * k < recursionLimit
 gd : A.guards = some []
theorem ARoom.made {k : Nat} {A' : Around} (R : ARoom (k + 1) A) (h1 : A'.handled = A.handled) (h2 : A'.units ≤ A.units + 2) (h3 : A'.depth ≤ A.depth + 2) (h4 : A'.guards = A.guards) : ARoom k A' :=
 ⟨h1.trans R.hd, by have := R.units; lia, by have := R.depth; lia, h4.trans R.gd⟩
theorem ARoom.deeper {k : Nat} {e : Env} (R : ARoom (k + 1) A) : ARoom k (A.deeper e) :=
 ⟨R.hd, by have := R.units; show A.units + 3 + 200 + 10 * k < cLine; lia, by have := R.depth; show A.depth + 1 + 50 + 10 * k < recursionLimit; lia, R.gd⟩
theorem ARoom.room {k : Nat} (R : ARoom k A) : A.depth < recursionLimit := by have := R.depth; exact room_1 this
theorem op_eq {n : Nat} {x y : D} {kk : Nat} (R : ARoom kk A) (hx : okd n x = true) (hy : okd n y = true) (hn : n ≤ 20) (p : P (.bool (deq x y)) σ) : Op X A env σ (compareOp .Eq) x y P := fun s b v w S rx ry => by
 obtain ⟨as, h1⟩ := reads_of n v x rx hx
 obtain ⟨bs, h2⟩ := reads_of n w y ry hy
 obtain ⟨l1, l2⟩ := okd_lay n x hx
 obtain ⟨m1, m2⟩ := okd_lay n y hy
 exact SeqAt.compareEq_reads (S.hp.le.reads h1) (S.hp.le.reads h2) l1 m1 (by have := R.units; lia) (Po.here S (.bool _) p)
theorem op_ne {n : Nat} {x y : D} {kk : Nat} (R : ARoom kk A) (hx : okd n x = true) (hy : okd n y = true) (hn : n ≤ 20) (p : P (.bool (!deq x y)) σ) : Op X A env σ (compareOp .NotEq) x y P := fun s b v w S rx ry => by
 obtain ⟨as, h1⟩ := reads_of n v x rx hx
 obtain ⟨bs, h2⟩ := reads_of n w y ry hy
 obtain ⟨l1, l2⟩ := okd_lay n x hx
 obtain ⟨m1, m2⟩ := okd_lay n y hy
 exact SeqAt.compareNe_reads (S.hp.le.reads h1) (S.hp.le.reads h2) l1 m1 (by have := R.units; lia) (Po.here S (.bool _) p)
theorem lst_reads {b h : Heap} {a : Addr} {vs : Array Value} {k n : Nat} {ds : List D} (hb : Le b h) (g : h.get? a = some (seqObj "list" vs k)) (ra : RpAll X b vs.toList ds) (hd : ds.all (okd n) = true) :
  ∃ as, Reads h (.ref a) (.list (ds.map D.py)) as := by
 obtain ⟨as, h1⟩ := readsAll_of (fun v d => reads_of n v d) ra (List.all_eq_true.mp hd)
 exact ⟨_, .list g rfl rfl (ReadsAll.keeps hb h1)⟩
noncomputable def Lst (X : Cx) (σ : Sg) (d : D) (ds : List D) : Prop := d = .list ds ∨ ∃ a, d = .raw (.ref a) ∧ (a, C.lst ds) ∈ σ.ω
theorem Lst.data {ds : List D} : Lst X σ (.list ds) ds := .inl rfl
theorem Lst.cell {a : Addr} {ds : List D} (h : (a, C.lst ds) ∈ σ.ω) : Lst X σ (.raw (.ref a)) ds := .inr ⟨a, rfl, h⟩
theorem Lst.at {s : Shared} {b : Heap} {d : D} {ds : List D} (l : Lst X σ d ds) (S : St X env σ b s) {v : Value} (r : Rp X b v d) : ∃ a vs k, v = .ref a ∧ s.heap.get? a = some (seqObj "list" vs k) ∧ RpAll X b vs.toList ds := by
 rcases l with rfl | ⟨a, rfl, h⟩
 ·obtain ⟨_, _, _, rfl, g, ra⟩ := r.i_list
  ·exact ⟨_, _, _, rfl, S.hp.le _ _ g, ra⟩
 ·obtain rfl := r.i_raw
  obtain ⟨vs, n, g, ra⟩ := S.hp.cell _ h
  exact ⟨a, vs, n, rfl, g, ra⟩
theorem any_map_py (ds : List D) (x : D) : (ds.map D.py).any (fun y => PyData.eqv y x.py) = ds.any fun y => deq y x := by
 induction ds with
 | nil => rfl
 | cons d r ih => simp only [List.map_cons, List.any_cons, ih]; rfl
theorem op_in {n : Nat} {x d : D} {ds : List D} {kk : Nat} (R : ARoom kk A) (l : Lst X σ d ds) (hx : okd n x = true) (hd : ds.all (okd n) = true) (hn : n ≤ 20) (p : P (.bool (ds.any fun y => deq y x)) σ) : Op X A env σ (compareOp .In) x d P := fun s b v w S rx ry => by
 obtain ⟨a, vs, k, rfl, g, ra⟩ := l.at S ry
 obtain ⟨as, h1⟩ := lst_reads S.hp.le g ra hd
 obtain ⟨bs, h2⟩ := reads_of n v x rx hx
 obtain ⟨l1, l2⟩ := okd_lay n x hx
 refine SeqAt.in_list_reads h1 (S.hp.le.reads h2) (canLayAll_of fun y hy => ?_) l1 (by have := R.units; lia) ?_
 ·obtain ⟨z, hz, rfl⟩ := List.mem_map.mp hy; exact (okd_lay n z (List.all_eq_true.mp hd z hz)).1
 ·rw [any_map_py]; exact Po.here S (.bool _) p
theorem op_notin {n : Nat} {x d : D} {ds : List D} {kk : Nat} (R : ARoom kk A) (l : Lst X σ d ds) (hx : okd n x = true) (hd : ds.all (okd n) = true) (hn : n ≤ 20) (p : P (.bool (!ds.any fun y => deq y x)) σ) : Op X A env σ (compareOp .NotIn) x d P := fun s b v w S rx ry => by
 obtain ⟨a, vs, k, rfl, g, ra⟩ := l.at S ry
 obtain ⟨as, h1⟩ := lst_reads S.hp.le g ra hd
 obtain ⟨bs, h2⟩ := reads_of n v x rx hx
 obtain ⟨l1, l2⟩ := okd_lay n x hx
 refine SeqAt.notIn_list_reads h1 (S.hp.le.reads h2) (canLayAll_of fun y hy => ?_) l1 (by have := R.units; lia) ?_
 ·obtain ⟨z, hz, rfl⟩ := List.mem_map.mp hy; exact (okd_lay n z (List.all_eq_true.mp hd z hz)).1
 ·rw [any_map_py]; exact Po.here S (.bool _) p
theorem PoB.tok {PB : Bool → Sg → Prop} {s : Shared} {b : Heap} {v : Bool} {tk : Nat} (S : St X env σ b s) (p : PB v σ) : PoB X env σ s b PB v { s with toks := tk } := ⟨σ, b, (S.toks tk).2, (S.toks tk).1, p⟩
theorem op_mod {a m : Int} (hm : m ≠ 0) (p : P (.int (a.fmod m)) σ) : Op X A env σ (binaryOp .Mod) (.int a) (.int m) P := fun s b v w S rx ry => by
 obtain ⟨_, rfl⟩ := rx.i_int; obtain ⟨_, rfl⟩ := ry.i_int; exact mod_int' hm (Po.tok S (.int ..) p)
theorem op_add {a m : Int} (p : P (.int (a + m)) σ) : Op X A env σ (binaryOp .Add) (.int a) (.int m) P := fun s b v w S rx ry => by
 obtain ⟨_, rfl⟩ := rx.i_int; obtain ⟨_, rfl⟩ := ry.i_int; exact PySem.P.add_int (Po.tok S (.int ..) p)
theorem op_sub {a m : Int} (p : P (.int (a - m)) σ) : Op X A env σ (binaryOp .Sub) (.int a) (.int m) P := fun s b v w S rx ry => by
 obtain ⟨_, rfl⟩ := rx.i_int; obtain ⟨_, rfl⟩ := ry.i_int; exact PySem.P.sub_int (Po.tok S (.int ..) p)
theorem op_lt {a m : Int} (p : P (.bool (decide (a < m))) σ) : Op X A env σ (compareOp .Lt) (.int a) (.int m) P := fun s b v w S rx ry => by
 obtain ⟨_, rfl⟩ := rx.i_int; obtain ⟨_, rfl⟩ := ry.i_int; exact PySem.P.lt_int (Po.here S (.bool _) p)
theorem op_gt {a m : Int} (p : P (.bool (decide (a > m))) σ) : Op X A env σ (compareOp .Gt) (.int a) (.int m) P := fun s b v w S rx ry => by
 obtain ⟨_, rfl⟩ := rx.i_int; obtain ⟨_, rfl⟩ := ry.i_int; exact PySem.P.gt_int (Po.here S (.bool _) p)
theorem op_ge {a m : Int} (p : P (.bool (decide (a ≥ m))) σ) : Op X A env σ (compareOp .GtE) (.int a) (.int m) P := fun s b v w S rx ry => by
 obtain ⟨_, rfl⟩ := rx.i_int; obtain ⟨_, rfl⟩ := ry.i_int; exact PySem.P.ge_int (Po.here S (.bool _) p)
theorem ob_list {PB : Bool → Sg → Prop} {d : D} {ds : List D} (l : Lst X σ d ds) (hz : ds.length ≤ sizeLine) (p : PB (!ds.isEmpty) σ) : OpB X A env σ truthy d PB := fun s b v S r => by
 obtain ⟨a, vs, k, rfl, g, ra⟩ := l.at S r
 have e : vs.size = ds.length := by rw [← ra.length]; simp
 refine wpAny_truthy_list (isList_of g) (by have : sizeLine = 2 ^ 24 := rfl; lia) ?_
 have : (!vs.isEmpty) = !ds.isEmpty := by
  cases ds with
  | nil =>
   have : vs = #[] := by simpa using e
   subst this; rfl
  | cons d r => 
   have : vs.size ≠ 0 := by rw [e]; simp
   have h2 : vs.isEmpty = false := by simpa using this
   rw [h2]; rfl
 exact PoB.tok S (this ▸ p)
theorem op_addl {x y : D} {xs ys : List D} (l : Lst X σ x xs) (m : Lst X σ y ys) (hz : xs.length + ys.length ≤ sizeLine) (p : P (.list (xs ++ ys)) σ) : Op X A env σ (binaryOp .Add) x y P := fun s b v w S rx ry => by
 obtain ⟨a, vs, k, rfl, g, ra⟩ := l.at S rx
 obtain ⟨c, ws, n, rfl, g', ra'⟩ := m.at S ry
 have e : vs.size = xs.length := by rw [← ra.length]; simp
 have e' : ws.size = ys.length := by rw [← ra'.length]; simp
 refine PySem.P.add_list g g' ?_ (by lia)
 refine hide ?_; intro g; obtain ⟨b₂, l₂, g₂, S₂, E₂⟩ := S.allocD (seqObj "list" (vs ++ ws) 0); dsimp only [g]
 exact ⟨.list (xs ++ ys), σ, b₂, E₂, S₂, .list g₂ (by simpa using (ra.append ra').mono l₂), p⟩
theorem ol_len {d : D} {ds : List D} (l : Lst X σ d ds) (hz : ds.length ≤ sizeLine) (p : P (.int ds.length) σ) : OpL X A env σ (fun vs => call (.builtin "len") vs) [d] P := fun s b vs S r => by
 replace r := r.i_one; obtain ⟨_, rfl, r⟩ := r
 obtain ⟨a, vs, k, rfl, g, ra⟩ := l.at S r
 have e : vs.size = ds.length := by rw [← ra.length]; simp
 refine call_len_list (isList_of g) (by have : sizeLine = 2 ^ 24 := rfl; lia) ?_
 rw [e]
 exact Po.tok S (.int ..) p
theorem op_item {vl sl : Expr} {d x : D} {ds : List D} {k : Int} (l : Lst X σ d ds) (h0 : 0 ≤ k) (hx : ds[k.toNat]? = some x) (hz : ds.length ≤ sizeLine) (p : P x σ)
  (hs : ∀ v u, subscripted sl false v (.int k u) = operate [v, .int k u] (getItem v (.int k u))) : Op X A env σ (subscriptTail vl sl) d (.int k) P := fun s b v w S rx ry => by
 obtain ⟨_, rfl⟩ := ry.i_int
 obtain ⟨a, vs, n, rfl, g, ra⟩ := l.at S rx
 obtain ⟨v, hv, r⟩ := ra.getD hx
 have hlt := (List.getElem?_eq_some_iff.mp hx).1
 refine tail_any (isList_of g).typeIs slot_list_getitem.lookup (wpAny_getItem_list (x := v) (isList_of g) h0 (by have : sizeLine = 2 ^ 24 := rfl; lia) (by simpa using hv) (Po.here S r p)) (hs _ _)
theorem ev_callB {func : Expr} {e : Expr} {rest : List Expr} {pos : Pos} {id : String} (h : Ev X A env σ func (QCall X A env (.builtin id) pos (e :: rest) (fun vs => call (.builtin id) vs) P))
  (he : eval (.Call func (e :: rest) [] pos) env = (do callWith pos (← eval func env) [] (backTo pos (starEach (e :: rest) env)) (backToKw pos (keywordEach [] env))))
  (hst : starEach (e :: rest) env = (false, eval e env) :: starEach rest env) (hpl : (backTo pos (starEach rest env)).any (·.1) = false) : Ev X A env σ (.Call func (e :: rest) [] pos) P := fun s b S => by
 refine Call_ (wpAny_mono (h s b S) ?_ (fun _ _ x => x)) he
 rintro v₁ s₁ ⟨d₁, σ₁, b₁, E₁, S₁, r₁, rfl, h₁⟩
 obtain rfl := r₁.i_raw
 refine PyProof.Rows.callWith_builtin1 (wpAny_mono (h₁ s₁ b₁ S₁) ?_ (fun _ _ x => x)) hst hpl
 rintro vs s₂ ⟨ds, σ₂, b₂, E₂, S₂, r₂, h₂⟩
 exact wpAny_mono (h₂ s₂ b₂ vs S₂ r₂) (fun v s' q => (q.after E₂).after E₁) (fun _ _ x => x)
noncomputable def IsTy (X : Cx) (env : Env) (σ : Sg) (d : D) (T : String) : Prop := ∀ s b v, St X env σ b s → Rp X b v d → s.TypeIs v T ∧ ∀ a, v = .ref a → ∃ ob, s.heap.get? a = some ob ∧ ob.dict = none
theorem isTy_lst {d : D} {ds : List D} (l : Lst X σ d ds) : IsTy X env σ d "list" := fun s b v S r => by
 obtain ⟨a, vs, k, rfl, g, ra⟩ := l.at S r
 exact ⟨(isList_of g).typeIs, fun c e => by cases e; exact ⟨_, g, rfl⟩⟩
inductive QMeth (X : Cx) (A : Around) (env : Env) (T : String) (pos : Pos) (args : List Expr) (f : List Value → Sem Value) (P : D → Sg → Prop) (d : D) (σ₁ : Sg) : Prop
 | mk (t : IsTy X env σ₁ d T) (h : TrL X A env σ₁ (spliced (backTo pos (starEach args env))) (QCons d (QArg X A env f P)))
theorem ev_meth {o e : Expr} {name : Str} {apos pos : Pos} {rest : List Expr} {T id : String}
  (h : Ev X A env σ o (QMeth X A env T pos (e :: rest) (fun vs => call (.builtin id) vs) P))
  (pa : PlainAttrs T) (slot : Slot T name id) (hty : typeOf (.builtin id) = pure (.type "method_descriptor"))
  (hbase : attributeBase o name env (eval o env) = eval o env)
  (hfew : ((backTo pos (starEach (e :: rest) env)).all (fun x => !x.1) && (backToKw pos (keywordEach [] env)).all (fun x => x.1.isSome) && decide ((e :: rest).length + ([] : List Keyword).length + (if ([] : List Keyword).isEmpty then 0 else 1) < 30)) = true)
  (hline : (apos.endLine == pos.line) = true) (hpl : (backTo pos (starEach (e :: rest) env)).any (·.1) = false)
  (hst : starEach (e :: rest) env = (false, eval e env) :: starEach rest env) : Ev X A env σ (.Call (.Attribute o name apos) (e :: rest) [] pos) P := fun s b S => by
 refine wpAny_Call_method hbase hfew hline pa slot hty (wpAny_mono (h s b S) ?_ (fun _ _ x => x))
 rintro v₁ s₁ ⟨d₁, σ₁, b₁, E₁, S₁, r₁, ht, h₁⟩
 obtain ⟨t1, t2⟩ := ht s₁ b₁ v₁ S₁ r₁
 refine ⟨t1, t2, callWith_builtin hpl ?_⟩
 have h₁' := h₁ s₁ b₁ S₁
 rw [hst] at h₁' ⊢
 refine evalArgs_plain (wpAny_mono h₁' ?_ (fun _ _ x => x))
 rintro vs s₂ ⟨ds, σ₂, b₂, E₂, S₂, r₂, h₂⟩
 exact wpAny_mono (h₂ s₂ b₂ (v₁ :: vs) S₂ (.cons (r₁.mono E₂.ext.le) r₂)) (fun v s' q => (q.after E₂).after E₁) (fun _ _ x => x)
theorem ol_append {a : Addr} {x : D} {ds : List D} {ω' : Om} (u : Upd a (.lst ds) (.lst (ds ++ [x])) σ.ω ω') (hz : ds.length ≤ sizeLine) (p : P .none ⟨σ.ρ, ω'⟩) : OpL X A env σ (fun vs => call (.builtin "list.append") vs) [.raw (.ref a), x] P := fun s b vs S r => by
 replace r := r.i_two; obtain ⟨_, _, rfl, r, r'⟩ := r
 obtain rfl := r.i_raw
 obtain ⟨vs, n, g, ra⟩ := S.hp.cell _ u.mem
 have e : vs.size = ds.length := by rw [← ra.length]; simp
 refine wpAny_list_append_plain (hsz := by exact Nat.le_trans (Nat.le_of_eq e) hz) ⟨n, g⟩ fun h₉ hl₉ hs₉ => ?_
 obtain ⟨n₉, g₉⟩ := hl₉
 obtain ⟨S₉, E₉⟩ := S.setCell u hs₉ ⟨_, n₉, g₉, by simpa using ra.append (.cons r' .nil)⟩
 exact ⟨.none, _, b, E₉, S₉, .none, p⟩
theorem ol_pop0 {a : Addr} {x : D} {ds : List D} {ω' : Om} (u : Upd a (.lst (x :: ds)) (.lst ds) σ.ω ω') (hz : ds.length < sizeLine) (p : P x ⟨σ.ρ, ω'⟩) : OpL X A env σ (fun vs => call (.builtin "list.pop") vs) [.raw (.ref a), .int 0] P := fun s b vs S r => by
 replace r := r.i_two; obtain ⟨_, _, rfl, r, r'⟩ := r
 obtain rfl := r.i_raw
 obtain ⟨_, rfl⟩ := r'.i_int
 obtain ⟨vs, n, g, ra⟩ := S.hp.cell _ u.mem
 have e : vs.size = ds.length + 1 := by have := ra.length; simpa using this
 obtain ⟨v, ws, hvs, rv, rws⟩ : ∃ v ws, vs.toList = v :: ws ∧ Rp X b v x ∧ RpAll X b ws ds := by
  generalize vs.toList = l at ra
  obtain ⟨_, _, rfl, r, q⟩ := ra.i_cons
  ·exact ⟨_, _, rfl, r, q⟩
 have hv0 : vs[0]? = some v := by rw [← Array.getElem?_toList, hvs]; rfl
 refine call_meets F.slot_list_pop ⟨_, g, rfl⟩ F.entry_list_pop (F.args_list_pop_2 _ _) (PySem.MeetsSeq.list_pop_at a vs n 0 _ 0 v (by decide) (by rw [e]; unfold seqIndex?; simp) hv0 (by lia)) ⟨g, ?_⟩
 have hws : (vs.eraseIdxIfInBounds 0).toList = ws := by
  simp [Array.eraseIdxIfInBounds, e, hvs]
 obtain ⟨S₉, E₉⟩ := S.setCell (h' := s.heap.update a (Obj.mapSeq fun xs => xs.eraseIdxIfInBounds 0)) u (Heap.SameBut.update ..) ⟨_, _, get?_update_seq g _, by rw [hws]; exact rws⟩
 exact ⟨x, _, b, E₉, S₉, rv, p⟩
end
section
variable {X : Cx} {A : Around} {env : Env} {σ : Sg} {P : D → Sg → Prop} {Q : Fl → Sg → Prop}
theorem ite_t {c : Bool} {p q : Prop} (hc : c = true) (h : p) : if c = true then p else q := by rw [if_pos hc]; exact h
theorem ite_f {c : Bool} {p q : Prop} (hc : c = false) (h : q) : if c = true then p else q := by rw [if_neg (by rw [hc]; simp)]; exact h
theorem ite_b {c : Bool} {p q : Prop} (h1 : c = true → p) (h2 : c = false → q) : if c = true then p else q := by
 cases c
 ·exact ite_f rfl (h2 rfl)
 ·exact ite_t rfl (h1 rfl)
inductive Sub (ρ : List (Str × D)) : List (Str × D) → Prop
 | nil : Sub ρ []
 | cons {x : Str} {d : D} {r : List (Str × D)} : ρ.lookup x = some d → Sub ρ r → Sub ρ ((x, d) :: r)
theorem Sub.look {ρ : List (Str × D)} {ρ' : List (Str × D)} (q : Sub ρ ρ') : ∀ {x : Str} {d : D}, ρ'.lookup x = some d → ρ.lookup x = some d := by
 induction q with
 | nil => intro x d h; exact nso h
 | cons e _ ih =>
  rename_i y _ _ _
  intro x d h
  cases z : (x == y) with
  | true => obtain rfl := Option.some.inj ((lk_hit z).symm.trans h); rw [beq_iff_eq.mp z]; exact e
  | false => exact ih ((lk_miss z).symm.trans h)
theorem St.sub {ρ ρ' : List (Str × D)} {ω : Om} {b : Heap} {s : Shared} (S : St X env ⟨ρ, ω⟩ b s) (h : Sub ρ ρ') : St X env ⟨ρ', ω⟩ b s := by
 obtain ⟨⟨m, hm, hv⟩, cl, cx⟩ := S.fm
 exact ⟨S.ok, S.hp, ⟨⟨m, hm, fun x d k e => hv x d k (h.look e)⟩, fun x d k e => cl x d k (h.look e), cx⟩, S.fa, S.fr⟩
theorem TrF.sub {ρ ρ' : List (Str × D)} {ω : Om} {t : Sem Flow} (h : Sub ρ ρ') (x : TrF X A env ⟨ρ', ω⟩ t Q) : TrF X A env ⟨ρ, ω⟩ t Q := fun s b S =>
 wpAny_mono (x s b (S.sub h)) (fun f s' ⟨fl, σ', b', E, S', r, p⟩ => ⟨fl, σ', b', ⟨E.ext, E.dom⟩, S', r, p⟩) fun _ _ x => x
theorem Asg.sub {ρ ρ' : List (Str × D)} {ω : Om} {target : Expr} {d : D} {R : Sg → Prop} (h : Sub ρ ρ') (x : Asg X A env ⟨ρ', ω⟩ target d R) : Asg X A env ⟨ρ, ω⟩ target d R := fun s b v S r =>
 wpAny_mono (x s b v (S.sub h) r) (fun f s' ⟨σ', b', E, S', p⟩ => ⟨σ', b', ⟨E.ext, E.dom⟩, S', p⟩) fun _ _ x => x
theorem Asg.mono {target : Expr} {d : D} {R R' : Sg → Prop} (x : Asg X A env σ target d R) (h : ∀ σ', R σ' → R' σ') : Asg X A env σ target d R' := fun s b v S r =>
 wpAny_mono (x s b v S r) (fun f s' ⟨σ', b', E, S', p⟩ => ⟨σ', b', E, S', h _ p⟩) fun _ _ x => x
theorem split_at {α : Type} {l : List α} {i : Nat} {x : α} (h : l[i]? = some x) : l = l.take i ++ x :: l.drop (i + 1) := by
 obtain ⟨hl, he⟩ := List.getElem?_eq_some_iff.mp h
 rw [← he, ← List.drop_eq_getElem_cons hl, List.take_append_drop]
theorem take_at {α : Type} {l : List α} {i : Nat} {x : α} (h : l[i]? = some x) : l.take (i + 1) = l.take i ++ [x] := by
 obtain ⟨hl, he⟩ := List.getElem?_eq_some_iff.mp h
 rw [List.take_add_one, h]; rfl
noncomputable def Turn (Q : Fl → Sg → Prop) (ρ : List (Str × D)) (ω : Om) : Fl → Sg → Prop := fun fl σ => match fl with
 | .next | .cont => Sub σ.ρ ρ ∧ σ.ω = ω
 | .brk => Q .next σ
 | .ret r => Q (.ret r) σ
theorem ex_forL {α : Type} {target iter : Expr} {body orelse : List Stmt} {pos : Pos} (l : List α) (f : α → D) (ρI : List α → List (Str × D)) (ωI : List α → Om)
  (hiter : Src X A env σ iter target (fun _ => some (l.map f)) (fun σ₁ => Sub σ₁.ρ (ρI []) ∧ σ₁.ω = ωI []))
  (step : ∀ pre x post, l = pre ++ x :: post → Asg X A env ⟨ρI pre, ωI pre⟩ target (f x) (fun σ' => Exs X A env σ' body (Turn Q (ρI (pre ++ [x])) (ωI (pre ++ [x])))))
  (stop : Exs X A env ⟨ρI l, ωI l⟩ orelse Q)
  (hs : ∀ x, foldedSetIterable iter env x = pure x) : Ex X A env σ (.For target iter body orelse pos) Q := by
 refine ex_for (fun i σ => i ≤ l.length ∧ Sub σ.ρ (ρI (l.take i)) ∧ σ.ω = ωI (l.take i)) (fun _ => some (l.map f)) l.length ?_ ?_ ?_ ?_ hs
 ·refine fun s b S => wpAny_mono (hiter s b S) (fun x s₁ h₁ => wpAny_mono h₁ ?_ fun _ _ x => x) fun _ _ x => x
  rintro it s₂ ⟨σ₁, b₁, own, J, h1, h2, h3, h4, h5, h6, h7⟩
  exact ⟨σ₁, b₁, own, J, h1, h2, h3, h4, h5, h6, Nat.zero_le _, h7.1, h7.2⟩
 ·intro i σ _; exact ⟨_, rfl, by simp⟩
 ·rintro i ⟨ρ, ω⟩ ds d ⟨hi, hsub, hω⟩ e hd
  obtain rfl := Option.some.inj e
  obtain ⟨x, hx, rfl⟩ : ∃ x, l[i]? = some x ∧ d = f x := by
   rw [List.getElem?_map] at hd
   cases q : l[i]? with
   | none => rw [q] at hd; exact nso hd
   | some x => rw [q] at hd; obtain rfl := Option.some.inj hd; exact ⟨x, rfl, rfl⟩
  dsimp only at hω hsub; subst hω
  refine Asg.sub hsub (Asg.mono (step _ x _ (split_at hx)) fun σ' h => TrF.mono h fun fl σ'' h2 => ?_)
  have hlt := (List.getElem?_eq_some_iff.mp hx).1
  rw [← take_at hx] at h2
  cases fl with
  | next => exact ⟨hlt, h2⟩
  | cont => exact ⟨hlt, h2⟩
  | brk => exact h2
  | ret r => exact h2
 ·rintro i ⟨ρ, ω⟩ ds ⟨hi, hsub, hω⟩ e hd
  obtain rfl := Option.some.inj e
  have : i = l.length := Nat.le_antisymm hi (by simpa using hd)
  subst this
  rw [List.take_length] at hsub hω
  dsimp only at hω hsub; subst hω
  exact TrF.sub hsub stop
theorem ev_callT {func : Expr} {e : Expr} {rest : List Expr} {pos : Pos} {T : String} (h : Ev X A env σ func (QCall X A env (.type T) pos (e :: rest) (fun vs => call (.type T) vs) P))
  (he : eval (.Call func (e :: rest) [] pos) env = (do callWith pos (← eval func env) [] (backTo pos (starEach (e :: rest) env)) (backToKw pos (keywordEach [] env))))
  (hst : starEach (e :: rest) env = (false, eval e env) :: starEach rest env) (hpl : (backTo pos (starEach rest env)).any (·.1) = false) : Ev X A env σ (.Call func (e :: rest) [] pos) P := fun s b S => by
 refine Call_ (wpAny_mono (h s b S) ?_ (fun _ _ x => x)) he
 rintro v₁ s₁ ⟨d₁, σ₁, b₁, E₁, S₁, r₁, rfl, h₁⟩
 obtain rfl := r₁.i_raw
 refine PySem.Pv.callWith_type1 (wpAny_mono (h₁ s₁ b₁ S₁) ?_ (fun _ _ x => x)) hst hpl
 rintro vs s₂ ⟨ds, σ₂, b₂, E₂, S₂, r₂, h₂⟩
 exact wpAny_mono (h₂ s₂ b₂ vs S₂ r₂) (fun v s' q => (q.after E₂).after E₁) (fun _ _ x => x)
theorem Po.alloc {s : Shared} {b : Heap} {o : Obj} {d : D} {tk : Nat} (S : St X env σ b s) (hf : o.isFreed = false) (r : ∀ b', Le b b' → b'.get? s.heap.objs.size = some o → Rp X b' (.ref s.heap.objs.size) d) (p : P d σ) :
  Po X env σ s b P (.ref s.heap.objs.size) { s with heap := s.heap.push o, toks := tk } := by
 refine hide ?_; intro g; obtain ⟨b₂, l₂, g₂, S₂, E₂⟩ := S.allocD o hf tk; dsimp only [g]
 exact ⟨d, σ, b₂, E₂, S₂, r b₂ l₂ g₂, p⟩
theorem tr_freeze {t : Sem Value} (h : Tr X A env σ t (fun d σ₁ => ∃ a ds ω', d = .raw (.ref a) ∧ σ₁.ω = (a, .lst ds) :: ω' ∧ P (.list ds) ⟨σ₁.ρ, ω'⟩)) : Tr X A env σ t P := fun s b S => by
 refine wpAny_mono (h s b S) ?_ (fun _ _ x => x)
 rintro v s₁ ⟨d, ⟨ρ₁, ω₁⟩, b₁, E₁, S₁, r₁, a, ds, ω', rfl, hω, p⟩
 dsimp only at hω p; subst hω
 obtain rfl := r₁.i_raw
 have hnd := S₁.hp.nod
 simp only [List.map_cons, List.nodup_cons] at hnd
 refine hide ?_; intro g; obtain ⟨b₂, l₂, S₂, E₂, r₂⟩ := S₁.freeze (a := a) (ds := ds) (ω' := ω') (ρ' := ρ₁) (.head _) (fun p hp => ⟨.tail _ hp, fun z => hnd.1 (z ▸ List.mem_map_of_mem hp)⟩) hnd.2 (fun x d e => .inl e); dsimp only [g]
 exact ⟨.list ds, _, b₂, E₁.trans E₂, S₂, r₂, p⟩
theorem trF_freeze {t : Sem Flow} {ρ ρ' : List (Str × D)} {a : Addr} {ds : List D} {ω' : Om} (hρ : ∀ x d, ρ'.lookup x = some d → ρ.lookup x = some d ∨ (ρ.lookup x = some (.raw (.ref a)) ∧ d = .list ds))
  (h : TrF X A env ⟨ρ', ω'⟩ t Q) : TrF X A env ⟨ρ, (a, .lst ds) :: ω'⟩ t Q := fun s b S => by
 have hnd := S.hp.nod
 simp only [List.map_cons, List.nodup_cons] at hnd
 refine hide ?_; intro g; obtain ⟨b₂, l₂, S₂, E₂, r₂⟩ := S.freeze (a := a) (ds := ds) (ω' := ω') (ρ' := ρ') (.head _) (fun p hp => ⟨.tail _ hp, fun z => hnd.1 (z ▸ List.mem_map_of_mem hp)⟩) hnd.2 hρ; dsimp only [g]
 exact wpAny_mono (h s b₂ S₂) (fun f s' q => q.after E₂) (fun _ _ x => x)
theorem St.drop {ρ : List (Str × D)} {ω ω' : Om} {b : Heap} {s : Shared} (S : St X env ⟨ρ, ω⟩ b s) (h : ω'.Sublist ω) : St X env ⟨ρ, ω'⟩ b s ∧ Evo X env ⟨ρ, ω⟩ ⟨ρ, ω'⟩ s b s b := by
 have hm : (ω'.map (·.1)).Sublist (ω.map (·.1)) := h.map _
 exact ⟨⟨S.ok, ⟨S.hp.le, fun p hp => S.hp.cell p (h.subset hp), fun p hp => S.hp.out p (h.subset hp), S.hp.nod.sublist hm, S.hp.top⟩, S.fm, ⟨S.fa.lb, fun z => S.fa.lw (hm.subset z), S.fa.cb, fun x c e z => S.fa.cw x c e (hm.subset z), S.fa.cl, S.fa.inj⟩, S.fr.mono (fun _ _ _ _ z => z) (fun a o l z w => z (hm.subset w)) (fun a o es ep _ _ e q => ⟨o, es, ep, e, q⟩)⟩,
  ⟨Ext.refl .., fun a z => .inl (hm.subset z)⟩⟩
theorem tr_drop {t : Sem Value} (h : Tr X A env σ t (fun d σ₁ => ∃ ω', ω'.Sublist σ₁.ω ∧ P d ⟨σ₁.ρ, ω'⟩)) : Tr X A env σ t P := fun s b S => by
 refine wpAny_mono (h s b S) ?_ (fun _ _ x => x)
 rintro v s₁ ⟨d, ⟨ρ₁, ω₁⟩, b₁, E₁, S₁, r₁, ω', hs, p⟩
 obtain ⟨S₂, E₂⟩ := S₁.drop hs
 exact ⟨d, _, b₁, E₁.trans E₂, S₂, r₁, p⟩
theorem trF_drop {t : Sem Flow} {ρ : List (Str × D)} {ω ω' : Om} (hs : ω'.Sublist ω) (h : TrF X A env ⟨ρ, ω'⟩ t Q) : TrF X A env ⟨ρ, ω⟩ t Q := fun s b S => by
 obtain ⟨S₂, E₂⟩ := S.drop hs
 exact wpAny_mono (h s b S₂) (fun f s' q => q.after E₂) (fun _ _ x => x)
theorem ol_range {n : Nat} (p : P (.rng n) σ) : OpL X A env σ (fun vs => call (.type "range") vs) [.int (n : Int)] P := fun s b vs S r => by
 replace r := r.i_one; obtain ⟨_, rfl, r⟩ := r
 obtain ⟨_, rfl⟩ := r.i_int
 exact call_range_1 (Po.alloc S rfl (fun b' l g => .rng g) p)
theorem all_list {x : Value} {s : Shared} {QQ : Value → Shared → Prop} {E : Value → Shared → Prop} {a : Addr} {vs : Array Value} {bs : List Bool} (hh : A.handled = none) (hl : s.heap.IsList a vs) (hb : vs.toList = bs.map Value.bool)
  (h : ∀ h' tk, Le s.heap h' → QQ (.bool (bs.all id)) { s with heap := h', toks := tk }) : wpAny X.M A (call (.builtin "all") [.ref a]) QQ E s := by
 have hlt : a < s.heap.objs.size := by obtain ⟨_, e, _⟩ := hl; exact Heap.lt_size e
 refine call_all_walk (wpAny_pyIter_list hl ⟨_, _, _, _, _, _, fun i => bs.getD i true, rfl, Walks.list (A := A.in1) hh _ a (Nat.ne_of_lt hlt) vs, ⟨⟨_, Heap.get?_push_size _ rfl, rfl, rfl⟩, hl.push _⟩, ?_, fun h' tk hk => ?_⟩)
 ·intro i v s' Q' E' hv hq
  have : vs.toList[i]? = some v := by simpa using hv
  rw [hb, List.getElem?_map] at this
  cases q : bs[i]? with
  | none => rw [q] at this; exact nso this
  | some c =>
   rw [q] at this; obtain rfl := Option.some.inj this
   have : bs.getD i true = c := by simp [List.getD, q]
   dsimp only at hq; rw [this] at hq
   exact wpAny_truthy_bool hq
 ·have hn : vs.size = bs.length := by rw [← Array.length_toList, hb]; simp
  have e : (List.range vs.size).all (fun i => bs.getD i true) = bs.all id := by
   rw [hn]
   rw [Bool.eq_iff_iff]
   simp only [List.all_eq_true, List.mem_range, id]
   constructor
   ·intro h x hx
    obtain ⟨i, hi, rfl⟩ := List.getElem_of_mem hx
    have := h i hi
    simpa [List.getD, hi] using this
   ·intro h i hi
    have := h bs[i] (List.getElem_mem hi)
    simpa [List.getD, hi] using this
  rw [e]
  exact h h' tk fun b o e => hk b o (fun z => by rw [List.mem_singleton.mp z] at e; exact absurd (Heap.lt_size e) (Nat.lt_irrefl _)) (Heap.get?_push_of_some _ e)
theorem rpAll_bools {b : Heap} {vs : List Value} {bs : List Bool} (h : RpAll X b vs (bs.map D.bool)) : vs = bs.map Value.bool := by
 induction bs generalizing vs with
 | nil => exact h.i_nil
 | cons c r ih =>
  obtain ⟨_, _, rfl, h1, q⟩ := h.i_cons
  obtain rfl := h1.i_bool
  exact congrArg _ (ih q)
theorem ol_all {d : D} {bs : List Bool} (hh : A.handled = none) (l : Lst X σ d (bs.map D.bool)) (p : P (.bool (bs.all id)) σ) : OpL X A env σ (fun vs => call (.builtin "all") vs) [d] P := fun s b vs S r => by
 replace r := r.i_one; obtain ⟨_, rfl, r⟩ := r
 obtain ⟨a, vs, k, rfl, g, ra⟩ := l.at S r
 refine all_list (x := .none) hh (isList_of g) (rpAll_bools ra) fun h' tk hle => ?_
 obtain ⟨S₁, E₁⟩ := S.extend (h' := h') (b' := b) (tk := tk) hle (Le.refl _) (S.hp.le.trans hle) (fun a o e => .inl ⟨o, e⟩)
 exact ⟨_, σ, b, E₁, S₁, .bool _, p⟩
theorem ev_one {op : BoolOp} {e : Expr} {pos : Pos} (h : Ev X A env σ e P) : Ev X A env σ (.BoolOp op [e] pos) P := fun s b S => BoolOp_one (h s b S)
theorem ev_and {e₁ e₂ : Expr} {rest : List Expr} {pos : Pos} (h : Ev X A env σ e₁ (fun d σ₁ => OpB X A env σ₁ truthy d (fun c σ₂ => if c = true then Ev X A env σ₂ (.BoolOp .And (e₂ :: rest) pos) P else P d σ₂))) :
  Ev X A env σ (.BoolOp .And (e₁ :: e₂ :: rest) pos) P := fun s b S => by
 refine BoolOp_and (wpAny_mono (h s b S) ?_ fun _ _ x => x)
 rintro v s₁ ⟨d, σ₁, b₁, E₁, S₁, r₁, h₁⟩
 refine wpAny_mono (h₁ s₁ b₁ v S₁ r₁) ?_ fun _ _ x => x
 rintro c s₂ ⟨σ₂, b₂, E₂, S₂, h₂⟩
 cases c with
 | true => simp only [if_true] at h₂ ⊢; exact wpAny_mono (h₂ s₂ b₂ S₂) (fun v s' q => (q.after E₂).after E₁) (fun _ _ x => x)
 | false => simp only [Bool.false_eq_true, if_false] at h₂ ⊢; exact ⟨d, σ₂, b₂, E₁.trans E₂, S₂, r₁.mono E₂.ext.le, h₂⟩
noncomputable def enumD (ds : List D) : List D := ds.zipIdx.map fun p => .tup [.int (p.2 : Nat), p.1]
theorem enumD_get {ds : List D} {i : Nat} {d : D} (h : (enumD ds)[i]? = some d) : ∃ x, ds[i]? = some x ∧ d = .tup [.int (i : Nat), x] := by
 unfold enumD at h
 rw [List.getElem?_map, List.getElem?_zipIdx] at h
 cases q : ds[i]? with
 | none => rw [q] at h; exact nso h
 | some x => rw [q] at h; simp at h; exact ⟨x, rfl, h.symm⟩
theorem enumD_none {ds : List D} {i : Nat} (h : (enumD ds)[i]? = none) : ds[i]? = none := by
 unfold enumD at h
 rw [List.getElem?_map, List.getElem?_zipIdx] at h
 cases q : ds[i]? with
 | none => rfl
 | some x => rw [q] at h; exact sno h
theorem itr_enum {elts : List Expr} {x1 : Nat} {tpos : Pos} {e I a : Addr} {b₀ : Heap} {vs : Array Value} {n : Nat} {ds : List D} (hh : A.handled = none) (hne : e ≠ I) (hg : b₀.get? a = some (seqObj "list" vs n)) (ra : RpAll X b₀ vs.toList ds) :
  Itr X A (.Tuple elts x1 tpos) (.ref e) b₀ [e, I] (fun i h => (∃ old, IsEnum h e I (i : Nat) old) ∧ h.IsListIter I a i) (fun _ => some (enumD ds)) where
 frame := fun i h h' ⟨⟨old, j1⟩, j2⟩ k => ⟨⟨old, k e (by simp) _ j1⟩, j2.at fun o q => k I (by simp) o q⟩
 live := fun i h ⟨⟨old, j1⟩, ⟨o, j2, _⟩⟩ x hx => by
  rcases List.mem_cons.mp hx with rfl | hx
  ·exact ⟨_, j1⟩
  ·rw [List.mem_singleton.mp hx]; exact ⟨o, j2⟩
 item := fun env σ i ds' d s b S hb ⟨⟨old, j1⟩, j2⟩ q g ap => by
  obtain rfl := Option.some.inj q
  obtain ⟨x, hx, rfl⟩ := enumD_get g
  obtain ⟨v, hv, r⟩ := (ra.mono hb).getD hx
  refine wpAny_pyNext_enum_item j1 j2 (isList_of (S.hp.le _ _ (hb _ _ hg))) (x := v) (by simpa using hv) hne fun h' k1 k2 k3 k4 k5 => ⟨_, rfl, ?_⟩
  refine wpAny_letOwnedTupleGo_enum (s := { s with heap := h', toks := s.toks + 1 }) k1 fun h₂ m1 m2 => ?_
  have hT : ∀ y ∈ [e, I], s.heap.objs.size ≠ y := fun y hy z => by
   have : ∃ o, s.heap.get? y = some o := by
    rcases List.mem_cons.mp hy with rfl | hy
    ·exact ⟨_, j1⟩
    ·rw [List.mem_singleton.mp hy]; obtain ⟨o, j3, _⟩ := j2; exact ⟨o, j3⟩
   obtain ⟨o, ho⟩ := this
   rw [← z, fresh_none] at ho; exact nso ho
  have k5' : ∀ y o, y ∉ [e, I] → s.heap.get? y = some o → h₂.get? y = some o := fun y o hy q => (m2.2 y (fun z => hy (by simp [z]))).trans (k5 y o (fun z => hy (by simp [z])) (fun z => hy (by simp [z])) q)
  have hTg : h₂.get? s.heap.objs.size = some (seqObj "tuple" #[.int (i : Nat) s.toks, v] 0) := (m2.2 _ (hT e (by simp))).trans k3
  have hbh : Le b h₂ := fun y o q => k5' y o (fun z => by rw [ap.b y z] at q; exact nso q) (S.hp.le _ _ q)
  refine ⟨h₂, grow b h₂ (· == s.heap.objs.size), s.toks + 1, rfl, ⟨⟨v, ?_⟩, k2.at fun o q => (m2.2 _ (Ne.symm hne)).trans q⟩, k5', grow_le hbh, grow_in, fun y o q => ?_, ?_⟩
  ·have e1 : ((i : Nat) : Int) + 1 = ((i + 1 : Nat) : Int) := by lia
   rw [← e1]; exact m1
  ·rcases grow_new q with z | z
   ·exact .inl z
   ·exact .inr (by rw [beq_iff_eq.mp z]; exact fresh_none _)
  ·exact .tup (grow_get (by simp) hTg) (.cons (.int ..) (.cons (r.mono (grow_le hbh)) .nil))
 done := fun env σ i ds' s b S hb ⟨⟨old, j1⟩, j2⟩ q g ap => by
  obtain rfl := Option.some.inj q
  have hx := enumD_none g
  refine wpAny_pyNext_enum_end hh j1 j2 (isList_of (S.hp.le _ _ (hb _ _ hg))) ?_ fun h' he => ⟨rfl, h', s.toks, rfl, fun x o hx e => he x o (fun z => hx (by simp [z])) e⟩
  have := ra.length
  have hg : ds.length ≤ i := by simpa using hx
  simp; have : vs.size = ds.length := by rw [← this]; simp
  exact Nat.le_trans (Nat.le_of_eq this) hg
 self := fun i s QQ E j h => by obtain ⟨⟨old, j1⟩, j2⟩ := j; exact wpAny_pyIter_enum j1 h
theorem src_enum {func e : Expr} {pos tpos : Pos} {elts : List Expr} {x1 : Nat} {ds : List D} {R : Sg → Prop} (hh : A.handled = none)
  (h : Ev X A env σ func (fun f σ₁ => f = .raw (.type "enumerate") ∧ Ev X A env σ₁ e (fun d σ₂ => d = .list ds ∧ R σ₂)))
  (he : eval (.Call func [e] [] pos) env = (do callWith pos (← eval func env) [] (backTo pos (starEach [e] env)) (backToKw pos (keywordEach [] env))))
  (hst : starEach [e] env = (false, eval e env) :: starEach [] env) :
  Src X A env σ (.Call func [e] [] pos) (.Tuple elts x1 tpos) (fun _ => some (enumD ds)) R := fun s b S => by
 refine Call_ (wpAny_mono (h s b S) ?_ (fun _ _ x => x)) he
 rintro v₁ s₁ ⟨d₁, σ₁, b₁, E₁, S₁, r₁, rfl, h₁⟩
 obtain rfl := r₁.i_raw
 refine PySem.Pv.callWith_type1 (args_cons (wpAny_mono (h₁ s₁ b₁ S₁) ?_ (fun _ _ x => x)) hst) hst rfl
 rintro v₂ s₂ ⟨d₂, σ₂, b₂, E₂, S₂, r₂, rfl, hR⟩
 refine args_nil ?_
 obtain ⟨_, _, _, rfl, g, ra⟩ := r₂.i_list
 rename_i a vs n
 refine call_enumerate_list (isList_of (S₂.hp.le _ _ g)) fun h' k1 k2 k3 k4 => ?_
 refine wpAny_pyIter_enum k1 ?_
 obtain ⟨S₃, E₃⟩ := S₂.extend (h' := h') (b' := b₂) (tk := s₂.toks) k4 (Le.refl _) (S₂.hp.le.trans k4) (fun a o e => .inl ⟨o, e⟩)
 have fr : ∀ y ∈ [s₂.heap.objs.size + 1, s₂.heap.objs.size], s₂.heap.get? y = none := fun y hy => by
  cases q : s₂.heap.get? y with
  | none => rfl
  | some o =>
   have := Heap.lt_size q
   rcases List.mem_cons.mp hy with rfl | hy
   ·exact absurd this (Nat.not_lt.mpr (Nat.le_succ _))
   ·rw [List.mem_singleton.mp hy] at this; exact absurd this (Nat.lt_irrefl _)
 exact ⟨σ₂, b₂, [s₂.heap.objs.size + 1, s₂.heap.objs.size], _, (E₁.trans E₂).trans E₃, S₃, apart_new S₂ fr, fun y hy => E₁.ext.none (E₂.ext.none (fr y hy)), itr_enum hh (Nat.succ_ne_self _) g ra, ⟨⟨_, k1⟩, k2⟩, hR⟩
noncomputable abbrev QWhb (Inv : Nat → Sg → Prop) (n : Nat) (Q : Fl → Sg → Prop) : Fl → Sg → Prop := fun fl σ₂ => match fl with | .next | .cont => ∃ m, m < n ∧ Inv m σ₂ | .brk => Q .next σ₂ | .ret r => Q (.ret r) σ₂
noncomputable abbrev QWh (X : Cx) (A : Around) (env : Env) (body orelse : List Stmt) (Inv : Nat → Sg → Prop) (n : Nat) (Q : Fl → Sg → Prop) : Bool → Sg → Prop := fun c σ₁ => if c = true then Exs X A env σ₁ body (QWhb Inv n Q) else Exs X A env σ₁ orelse Q
theorem ex_while {test : Expr} {body orelse : List Stmt} {pos : Pos} (Inv : Nat → Sg → Prop) (n : Nat) (h0 : Inv n σ)
  (turn : ∀ n σ, Inv n σ → Te X A env σ test (QWh X A env body orelse Inv n Q)) :
  Ex X A env σ (.While test body orelse pos) Q := fun s b S => by
 refine wpAny_While (codeAny_whileLoop (fun n s' => ∃ σ' b', Inv n σ' ∧ St X env σ' b' s' ∧ Evo X env σ σ' s b s' b') ?_ n ⟨σ, b, h0, S, Evo.refl ..⟩)
 rintro n s' ⟨σ', b', hI, S', E'⟩
 refine wpAny_mono (turn n σ' hI s' b' S') ?_ (fun _ _ x => x.elim)
 rintro c s₁ ⟨σ₁, b₁, E₁, S₁, h₁⟩
 cases c with
 | true =>
  simp only [if_true] at h₁ ⊢
  refine wpAny_mono (h₁ s₁ b₁ S₁) ?_ (fun _ _ x => x.elim)
  rintro f s₂ ⟨fl, σ₂, b₂, E₂, S₂, r₂, h₂⟩
  have E := (E'.trans E₁).trans E₂
  cases f with
  | next => cases fl with
   | next => obtain ⟨m, hm, hi⟩ := h₂; exact ⟨m, hm, σ₂, b₂, hi, S₂, E⟩
   | _ => exact r₂.elim
  | cont => cases fl with
   | cont => obtain ⟨m, hm, hi⟩ := h₂; exact ⟨m, hm, σ₂, b₂, hi, S₂, E⟩
   | _ => exact r₂.elim
  | brk => cases fl with
   | brk => exact ⟨.next, σ₂, b₂, E, S₂, trivial, h₂⟩
   | _ => exact r₂.elim
  | ret v => cases fl with
   | ret d => exact ⟨.ret d, σ₂, b₂, E, S₂, r₂, h₂⟩
   | _ => exact r₂.elim
 | false =>
  simp only [Bool.false_eq_true, if_false] at h₁ ⊢
  exact wpAny_mono (h₁ s₁ b₁ S₁) (fun f s₂ q => q.after (E'.trans E₁)) (fun _ _ x => x.elim)
noncomputable def TurnP (Q : Fl → Sg → Prop) (I : Sg → Prop) : Fl → Sg → Prop := fun fl σ => match fl with
 | .next | .cont => I σ
 | .brk => Q .next σ
 | .ret r => Q (.ret r) σ
theorem ex_forS {α : Type} {target iter : Expr} {body orelse : List Stmt} {pos : Pos} (l : List α) (f : α → D) (seq : Sg → Option (List D)) (Inv : List α → Sg → Prop)
  (hiter : Src X A env σ iter target seq (Inv []))
  (hseq : ∀ pre σ, Inv pre σ → seq σ = some (l.map f))
  (step : ∀ pre x post σ, l = pre ++ x :: post → Inv pre σ → Asg X A env σ target (f x) (fun σ' => Exs X A env σ' body (TurnP Q (Inv (pre ++ [x])))))
  (stop : ∀ σ, Inv l σ → Exs X A env σ orelse Q)
  (hs : ∀ x, foldedSetIterable iter env x = pure x) : Ex X A env σ (.For target iter body orelse pos) Q := by
 refine ex_for (fun i σ => i ≤ l.length ∧ Inv (l.take i) σ) seq l.length ?_ ?_ ?_ ?_ hs
 ·refine fun s b S => wpAny_mono (hiter s b S) (fun x s₁ h₁ => wpAny_mono h₁ ?_ fun _ _ x => x) fun _ _ x => x
  rintro it s₂ ⟨σ₁, b₁, own, J, h1, h2, h3, h4, h5, h6, h7⟩
  exact ⟨σ₁, b₁, own, J, h1, h2, h3, h4, h5, h6, Nat.zero_le _, h7⟩
 ·intro i σ h; exact ⟨_, hseq _ _ h.2, by simp⟩
 ·rintro i σ ds d ⟨hi, hI⟩ e hd
  rw [hseq _ _ hI] at e
  obtain rfl := Option.some.inj e
  obtain ⟨x, hx, rfl⟩ : ∃ x, l[i]? = some x ∧ d = f x := by
   rw [List.getElem?_map] at hd
   cases q : l[i]? with
   | none => rw [q] at hd; exact nso hd
   | some x => rw [q] at hd; obtain rfl := Option.some.inj hd; exact ⟨x, rfl, rfl⟩
  refine Asg.mono (step _ x _ σ (split_at hx) hI) fun σ' h => TrF.mono h fun fl σ'' h2 => ?_
  have hlt := (List.getElem?_eq_some_iff.mp hx).1
  rw [← take_at hx] at h2
  cases fl with
  | next => exact ⟨hlt, h2⟩
  | cont => exact ⟨hlt, h2⟩
  | brk => exact h2
  | ret r => exact h2
 ·rintro i σ ds ⟨hi, hI⟩ e hd
  rw [hseq _ _ hI] at e
  obtain rfl := Option.some.inj e
  have : i = l.length := Nat.le_antisymm hi (by simpa using hd)
  subst this
  rw [List.take_length] at hI
  exact stop σ hI
theorem ex_forP {α : Type} {target iter : Expr} {body orelse : List Stmt} {pos : Pos} (l : List α) (f : α → D) (Inv : List α → Sg → Prop)
  (hiter : Src X A env σ iter target (fun _ => some (l.map f)) (Inv []))
  (step : ∀ pre x post σ, l = pre ++ x :: post → Inv pre σ → Asg X A env σ target (f x) (fun σ' => Exs X A env σ' body (TurnP Q (Inv (pre ++ [x])))))
  (stop : ∀ σ, Inv l σ → Exs X A env σ orelse Q)
  (hs : ∀ x, foldedSetIterable iter env x = pure x) : Ex X A env σ (.For target iter body orelse pos) Q :=
 ex_forS l f _ Inv hiter (fun _ _ _ => rfl) step stop hs
noncomputable abbrev PI {α : Type} (_ : List α) : Type := List α → Sg → Prop
theorem St.perm {ρ : List (Str × D)} {ω ω' : Om} {b : Heap} {s : Shared} (S : St X env ⟨ρ, ω⟩ b s) (h : ω'.Perm ω) : St X env ⟨ρ, ω'⟩ b s ∧ Evo X env ⟨ρ, ω⟩ ⟨ρ, ω'⟩ s b s b := by
 have hm : (ω'.map (·.1)).Perm (ω.map (·.1)) := h.map _
 exact ⟨⟨S.ok, ⟨S.hp.le, fun p hp => S.hp.cell p (h.subset hp), fun p hp => S.hp.out p (h.subset hp), hm.nodup_iff.mpr S.hp.nod, S.hp.top⟩, S.fm, ⟨S.fa.lb, fun z => S.fa.lw (hm.subset z), S.fa.cb, fun x c e z => S.fa.cw x c e (hm.subset z), S.fa.cl, S.fa.inj⟩, S.fr.mono (fun _ _ _ _ z => z) (fun a o l z w => z (hm.subset w)) (fun a o es ep _ _ e q => ⟨o, es, ep, e, q⟩)⟩,
  ⟨Ext.refl .., fun a z => .inl (hm.subset z)⟩⟩
theorem trF_perm {t : Sem Flow} {ρ : List (Str × D)} {ω ω' : Om} (hs : ω'.Perm ω) (h : TrF X A env ⟨ρ, ω'⟩ t Q) : TrF X A env ⟨ρ, ω⟩ t Q := fun s b S => by
 obtain ⟨S₂, E₂⟩ := S.perm hs
 exact wpAny_mono (h s b S₂) (fun f s' q => q.after E₂) (fun _ _ x => x)
theorem valueAt_lookup {V : Type} (kvs : List (Str × Value)) (k : Str) : valueAt kvs k = kvs.lookup k := by
 unfold valueAt
 induction kvs with
 | nil => rfl
 | cons p r ih =>
  obtain ⟨x, v⟩ := p
  rw [List.find?_cons, List.lookup_cons]
  by_cases h : x = k
  ·subst h; simp
  ·have h1 : decide (x = k) = false := by simpa using h
   have h2 : (k == x) = false := by simpa using fun e : k = x => h e.symm
   simp only [h1, h2]; exact ih
noncomputable def Dct (X : Cx) (σ : Sg) (d : D) (kds : List (Str × D)) : Prop := d = .dct kds ∨ ∃ a, d = .raw (.ref a) ∧ (a, C.dct kds) ∈ σ.ω
theorem Dct.data {kds : List (Str × D)} : Dct X σ (.dct kds) kds := .inl rfl
theorem Dct.cell {a : Addr} {kds : List (Str × D)} (h : (a, C.dct kds) ∈ σ.ω) : Dct X σ (.raw (.ref a)) kds := .inr ⟨a, rfl, h⟩
theorem Dct.at {s : Shared} {b : Heap} {d : D} {kds : List (Str × D)} (l : Dct X σ d kds) (S : St X env σ b s) {v : Value} (r : Rp X b v d) :
  ∃ a kvs ep, v = .ref a ∧ (a == sysModules) = false ∧ s.heap.DictAt X.kd a kvs ep ∧ RpKv X b kvs kds := by
 rcases l with rfl | ⟨a, rfl, h⟩
 ·obtain ⟨_, _, _, rfl, n, g, ra⟩ := r.i_dct
  ·exact ⟨_, _, _, rfl, n, g.keep S.hp.le, ra⟩
 ·obtain rfl := r.i_raw
  obtain ⟨n, kvs, ep, g, ra⟩ := S.hp.cell _ h
  exact ⟨a, kvs, ep, rfl, n, g, ra⟩
theorem kdIs (k : Str) (t : Tok) : X.kd.is k (.str k t) = true := strKind_is X.prog X.w k t
theorem op_dget {vl sl : Expr} {d x : D} {k : Str} {kds : List (Str × D)} (l : Dct X σ d kds) (hx : kds.lookup k = some x) (p : P x σ)
  (hs : ∀ v u, subscripted sl false v (.str k u) = operate [v, .str k u] (getItem v (.str k u))) : Op X A env σ (subscriptTail vl sl) d (.str k) P := fun s b v w S rx ry => by
 obtain ⟨_, rfl⟩ := ry.i_str
 rename_i tk
 obtain ⟨a, kvs, ep, rfl, n, g, ra⟩ := l.at S rx
 obtain ⟨v, hv, r⟩ := ra.lookup hx
 exact tail_any g.dictOf.typeIs slot_dict_getitem.lookup (wpAny_getItem_of (knd := X.kd) (kdIs k tk) g.dictOf.mapOf (by rw [valueAt_lookup (V := Value)]; exact hv) (Po.tok S r p)) (hs _ _)
theorem RpKv.isSome {b : Heap} {x : Str} {kvs : List (Str × Value)} {kds : List (Str × D)} (h : RpKv X b kvs kds) : (kvs.lookup x).isSome = (kds.lookup x).isSome := by
 cases q : kds.lookup x with
 | none => rw [h.lookup_none q]; rfl
 | some d => obtain ⟨v, e, _⟩ := h.lookup q; rw [e]; rfl
theorem op_din {d : D} {k : Str} {kds : List (Str × D)} (l : Dct X σ d kds) (p : P (.bool (kds.lookup k).isSome) σ) : Op X A env σ (compareOp .In) (.str k) d P := fun s b v w S rx ry => by
 obtain ⟨_, rfl⟩ := rx.i_str
 rename_i tk
 obtain ⟨a, kvs, ep, rfl, n, g, ra⟩ := l.at S ry
 refine wpAny_in_of (knd := X.kd) (kdIs k tk) n g.dictOf.mapOf ?_
 rw [valueAt_lookup (V := Value), ra.isSome]
 exact Po.tok S (.bool _) p
theorem op_dnotin {d : D} {k : Str} {kds : List (Str × D)} (l : Dct X σ d kds) (p : P (.bool (!(kds.lookup k).isSome)) σ) : Op X A env σ (compareOp .NotIn) (.str k) d P := fun s b v w S rx ry => by
 obtain ⟨_, rfl⟩ := rx.i_str
 rename_i tk
 obtain ⟨a, kvs, ep, rfl, n, g, ra⟩ := l.at S ry
 refine wpAny_notIn_of (knd := X.kd) (kdIs k tk) n g.dictOf.mapOf ?_
 rw [valueAt_lookup (V := Value), ra.isSome]
 exact Po.tok S (.bool _) p
theorem ob_dict {PB : Bool → Sg → Prop} {d : D} {kds : List (Str × D)} (l : Dct X σ d kds) (hz : kds.length ≤ sizeLine) (p : PB (!kds.isEmpty) σ) : OpB X A env σ truthy d PB := fun s b v S r => by
 obtain ⟨a, kvs, ep, rfl, n, g, ra⟩ := l.at S r
 have e := ra.length
 refine wpAny_truthy_dict n g.dictOf (by have : sizeLine = 2 ^ 24 := rfl; lia) ?_
 have : (!kvs.isEmpty) = !kds.isEmpty := by
  cases kvs <;> cases kds <;> first | rfl | (simp at e)
 exact PoB.tok S (this ▸ p)
theorem ob_str {PB : Bool → Sg → Prop} {x : Str} (hz : x.length ≤ sizeLine) (p : PB ((x.length : Int) != 0) σ) : OpB X A env σ truthy (.str x) PB := fun s b v S r => by
 obtain ⟨_, rfl⟩ := r.i_str
 exact PySem.P.truthy_str (by have : sizeLine = 2 ^ 24 := rfl; lia) (PoB.tok S p)
noncomputable def put (kds : List (Str × D)) (k : Str) (d : D) : List (Str × D) := if kds.any (fun kv => kv.1 = k) then kds.map (fun kv => if kv.1 = k then (kv.1, d) else kv) else kds ++ [(k, d)]
theorem RpKv.append {b : Heap} {vs ws : List (Str × Value)} {ds es : List (Str × D)} (p : RpKv X b vs ds) (q : RpKv X b ws es) : RpKv X b (vs ++ ws) (ds ++ es) := by
 induction p using RpKv.ind with
 | nil => exact q
 | cons r _ ih => exact .cons r ih
theorem RpKv.any {b : Heap} {k : Str} {kvs : List (Str × Value)} {kds : List (Str × D)} (q : RpKv X b kvs kds) : (kvs.any fun kv => kv.1 = k) = kds.any fun kv => kv.1 = k := by
 induction q using RpKv.ind with
 | nil => rfl
 | cons _ _ ih => exact congrArg (Bool.or _) ih
theorem RpKv.subst {b : Heap} {k : Str} {v : Value} {d : D} (r : Rp X b v d) {kvs : List (Str × Value)} {kds : List (Str × D)} (q : RpKv X b kvs kds) : RpKv X b (kvs.map fun kv => if kv.1 = k then (kv.1, v) else kv) (kds.map fun kv => if kv.1 = k then (kv.1, d) else kv) := by
 induction q using RpKv.ind with
 | nil => exact .nil
 | cons r' _ ih =>
  rename_i k' v' d' kvs kds _
  show RpKv X b ((if k' = k then (k', v) else (k', v')) :: _) ((if k' = k then (k', d) else (k', d')) :: _)
  by_cases h : k' = k
  ·rw [if_pos h, if_pos h]; exact .cons r ih
  ·rw [if_neg h, if_neg h]; exact .cons r' ih
theorem RpKv.put {b : Heap} {kvs : List (Str × Value)} {kds : List (Str × D)} (h : RpKv X b kvs kds) {k : Str} {v : Value} {d : D} (r : Rp X b v d) : RpKv X b (stored kvs k v) (put kds k d) := by
 unfold stored Mine.put
 rw [h.any]
 split
 ·exact h.subst r
 ·exact h.append (.cons r .nil)
theorem put_new {kds : List (Str × D)} {k : Str} {d : D} (h : kds.lookup k = none) : put kds k d = kds ++ [(k, d)] := by
 unfold put
 have : (kds.any fun kv => decide (kv.1 = k)) = false := by
  rw [List.any_eq_false]
  rintro ⟨x, e⟩ hm
  induction kds with
  | nil => cases hm
  | cons p r ih =>
   obtain ⟨y, f⟩ := p
   rw [List.lookup_cons] at h
   cases z : (k == y) with
   | true => rw [z] at h; exact sno h
   | false =>
    rw [z] at h
    rcases List.mem_cons.mp hm with e' | e'
    ·cases e'; simp; intro q; subst q; simp at z
    ·exact ih h e'
 rw [this]; rfl
inductive QDs3 (v d : D) (Q : Fl → Sg → Prop) (k : D) (σ₃ : Sg) : Prop
 | mk (a : Addr) (x : Str) (kds : List (Str × D)) (ω' : Om) (e : d = .raw (.ref a)) (e2 : k = .str x) (u : Upd a (.dct kds) (.dct (put kds x v)) σ₃.ω ω') (z : kds.length ≤ sizeLine) (p : Q .next ⟨σ₃.ρ, ω'⟩)
noncomputable abbrev QDs2 (X : Cx) (A : Around) (env : Env) (i : Expr) (v : D) (Q : Fl → Sg → Prop) : D → Sg → Prop := fun d σ₂ => Ev X A env σ₂ i (QDs3 v d Q)
noncomputable abbrev QDs (X : Cx) (A : Around) (env : Env) (o i : Expr) (Q : Fl → Sg → Prop) : D → Sg → Prop := fun v σ₁ => Ev X A env σ₁ o (QDs2 X A env i v Q)
theorem ex_dset {o i value : Expr} {pos' pos : Pos}
  (h : Ev X A env σ value (QDs X A env o i Q))
  (hs : swapsWith value (some (.Subscript o i pos')) pos.line env = pure false) : Ex X A env σ (.Assign [.Subscript o i pos'] value pos) Q := fun s b S => by
 refine wpAny_Assign_Subscript (wpAny_mono (h s b S) ?_ fun _ _ x => x) hs
 rintro v s₁ ⟨dv, σ₁, b₁, E₁, S₁, r₁, h₁⟩
 refine wpAny_mono (h₁ s₁ b₁ S₁) ?_ fun _ _ x => x
 rintro ov s₂ ⟨d, σ₂, b₂, E₂, S₂, r₂, h₂⟩
 refine wpAny_mono (h₂ s₂ b₂ S₂) ?_ fun _ _ x => x
 rintro iv s₃ ⟨k, σ₃, b₃, E₃, S₃, r₃, a, x, kds, ω', rfl, rfl, u, hz, p⟩
 obtain rfl := r₂.i_raw
 obtain ⟨_, rfl⟩ := r₃.i_str
 rename_i tk
 obtain ⟨n, kvs, ep, g, ra⟩ := S₃.hp.cell _ u.mem
 have e := ra.length
 refine wpAny_setItem_pairs (knd := X.kd) (hsz := by exact Nat.le_trans (Nat.le_of_eq e) hz) (kdIs x tk) g.dictOf fun h' hm hs => ?_
 obtain ⟨ep', hm'⟩ := hm.dictAt
 have rv : Rp X b₃ v dv := (r₁.mono E₂.ext.le).mono E₃.ext.le
 obtain ⟨S₄, E₄⟩ := S₃.setCell (h' := h') u hs ⟨n, _, ep', hm', ra.put rv⟩ (s₃.toks + 1)
 exact ⟨.next, _, b₃, ((E₁.trans E₂).trans E₃).trans E₄, S₄, trivial, p⟩
theorem rpAll_strs {b : Heap} {vs : List Value} {ss : List Str} (h : RpAll X b vs (ss.map D.str)) : StrsAre vs ss := by
 induction ss generalizing vs with
 | nil => obtain rfl := h.i_nil; exact .nil
 | cons c r ih =>
  obtain ⟨_, _, rfl, h1, q⟩ := h.i_cons
  obtain ⟨_, rfl⟩ := h1.i_str
  exact .cons _ _ (ih q)
theorem strs_rpAll {b : Heap} {vs : List Value} {ss : List Str} (q : StrsAre vs ss) : RpAll X b vs (ss.map D.str) := by
 induction q with
 | nil => exact .nil
 | cons _ _ _ ih => exact .cons (.str ..) ih
theorem ol_sorted {d : D} {ss : List Str} (l : Lst X σ d (ss.map D.str)) (h64 : ss.length < 64) (p : ∀ ss' : List Str, ss'.Perm ss → sortedS ss' = true → P (.list (ss'.map D.str)) σ) : OpL X A env σ (fun vs => call (.builtin "sorted") vs) [d] P := fun s b vs S r => by
 replace r := r.i_one; obtain ⟨_, rfl, r⟩ := r
 obtain ⟨a, vs, k, rfl, g, ra⟩ := l.at S r
 have hl : s.heap.IsList a vs.toList.toArray := by simpa using isList_of g
 have hlen := ra.length
 refine sorted_strs hl (rpAll_strs ra) (by rw [hlen]; simpa using h64) fun out ss' h1 h2 h3 => ?_
 obtain ⟨e, he⟩ := sortedAll_at s.heap vs.toList out
 have hle : Le s.heap (sortedAll s.heap vs.toList out) := fun _ _ => sortedAll_old
 obtain ⟨S₁, E₁⟩ := S.extend (h' := sortedAll s.heap vs.toList out) (b' := grow b (sortedAll s.heap vs.toList out) (· == s.heap.objs.size + 1)) (tk := s.toks) hle (grow_le (S.hp.le.trans hle)) grow_in (fun y o q => by
  rcases grow_new q with z | z
  ·exact .inl z
  ·refine .inr ?_
   rw [beq_iff_eq.mp z]
   cases q : s.heap.get? (s.heap.objs.size + 1) with
   | none => rfl
   | some o => exact absurd (Heap.lt_size q) (Nat.not_lt.mpr (Nat.le_succ _)))
 exact ⟨.list (ss'.map D.str), σ, _, E₁, S₁, .list (grow_get (by simp) he) (strs_rpAll h1), p ss' h2 h3⟩
end
section
variable {X : Cx} {A : Around} {env : Env} {σ : Sg} {P : D → Sg → Prop} {Q : Fl → Sg → Prop} {E : Value → Shared → Prop} {s : Shared}
noncomputable def fnObj (fd : FuncData) : Obj := { cls := .type "function", data := .func fd }
noncomputable def FnI (fd : FuncData) : Heap → Heap → Addr → Prop := fun b h a => h.get? a = some (fnObj fd) ∧ b.CodeRec fd.code fd.qualname
theorem codeRec_mono {b b' : Heap} {v : Value} {q : Str} (x : b.CodeRec v q) (h : Le b b') : b'.CodeRec v q :=
 let ⟨c, o, vs, t, e, g, r⟩ := x
 ⟨c, o, vs, t, e, h _ _ g, r⟩
theorem fnI_by (fd : FuncData) : ByObj (FnI fd) := fun b b' h h' a x hb hh => ⟨hh _ x.1, codeRec_mono x.2 hb⟩
noncomputable abbrev envClo (qual : Str) (scope : Scope) (L fa : Addr) (cl : List (Str × Addr)) (cdv : Value) : Env := newEnv scope L mainGlobals cl (qual ++ ".<locals>.") (some fa) cdv none builtinsNs
structure CloOk (fd : FuncData) (qual : Str) (body : List Stmt) (scope : Scope) : Prop where
 fbody : fd.body = .stmts body
 fqual : fd.qualname = qual
 fscope : fd.scope = scope
 fglob : fd.globals = mainGlobals
 fblt : fd.builtins = builtinsNs
 co : scope.isCoroutine = false
 gen : scope.isGenerator = false
 kind : scope.kind = .function
 nocell : (scope.names.all fun p => p.2 != .cell) = true
structure CloCl (env : Env) (cl : List (Str × Addr)) (scope : Scope) : Prop where
 held : ∀ x c, cl.lookup x = some c → env.cells.lookup x = some c ∧ (env.kindOf x = some .cell ∨ env.kindOf x = some .free)
 all : ∀ x, scope.names.lookup x = some .free → ∃ c, cl.lookup x = some c
set_option maxHeartbeats 1000000 in
theorem fn_clo {fa : Addr} {qual : Str} {body : List Stmt} {scope : Scope} {fd : FuncData} {ds : List D} {dps dfs : List (Str × D)} (hf : CloOk fd qual body scope) (hroom : A.depth < recursionLimit)
  (hobj : (fa, C.raw (FnI fd)) ∈ σ.ω) (hcl : CloCl env fd.closure scope)
  (hbind : ∀ s b vs, X.Top b → Le b s.heap → RpAll X b vs ds → ∃ binds, BindsTo s fd ⟨vs, []⟩ binds ∧ RpKv X b binds dps)
  (hnd' : nodupS (dps.map (·.1)) = true) (hk1 : (dps.all fun y => scope.names.lookup y.1 == some .local) = true) (hk2 : (dfs.all fun y => scope.names.lookup y.1 == some .free) = true)
  (hρ : ∀ x d, dfs.lookup x = some d → σ.ρ.lookup x = some d)
  (hbody : ∀ L, Exs (X.push (envClo qual scope L fa fd.closure fd.code)) (A.deeper (envClo qual scope L fa fd.closure fd.code)) (envClo qual scope L fa fd.closure fd.code) ⟨dps ++ dfs, σ.ω⟩ body (fun fl σ' => match fl with | .ret d => P d ⟨σ.ρ, σ'.ω⟩ | .next => P .none ⟨σ.ρ, σ'.ω⟩ | _ => False)) :
  OpL X A env σ (fun vs => call (.ref fa) vs) ds P := fun s b vs S rv => wpAny_call (by
 refine hide ?_; intro g; obtain ⟨hfb, rfl, rfl, hfg, hfbl, hco, hgen, hk, hnc⟩ := hf; dsimp only [g]
 have T := S.hp.top
 refine hide ?_; intro g; obtain ⟨-, -, ho, hcd'⟩ := S.hp.cell _ hobj; dsimp only [g]
 have hcd : s.heap.CodeRec fd.code fd.qualname := codeRec_mono hcd' S.hp.le
 refine hide ?_; intro g; obtain ⟨binds, hb, rb⟩ := hbind s b vs T S.hp.le rv; dsimp only [g]
 have hkeys : binds.map (·.1) = dps.map (·.1) := rb.keys
 have hkd : ∀ x ∈ dps.map (·.1), fd.scope.names.lookup x = some .local := fun x hx => by
  obtain ⟨p, hp, e⟩ := List.mem_map.mp hx
  have := List.all_eq_true.mp hk1 p hp
  rw [e] at this; simpa using this
 have hkb : ∀ x ∈ binds, fd.scope.names.lookup x.1 = some .local := fun x hx => hkd _ (by rw [← hkeys]; exact List.mem_map_of_mem hx)
 refine codeAny_call_function hroom ho rfl hco hgen hfb hcd ?_
 refine hb _ _ _ _ ?_
 rw [hfg, hfbl]
 refine wpAny_newFunctionEnv (fun x hx z => by have := List.all_eq_true.mp hnc x hx; rw [z] at this; simp at this) hkb (fun h₁ hns hsb => ?_) hk
 generalize hL : s.heap.objs.size = L at hns hsb
 have hle : Le s.heap h₁ := fun a o e => (hsb.2 a (fun z => Nat.lt_irrefl _ (by have := Heap.lt_size e; rwa [z, ← hL] at this))).trans (Heap.get?_push_of_some _ e)
 obtain ⟨S₁, E₁⟩ := S.extend (h' := h₁) (b' := b) (tk := s.toks + binds.length) hle (Le.refl _) (S.hp.le.trans hle) (fun a o e => .inl ⟨o, e⟩)
 have LNone : s.heap.get? L = none := hL ▸ fresh_none _
 have fresh_b : ∀ a, s.heap.get? a = none → b.get? a = none := fun a e => by
  cases q : b.get? a with
  | none => rfl
  | some o => have := S.hp.le _ _ q; rw [e] at this; exact nso this
 have fresh_w : ∀ a, s.heap.get? a = none → a ∉ σ.ω.map (·.1) := fun a e h => by
  obtain ⟨p, hp, rfl⟩ := List.mem_map.mp h
  obtain ⟨o, ho⟩ := (S.hp.cell p hp).live
  rw [e] at ho; exact nso ho
 have hnb : (binds.map (·.1)).Nodup := by rw [hkeys]; exact nodup_of hnd'
 have hcx : ∀ x c, fd.closure.lookup x = some c → ∃ ov, s.heap.IsCell c ov := fun x c e => S.fm.cx x c (hcl.held x c e).1
 have up : ∀ c ov, s.heap.IsCell c ov → h₁.IsCell c ov := fun c ov ⟨o, h1, h2⟩ => ⟨o, hle _ _ h1, h2⟩
 have noC : ∀ x, fd.scope.names.lookup x ≠ some .cell := fun x z => by
  have := List.all_eq_true.mp hnc _ (lookup_mem_kind z)
  simp at this
 have lk : ∀ x, fd.scope.names.lookup x = some .free → ∀ d, (dps ++ dfs).lookup x = some d → dfs.lookup x = some d := fun x kx d e => by
  rw [List.lookup_append] at e
  cases q : dps.lookup x with
  | none => rw [q] at e; simpa using e
  | some d' =>
   have := hkd x (List.mem_map_of_mem (f := (·.1)) (PySem.mem_of_lookup q))
   rw [kx] at this; cases this
 have lk2 : ∀ x, fd.scope.names.lookup x = some .local → ∀ d, (dps ++ dfs).lookup x = some d → dps.lookup x = some d := fun x kx d e => by
  rw [List.lookup_append] at e
  cases q : dps.lookup x with
  | some d' => rw [q] at e; simpa using e
  | none =>
   rw [q] at e
   have hm := List.all_eq_true.mp hk2 _ (PySem.mem_of_lookup (by simpa using e))
   simp only [beq_iff_eq] at hm
   rw [kx] at hm; cases hm
 have SC : St (X.push (envClo fd.qualname fd.scope L fa fd.closure fd.code)) (envClo fd.qualname fd.scope L fa fd.closure fd.code) ⟨dps ++ dfs, σ.ω⟩ b { s with heap := h₁, toks := s.toks + binds.length } := by
  refine ⟨⟨hk, rfl, rfl, fun x kx => ?_⟩, S₁.hp.at, ⟨⟨_, hns, fun x d kx e => ?_⟩, fun x d kx e => ?_, fun x c e => (hcx x c e).imp fun ov h => up _ _ h⟩, ⟨fresh_b _ LNone, fresh_w _ LNone, fun x c e => S.fa.cb x c (hcl.held x c e).1, fun x c e => S.fa.cw x c (hcl.held x c e).1, fun x c e z => ?_, fun x y c e1 e2 => S.fa.inj x y c (hcl.held x c e1).1 (hcl.held y c e2).1⟩, fun e he => ?_⟩
  ·rcases kx with kx | kx
   ·exact absurd kx (noC x)
   ·exact hcl.all x kx
  ·obtain ⟨v, h1, h2⟩ := rb.lookup (lk2 x kx d e)
   exact ⟨v, (lookup_reverse_of_nodup _ hnb x).trans h1, h2.at⟩
  ·rcases kx with kx | kx
   ·exact absurd kx (noC x)
   ·obtain ⟨c, hc⟩ := hcl.all x kx
    refine hide ?_; intro g; obtain ⟨c', v, h1, h2, h3⟩ := S.fm.cl x d (hcl.held x c hc).2 (hρ x d (lk x kx d e)); dsimp only [g]
    rw [(hcl.held x c hc).1] at h1; obtain rfl := Option.some.inj h1
    exact ⟨c, v, hc, up _ _ h2, h3.at⟩
  ·obtain ⟨ov, o, h1, _⟩ := hcx x c e
   have z' : c = L := z
   rw [z', LNone] at h1; exact nso h1
  ·rcases List.mem_cons.mp he with rfl | he
   ·refine hide ?_; intro g; obtain ⟨o, es, ep, h1, h2, _⟩ := hns; dsimp only [g]
    exact ⟨hk, L, o, es, ep, rfl, fresh_b _ LNone, fresh_w _ LNone, h1, h2⟩
   ·exact S₁.fr e he
 refine ⟨(T.tr.nolimit.keeps S.hp.le).keeps hle, codeAny_func (wpAny_mono (hbody L _ b SC) (fun f s' hq => ?_) fun _ _ x => x.elim)⟩
 have hF : ∀ a, Fx (envClo fd.qualname fd.scope L fa fd.closure fd.code) σ.ω a → a ∈ σ.ω.map (·.1) ∨ s.heap.get? a = none := fun a f => by
  rcases f with f | ⟨x, kx, _, f⟩ | f
  ·exact .inr (f ▸ LNone)
  ·exact absurd kx (noC x)
  ·exact .inl f
 exact fn_end S S₁ E₁ rfl LNone hF hq)
noncomputable def tabO (vs : Array Value) : Obj := { cls := .none, data := .fields vs }
inductive TabI (pos : Pos) (q : Str) (b h : Heap) (a : Addr) : Prop
 | none (g : h.get? a = some (tabO #[]))
 | one (c' : Addr) (g : h.get? a = some (tabO #[rawInt pos.line, rawInt pos.col, .ref c'])) (r : b.CodeRec (.ref c') q)
theorem tabI_by (pos : Pos) (q : Str) : ByObj (TabI pos q) := fun b b' h h' a x hb hh => by
 cases x with
 | none g => exact .none (hh _ g)
 | one c' g r => exact .one c' (hh _ g) (codeRec_mono r hb)
structure TabK (K : Frag) (c Pl bm : Addr) : Prop where
 code : ∃ od osl vs file tf flags tg inF text tt, K.lookup c = some ⟨.type "code", od, .fields vs, osl⟩ ∧ vs[11]? = some (.ref Pl) ∧ vs.getD 11 .none = .ref Pl ∧ vs.getD 18 .none = .str file tf ∧ vs.getD 7 .none = .int flags tg ∧ vs.getD 9 .none = .bool inF ∧ vs.getD 10 .none = .int text tt
 ne : c ≠ Pl
 bns : nsIn K mainGlobals "__builtins__" = some (some (.ref bm))
 bmo : ∃ sl, K.lookup bm = some ⟨.type "module", some builtinsNs, .plain, sl⟩
 bne : bm ≠ builtinsNs
noncomputable def mkFd (nm q : Str) (args : Arguments) (body : List Stmt) (scope : Scope) (cl : List (Str × Addr)) (ct cd pm : Value) : FuncData :=
 { name := nm, qualname := q, params := args, body := .stmts body, scope, globals := mainGlobals, closure := cl, closureTuple := ct, code := cd, builtins := builtinsNs, defaults := .none, kwdefaults := .none, pyModule := pm }
theorem Upd.same {a : Addr} {c : C} : ∀ {ω : Om}, (a, c) ∈ ω → Upd a c c ω ω
 | _ :: _, .head _ => .head
 | _ :: _, .tail _ h => .tail (Upd.same h)
theorem mkFd_ok {nm q : Str} {args : Arguments} {body : List Stmt} {scope : Scope} {cl : List (Str × Addr)} {fd : FuncData} (h : ∃ ct cd pm, fd = mkFd nm q args body scope cl ct cd pm) (h1 : scope.isCoroutine = false) (h2 : scope.isGenerator = false) (h3 : scope.kind = .function) (h4 : (scope.names.all fun p => p.2 != .cell) = true) :
  CloOk fd q body scope := by obtain ⟨ct, cd, pm, rfl⟩ := h; exact ⟨rfl, rfl, rfl, rfl, rfl, h1, h2, h3, h4⟩
theorem mkFd_cl {nm q : Str} {args : Arguments} {body : List Stmt} {scope : Scope} {cl : List (Str × Addr)} {fd : FuncData} (h : ∃ ct cd pm, fd = mkFd nm q args body scope cl ct cd pm) : fd.closure = cl := by obtain ⟨ct, cd, pm, rfl⟩ := h; rfl
theorem mkFd_binds {nm q : Str} {args : Arguments} {body : List Stmt} {scope : Scope} {cl : List (Str × Addr)} {fd : FuncData} {as : Args} {bs : List (Str × Value)} (h : ∃ ct cd pm, fd = mkFd nm q args body scope cl ct cd pm) (hb : ∀ ct cd pm, bindArgs (mkFd nm q args body scope cl ct cd pm) as = pure bs) : BindsTo s fd as bs := by
 obtain ⟨ct, cd, pm, rfl⟩ := h; exact .of_eq (hb ct cd pm)
theorem St.growCell (S : St X env σ b s) {a : Addr} {I : Heap → Heap → Addr → Prop} (hm : (a, C.raw I) ∈ σ.ω) (hI : ByObj I) {h' b' : Heap} {tk : Nat} (hx : Heap.ExtBut a s.heap h') (ha : ∃ o, h'.get? a = some o) (hz : s.heap.objs.size ≤ h'.objs.size)
  (hbb : Le b b') (hin : Le b' h') (hnew : ∀ a o, b'.get? a = some o → (∃ o', b.get? a = some o') ∨ s.heap.get? a = none) (hc : I b' h' a) :
  St X env σ b' { s with heap := h', toks := tk } ∧ Evo X env σ σ s b { s with heap := h', toks := tk } b' := by
 obtain ⟨o₀, ho₀⟩ := (S.hp.cell _ hm).live
 obtain ⟨o₁, ho₁⟩ := ha
 have hb : b.get? a = none := S.hp.out _ hm
 have hba : ∀ x o, b'.get? x = some o → x ≠ a := fun x o e z => by
  subst z
  rcases hnew _ o e with ⟨o', q⟩ | q
  ·rw [hb] at q; exact nso q
  ·rw [ho₀] at q; exact sno q
 have nf : o₀.isFreed = false := (Heap.get?_some_iff.mp ho₀).2
 have g₁ : (h'.update a fun _ => o₀).get? a = some o₀ := Heap.get?_update_self (h := h') (fun _ => o₀) ho₁ nf
 have sb : Heap.SameBut a h' (h'.update a fun _ => o₀) := Heap.SameBut.update ..
 have hle : Le s.heap (h'.update a fun _ => o₀) := fun x o e => by
  by_cases z : x = a
  ·subst z; rw [ho₀] at e; obtain rfl := Option.some.inj e; exact g₁
  ·exact (sb.2 x z).trans (hx x o z e)
 obtain ⟨S₁, E₁⟩ := S.extend (h' := h'.update a fun _ => o₀) (b' := b') (tk := tk) hle hbb (fun x o e => (sb.2 x (hba x o e)).trans (hin x o e)) hnew
 obtain ⟨S₂, E₂⟩ := S₁.setCell (c' := .raw I) (Upd.same hm) (h' := h') ⟨sb.1.symm, fun x z => (sb.2 x z).symm⟩ ⟨hI, ⟨_, ho₁⟩, hc⟩ tk
 exact ⟨S₂, E₁.trans E₂⟩
theorem ex_def {nm q : Str} {args : Arguments} {body : List Stmt} {scope : Scope} {pos : Pos} {c Pl bm : Addr} (hcode : env.code = .ref c) (hK : TabK X.K c Pl bm) (hPl : (Pl, C.raw (TabI pos q)) ∈ σ.ω)
  (hq : qualnameIn env nm nm = q) (hloc : isLoc env nm = true) (hdoc : docOf body = none) (hkw : args.kwonlyargs = [])
  (hfr : (scope.names.all fun p => p.2 != .free || (env.kindOf p.1 == some .cell || env.kindOf p.1 == some .free)) = true) (hne : (clo env.cells scope.names []).isEmpty = false)
  (hexec : PlainDefTree nm args body scope pos)
  (h : ∀ fa fd, (∃ ct cd pm, fd = mkFd nm q args body scope (clo env.cells scope.names []) ct cd pm) → Q .next ⟨(nm, .raw (.ref fa)) :: σ.ρ, (fa, .raw (FnI fd)) :: σ.ω⟩) :
  Ex X A env σ (.FunctionDef nm args body [] none [] scope none nm pos) Q := fun s b S => by
 refine hide ?_; intro g; obtain ⟨⟨od, osl, vs, file, tf, flags, tg, inF, text, tt, kc, v11, h11, h18, h7, h9, h10⟩, hne', kb, ⟨sl, kbm⟩, hbne⟩ := hK; dsimp only [g]
 show wpAny X.M A (exec _ env) _ _ s
 rw [hexec]
 refine wpAny_bind (wpAny_standAt (wpAny_bind (wpAny_holding ?_)))
 have hcells : ∀ p ∈ scope.names, p.2 = .free → ∃ c, env.cells.lookup p.1 = some c := fun p hp hk => by
  have := List.all_eq_true.mp hfr p hp
  rw [hk] at this
  simp only [bne_self_eq_false, Bool.false_or, Bool.or_eq_true, beq_iff_eq] at this
  exact S.ok.cells p.1 this
 simp only [makeFunction, hkw, List.zip_nil_left, List.filterMap_nil, List.isEmpty_nil, if_true, pure_bind, closureFor_eq hcells, hdoc, hq, S.ok.glob, hne, Bool.false_eq_true, if_false]
 refine wpAny_bind (wpAny_newTextTuple ?_)
 obtain ⟨S₁, E₁⟩ := S.extend (h' := s.heap.push { cls := .type "tuple", data := .seq ((((clo env.cells scope.names []).mergeSort fun a b => decide (a.1.cps.toList ≤ b.1.cps.toList)).map fun x => Value.ref x.2)).toArray }) (b' := b) (tk := s.toks) (le_push _ _) (Le.refl _) (S.hp.le.trans (le_push _ _)) (fun a o e => .inl ⟨o, e⟩)
 generalize hh₁ : s.heap.push { cls := .type "tuple", data := .seq ((((clo env.cells scope.names []).mergeSort fun a b => decide (a.1.cps.toList ≤ b.1.cps.toList)).map fun x => Value.ref x.2)).toArray } = h₁ at S₁ E₁
 generalize hct : Value.ref s.heap.objs.size = ct
 have T₁ := S₁.hp.top
 have kc₁ : h₁.get? c = some ⟨.type "code", od, .fields vs, osl⟩ := S₁.hp.le _ _ (T₁.inK _ _ kc)
 have kb₁ : X.mg "__builtins__" = some (.ref bm) := mg_of T₁.inK T₁.tr.g kb
 have fin : ∀ (cd : Value) (s₂ : Shared) (b₂ : Heap), Evo X env σ σ s b s₂ b₂ → St X env σ b₂ s₂ → b₂.CodeRec cd q →
   wpAny X.M A (do
    let x ← builtinsFor mainGlobals env.builtins
    let y ← nsGet mainGlobals "__name__"
    let z ← (pure Value.none : Sem Value)
    newObj (.type "function") (.func { name := nm, qualname := q, params := args, body := .stmts body, scope, globals := mainGlobals, closure := clo env.cells scope.names [], closureTuple := ct, code := cd, builtins := x, defaults := .none, kwdefaults := .none, annotations := none, pyModule := y.getD .none, doc := z }))
    (fun f s' => wpAny X.M A (do standAt pos; bindName env nm f; pure Flow.next) (PoF X env σ s b Q) Never s') Never s₂ := fun cd s₂ b₂ E₂ S₂ hr => by
  have T₂ := S₂.hp.top
  refine wpAny_bind (wpAny_builtinsFor (T₂.tr.g.keeps S₂.hp.le) kb₁ hbne (S₂.hp.le _ _ (T₂.inK _ _ kbm)) rfl rfl rfl ?_)
  refine wpAny_bind (wpAny_nsGet (T₂.tr.g.keeps S₂.hp.le) ?_)
  refine wpAny_bind (wpAny_pure ?_)
  refine wpAny_newObj_type ?_ (by size_fits)
  obtain ⟨S₃, E₃⟩ := S₂.allocC (fnObj (mkFd nm q args body scope (clo env.cells scope.names []) ct cd ((X.mg "__name__").getD .none))) (.raw (FnI (mkFd nm q args body scope (clo env.cells scope.names []) ct cd ((X.mg "__name__").getD .none))))
   ⟨fnI_by _, ⟨_, Heap.get?_push_size _ rfl⟩, Heap.get?_push_size _ rfl, hr⟩
  refine wpAny_bind (wpAny_standAt (wpAny_bind (wpAny_bindName ?_)))
  exact store_var S₃ (.raw _) hloc fun s' S' E' => wpAny_pure ⟨.next, _, _, (E₂.trans E₃).trans E', S', trivial, h _ _ ⟨_, _, _, rfl⟩⟩
 obtain ⟨hby, -, htab⟩ := S₁.hp.cell _ hPl
 have hPc : c ≠ Pl := hne'
 cases htab with
 | one c' g r =>
  refine wpAny_bind (wpAny_functionCode_hit hcode (P := Pl) (ps := #[rawInt pos.line, rawInt pos.col, .ref c']) ⟨_, vs, file, tf, flags, tg, inF, text, tt, _, kc₁, rfl, h11, h18, h7, h9, h10, g, rfl, ?_, hPc⟩ (c' := .ref c') ?_ (fin _ _ _ E₁ S₁ r))
  ·simp [TriplesOk, rawInt]
  ·simp [codeAmong, rawInt]
 | none g =>
  refine wpAny_bind (wpAny_functionCodeX hcode (P := Pl) (ps := #[]) ⟨_, vs, file, tf, flags, tg, inF, text, tt, _, kc₁, rfl, h11, h18, h7, h9, h10, g, rfl, trivial, hPc⟩ ⟨⟨_, vs, kc₁, rfl, rfl, v11⟩, g⟩ rfl fun c' h₂ tk hx hge hlt hok hrec htb _ => ?_)
  refine hide ?_; intro g; obtain ⟨cr, o, vs', t', ecr, gcr, r1, r2⟩ := hrec; dsimp only [g]
  cases ecr
  have hbh : Le b h₂ := fun x o e => hx x o (fun z => by subst z; have := S₁.hp.out _ hPl; rw [e] at this; exact sno this) (S₁.hp.le x o e)
  obtain ⟨S₂, E₂⟩ := S₁.growCell hPl (tabI_by _ _) (h' := h₂) (b' := grow b h₂ (· == c')) (tk := tk) hx ⟨_, htb.2⟩ (Nat.le_of_lt (Nat.lt_of_le_of_lt hge hlt)) (grow_le hbh) grow_in (fun x o e => by
   rcases grow_new e with z | z
   ·exact .inl z
   ·rw [beq_iff_eq.mp z]
    refine .inr ?_
    cases q : h₁.get? c' with
    | none => rfl
    | some o => exact absurd (Heap.lt_size q) (Nat.not_lt.mpr hge)) (.one c' htb.2 ⟨c', o, vs', t', rfl, grow_get (by simp) gcr, r1, r2⟩)
  exact fin _ _ _ (E₁.trans E₂) S₂ ⟨c', o, vs', t', rfl, grow_get (by simp) gcr, r1, r2⟩
noncomputable def SetC (p : Program) (w : World) (l : List Str) : Heap → Heap → Addr → Prop := fun _ h a => h.SetOf (strKind p w) a (fun k => decide (k ∈ l)) l.length
noncomputable def insS (l : List Str) (k : Str) : List Str := if k ∈ l then l else l ++ [k]
theorem setC_by (p : Program) (w : World) (l : List Str) : ByObj (SetC p w l) := fun b b' h h' a ⟨o, es, ep, t, g, r⟩ _ hh => ⟨o, es, ep, t, hh _ g, r⟩
theorem ol_setC (p : ∀ a, P (.raw (.ref a)) ⟨σ.ρ, (a, .raw (SetC X.prog X.w [])) :: σ.ω⟩) : OpL X A env σ (fun vs => call (.type "set") vs) [] P := fun s b vs S r => by
 obtain rfl := r.i_nil
 refine call_set_0 fun led => ?_
 obtain ⟨S₁, E₁⟩ := S.allocC { cls := .type "set", dict := none, data := .set #[] 0 (.fresh 0 0 led) } (.raw (SetC X.prog X.w []))
  ⟨setC_by _ _ _, ⟨_, Heap.get?_push_size _ rfl⟩, ⟨_, #[], 0, _, Heap.get?_push_size _ rfl, ⟨rfl, rfl, rfl⟩, rfl, fun e he => by simp at he, fun k => by simp, by decide, rfl, rfl⟩⟩
 exact ⟨_, _, _, E₁, S₁, .raw _, p _⟩
theorem op_inset {a : Addr} {k : Str} {l : List Str} (m : (a, C.raw (SetC X.prog X.w l)) ∈ σ.ω) (p : P (.bool (decide (k ∈ l))) σ) : Op X A env σ (compareOp .In) (.str k) (.raw (.ref a)) P := fun s b v w S rx ry => by
 obtain ⟨_, rfl⟩ := rx.i_str; obtain rfl := ry.i_raw
 rename_i tk
 exact wpAny_inSet_of (knd := X.kd) (kdIs k tk) rfl (S.hp.cell _ m).2.2 (Po.tok S (.bool _) p)
theorem op_ninset {a : Addr} {k : Str} {l : List Str} (m : (a, C.raw (SetC X.prog X.w l)) ∈ σ.ω) (p : P (.bool (!decide (k ∈ l))) σ) : Op X A env σ (compareOp .NotIn) (.str k) (.raw (.ref a)) P := fun s b v w S rx ry => by
 obtain ⟨_, rfl⟩ := rx.i_str; obtain rfl := ry.i_raw
 rename_i tk
 exact wpAny_notInSet_of (knd := X.kd) (kdIs k tk) rfl (S.hp.cell _ m).2.2 (Po.tok S (.bool _) p)
theorem isTy_set {a : Addr} {l : List Str} (m : (a, C.raw (SetC X.prog X.w l)) ∈ σ.ω) : IsTy X env σ (.raw (.ref a)) "set" := fun s b v S r => by
 obtain rfl := r.i_raw
 have h : s.heap.SetOf X.kd a _ _ := (S.hp.cell _ m).2.2
 exact ⟨h.typeIs, h.noDict⟩
theorem ol_sadd {a : Addr} {k : Str} {l : List Str} {ω' : Om} (u : Upd a (.raw (SetC X.prog X.w l)) (.raw (SetC X.prog X.w (insS l k))) σ.ω ω') (hz : l.length < 1000) (p : P .none ⟨σ.ρ, ω'⟩) : OpL X A env σ (fun vs => call (.builtin "set.add") vs) [.raw (.ref a), .str k] P := fun s b vs S r => by
 replace r := r.i_two; obtain ⟨_, _, rfl, r, r'⟩ := r
 obtain rfl := r.i_raw
 obtain ⟨_, rfl⟩ := r'.i_str
 rename_i tk
 have h : s.heap.SetOf X.kd a _ _ := (S.hp.cell _ u.mem).2.2
 refine call_set_add (knd := X.kd) (kdIs k tk) rfl h (Nat.lt_of_lt_of_le (Nat.succ_lt_succ hz) (by decide)) fun h' sb hS' => ?_
 obtain ⟨o, ho⟩ := hS'
 have hS' : h'.SetOf X.kd a (fun x => decide (x ∈ insS l k)) (insS l k).length := by
  obtain ⟨es, ep, t, g, ex, d, el, mem, r⟩ := ho
  refine ⟨o, es, ep, t, g, ex, d, el, fun x => ?_, r.1, r.2.1, ?_⟩
  ·rw [← mem x]
   unfold insS
   by_cases hk : k ∈ l
   ·rw [if_pos hk]
    by_cases hx : x = k
    ·subst hx; simp [hk]
    ·simp [hx]
   ·rw [if_neg hk]; simp
  ·rw [r.2.2]
   unfold insS
   by_cases hk : k ∈ l
   ·rw [if_pos hk, if_pos (by simpa using hk)]
   ·rw [if_neg hk, if_neg (by simpa using hk)]; simp
 obtain ⟨o, es, ep, t, g, r⟩ := id hS'
 obtain ⟨S₁, E₁⟩ := S.setCell u sb ⟨setC_by _ _ _, ⟨o, g⟩, hS'⟩ (s.toks + 1)
 exact ⟨_, _, _, E₁, S₁, .none, p⟩
theorem RpAll.set {b : Heap} {v : Value} {d : D} (rv : Rp X b v d) {vs : List Value} {ds : List D} (k : Nat) (q : RpAll X b vs ds) : RpAll X b (vs.set k v) (ds.set k d) := by
 induction q using RpAll.ind generalizing k with
 | nil => exact .nil
 | cons r q ih =>
  cases k with
  | zero => exact .cons rv q
  | succ k => exact .cons r (ih k)
theorem setItem_seq {l : Addr} {items : Array Value} {n : Nat} {k : Int} {t : Tok} {v : Value} {QQ : Unit → Shared → Prop} (ho : s.heap.get? l = some (seqObj "list" items n)) (h0 : 0 ≤ k) (hfit : k < 2 ^ 63) (hn : k < items.size)
  (hQ : ∀ h' n', h'.get? l = some (seqObj "list" (items.setIfInBounds k.toNat v) n') → Heap.SameBut l s.heap h' → QQ () { s with heap := h' }) :
  wpAny X.M A (setItem (.ref l) (.int k t) v) QQ E s := by
 have hT : s.TypeIs (.ref l) "list" := ⟨_, ho, rfl⟩
 obtain ⟨n', hfin⟩ : ∃ n', (s.heap.update l (Obj.mapSeq (·.setIfInBounds k.toNat v))).get? l = some (seqObj "list" (items.setIfInBounds k.toNat v) n') := ⟨_, Heap.get?_update_self (Obj.mapSeq (·.setIfInBounds k.toNat v)) ho rfl⟩
 unfold setItem
 refine wpAny_holding ?_
 refine wpAny_bind (wpAny_sequenceKey hT (by decide) ?_)
 refine wpAny_bind (wpAny_callSpecial?_slot (name := Str.ofString "__setitem__") hT slot_list_setitem (wpAny_call_entry slot_list_setitem hT entry_list_setitem ?_ (args_list_setitem _ _ _)))
 show wpAny _ _ (Builtin.List.listSubscript? (.int k t) >>= _) _ _ s
 refine wpAny_bind (wpAny_listSubscript_int (fitsIndex_of h0 hfit) ?_)
 clear hfit
 obtain ⟨j, rfl⟩ := Int.eq_ofNat_of_zero_le h0
 have hj : j < items.size := by lia
 show wpAny _ _ ((seqItemAt l j >>= fun r => pure (r.map (j, ·))) >>= _) _ _ s
 refine wpAny_bind (wpAny_bind (wpAny_seqItemAt ho rfl (wpAny_pure ?_)))
 rw [Array.getElem?_eq_getElem hj]
 show wpAny _ _ (setSeqItemAt l j v >>= _) _ _ s
 refine wpAny_bind (wpAny_setSeqItemAt ho rfl ?_)
 first
  | exact wpAny_bind (wpAny_pure (wpAny_pure ⟨.none, rfl, wpAny_pure (hQ _ _ hfin (Heap.SameBut.update ..))⟩))
  | exact wpAny_pure ⟨.none, rfl, wpAny_pure (hQ _ _ hfin (Heap.SameBut.update ..))⟩
inductive QLs3 (v d : D) (Q : Fl → Sg → Prop) (k : D) (σ₃ : Sg) : Prop
 | mk (a : Addr) (j : Nat) (ds : List D) (ω' : Om) (e : d = .raw (.ref a)) (e2 : k = .int (j : Nat)) (hj : j < ds.length) (hz : j < 1000) (u : Upd a (.lst ds) (.lst (ds.set j v)) σ₃.ω ω') (p : Q .next ⟨σ₃.ρ, ω'⟩)
noncomputable abbrev QLs2 (X : Cx) (A : Around) (env : Env) (i : Expr) (v : D) (Q : Fl → Sg → Prop) : D → Sg → Prop := fun d σ₂ => Ev X A env σ₂ i (QLs3 v d Q)
noncomputable abbrev QLs (X : Cx) (A : Around) (env : Env) (o i : Expr) (Q : Fl → Sg → Prop) : D → Sg → Prop := fun v σ₁ => Ev X A env σ₁ o (QLs2 X A env i v Q)
theorem ex_lset {o i value : Expr} {pos' pos : Pos} (h : Ev X A env σ value (QLs X A env o i Q))
  (hs : swapsWith value (some (.Subscript o i pos')) pos.line env = pure false) : Ex X A env σ (.Assign [.Subscript o i pos'] value pos) Q := fun s b S => by
 refine wpAny_Assign_Subscript (wpAny_mono (h s b S) ?_ fun _ _ x => x) hs
 rintro v s₁ ⟨dv, σ₁, b₁, E₁, S₁, r₁, h₁⟩
 refine wpAny_mono (h₁ s₁ b₁ S₁) ?_ fun _ _ x => x
 rintro ov s₂ ⟨d, σ₂, b₂, E₂, S₂, r₂, h₂⟩
 refine wpAny_mono (h₂ s₂ b₂ S₂) ?_ fun _ _ x => x
 rintro iv s₃ ⟨k, σ₃, b₃, E₃, S₃, r₃, a, j, ds, ω', rfl, rfl, hj, hz, u, p⟩
 obtain rfl := r₂.i_raw
 obtain ⟨_, rfl⟩ := r₃.i_int
 obtain ⟨vs, n, g, ra⟩ := S₃.hp.cell _ u.mem
 have e : vs.size = ds.length := by rw [← ra.length, Array.length_toList]
 refine setItem_seq g (Int.natCast_nonneg j) (Int.lt_of_lt_of_le (Int.ofNat_lt.mpr hz) (by decide)) (by lia) fun h' n' hl hs => ?_
 have rv : Rp X b₃ v dv := (r₁.mono E₂.ext.le).mono E₃.ext.le
 obtain ⟨S₄, E₄⟩ := S₃.setCell (h' := h') u hs ⟨_, _, hl, by rw [Array.toList_setIfInBounds]; exact ra.set rv j⟩ s₃.toks
 exact ⟨.next, _, b₃, ((E₁.trans E₂).trans E₃).trans E₄, S₄, trivial, p⟩
end
section
variable {X : Cx} {A : Around} {env : Env} {σ : Sg} {P : D → Sg → Prop} {Q : Fl → Sg → Prop}
noncomputable def Ret (X : Cx) (ω : Om) (fz : List Addr) (d d' : D) : Prop := ∀ (h b b' : Heap), (∀ p ∈ ω, CellAt X b h p.1 p.2) → Le b b' → (∀ a ∈ fz, ∀ o, h.get? a = some o → b'.get? a = some o) → ∀ v, Rp X b v d → Rp X b' v d'
inductive RetAll (X : Cx) (ω : Om) (fz : List Addr) : List D → List D → Prop
 | nil : RetAll X ω fz [] []
 | cons {d d' r r'} : Ret X ω fz d d' → RetAll X ω fz r r' → RetAll X ω fz (d :: r) (d' :: r')
inductive RetKv (X : Cx) (ω : Om) (fz : List Addr) : List (Str × D) → List (Str × D) → Prop
 | nil : RetKv X ω fz [] []
 | cons {k d d' r r'} : Ret X ω fz d d' → RetKv X ω fz r r' → RetKv X ω fz ((k, d) :: r) ((k, d') :: r')
variable {ω : Om} {fz : List Addr}
theorem Ret.same (d : D) : Ret X ω fz d d := fun h b b' hc hb hf v r => r.mono hb
theorem RetAll.same : ∀ ds : List D, RetAll X ω fz ds ds
 | [] => .nil
 | d :: r => .cons (.same d) (RetAll.same r)
theorem RetKv.same : ∀ ds : List (Str × D), RetKv X ω fz ds ds
 | [] => .nil
 | (k, d) :: r => .cons (.same d) (RetKv.same r)
theorem RetAll.rp {ds ds' : List D} (x : RetAll X ω fz ds ds') {h b b' : Heap} (hc : ∀ p ∈ ω, CellAt X b h p.1 p.2) (hb : Le b b') (hf : ∀ a ∈ fz, ∀ o, h.get? a = some o → b'.get? a = some o) : ∀ {vs : List Value}, RpAll X b vs ds → RpAll X b' vs ds' := by
 induction x with
 | nil => intro vs r; obtain rfl := r.i_nil; exact .nil
 | cons x _ ih => intro vs r; cases r with | cons r q => exact .cons (x h b b' hc hb hf _ r) (ih q)
theorem RetKv.rp {ds ds' : List (Str × D)} (x : RetKv X ω fz ds ds') {h b b' : Heap} (hc : ∀ p ∈ ω, CellAt X b h p.1 p.2) (hb : Le b b') (hf : ∀ a ∈ fz, ∀ o, h.get? a = some o → b'.get? a = some o) : ∀ {vs : List (Str × Value)}, RpKv X b vs ds → RpKv X b' vs ds' := by
 induction x with
 | nil => intro vs r; obtain rfl := r.i_nil; exact .nil
 | cons x _ ih => intro vs r; cases r with | cons r q => exact .cons (x h b b' hc hb hf _ r) (ih q)
theorem Ret.lst {a : Addr} {ds ds' : List D} (hm : (a, C.lst ds) ∈ ω) (ha : a ∈ fz) (x : RetAll X ω fz ds ds') : Ret X ω fz (.raw (.ref a)) (.list ds') := fun h b b' hc hb hf v r => by
 obtain rfl := r.i_raw
 obtain ⟨vs, n, g, ra⟩ := hc _ hm
 exact .list (hf a ha _ g) (x.rp hc hb hf ra)
theorem Ret.dct {a : Addr} {ds ds' : List (Str × D)} (hm : (a, C.dct ds) ∈ ω) (ha : a ∈ fz) (x : RetKv X ω fz ds ds') : Ret X ω fz (.raw (.ref a)) (.dct ds') := fun h b b' hc hb hf v r => by
 obtain rfl := r.i_raw
 obtain ⟨n, kvs, ep, g, ra⟩ := hc _ hm
 exact .dct n (g.at' fun o e => hf a ha o e) (x.rp hc hb hf ra)
theorem Ret.inst {c d : Addr} {ds ds' : List (Str × D)} (hm : (d, C.dct ds) ∈ ω) (ha : d ∈ fz) (x : RetKv X ω fz ds ds') : Ret X ω fz (.obj c d) (.inst c ds') := fun h b b' hc hb hf v r => by
 obtain ⟨_, rfl, g0⟩ := r.i_obj
 obtain ⟨n, kvs, ep, g, ra⟩ := hc _ hm
 exact .inst (hb _ _ g0) n (g.at' fun o e => hf d ha o e) (x.rp hc hb hf ra)
noncomputable def RetC (X : Cx) (ω : Om) (fz : List Addr) : C → C → Prop
 | .lst ds, .lst ds' => RetAll X ω fz ds ds'
 | .dct ds, .dct ds' => RetKv X ω fz ds ds'
 | .raw I, .raw J => I = J
 | _, _ => False
theorem RetC.cell {c c' : C} (x : RetC X ω fz c c') {a : Addr} {h b b' : Heap} (hc : ∀ p ∈ ω, CellAt X b h p.1 p.2) (hb : Le b b') (hf : ∀ a ∈ fz, ∀ o, h.get? a = some o → b'.get? a = some o) (z : CellAt X b h a c) : CellAt X b' h a c' := by
 cases c with
 | lst ds => cases c' with
  | lst ds' => obtain ⟨vs, n, g, ra⟩ := z; exact ⟨vs, n, g, RetAll.rp x hc hb hf ra⟩
  | _ => exact x.elim
 | dct ds => cases c' with
  | dct ds' => obtain ⟨n, kvs, ep, g, ra⟩ := z; exact ⟨n, kvs, ep, g, RetKv.rp x hc hb hf ra⟩
  | _ => exact x.elim
 | raw I => cases c' with
  | raw J => cases x; exact ⟨z.1, z.2.1, z.1 _ _ _ _ _ z.2.2 hb fun _ e => e⟩
  | _ => exact x.elim
theorem St.refreeze {ρ ρ' : List (Str × D)} {ω ω' : Om} {s : Shared} {b : Heap} (S : St X env ⟨ρ, ω⟩ b s) (fz : List Addr) (hfz : ∀ a ∈ fz, a ∈ ω.map (·.1)) (hω : ∀ p ∈ ω', p.1 ∉ fz ∧ ∃ c, (p.1, c) ∈ ω ∧ RetC X ω fz c p.2) (hn : (ω'.map (·.1)).Nodup)
  (hρ : ∀ x d', ρ'.lookup x = some d' → ∃ d, ρ.lookup x = some d ∧ Ret X ω fz d d') :
  ∃ b', Le b b' ∧ St X env ⟨ρ', ω'⟩ b' s ∧ Evo X env ⟨ρ, ω⟩ ⟨ρ', ω'⟩ s b s b' ∧ (∀ a ∈ fz, ∀ o, s.heap.get? a = some o → b'.get? a = some o) := by
 have hle : Le b (grow b s.heap (fun a => fz.contains a)) := grow_le S.hp.le
 have hg : ∀ a ∈ fz, ∀ o, s.heap.get? a = some o → (grow b s.heap (fun a => fz.contains a)).get? a = some o := fun a ha o e => grow_get (by simpa using ha) e
 have hnone : ∀ x, x ∉ fz → b.get? x = none → (grow b s.heap (fun a => fz.contains a)).get? x = none := fun x hx e => grow_none (by simpa using hx) e
 have hmem : ∀ x, x ∈ ω'.map (·.1) → x ∈ ω.map (·.1) := fun x hx => by
  obtain ⟨p, hp, rfl⟩ := List.mem_map.mp hx
  obtain ⟨_, c, hc, _⟩ := hω p hp
  exact List.mem_map_of_mem (f := (·.1)) hc
 refine ⟨_, hle, ⟨S.ok, ⟨grow_in, fun p hp => ?_, fun p hp => ?_, hn, S.hp.top.mono hle⟩, ?_, ?_, S.fr.mono (fun x o z l e => hnone x (fun w => z (hfz x w)) e) (fun x o l z w => z (hmem x w)) (fun x o es ep _ _ e q => ⟨o, es, ep, e, q⟩)⟩, ?_, hg⟩
 ·obtain ⟨_, c, hc, hr⟩ := hω p hp
  exact hr.cell S.hp.cell hle hg (S.hp.cell _ hc)
 ·obtain ⟨h1, c, hc, hr⟩ := hω p hp
  exact hnone _ h1 (S.hp.out (p.1, c) hc)
 ·obtain ⟨⟨m, hm, hv'⟩, cl, cx⟩ := S.fm
  refine ⟨⟨m, hm, fun x d k e => ?_⟩, fun x d k e => ?_, cx⟩
  ·obtain ⟨d₀, e', r⟩ := hρ x d e
   obtain ⟨v, h1, h2⟩ := hv' x d₀ k e'; exact ⟨v, h1, r _ _ _ S.hp.cell hle hg v h2⟩
  ·obtain ⟨d₀, e', r⟩ := hρ x d e
   obtain ⟨c, v, h1, h2, h3⟩ := cl x d₀ k e'; exact ⟨c, v, h1, h2, r _ _ _ S.hp.cell hle hg v h3⟩
 ·refine ⟨hnone _ (fun z => S.fa.lw (hfz _ z)) S.fa.lb, fun h => S.fa.lw (hmem _ h), fun x c e => hnone _ (fun z => S.fa.cw x c e (hfz _ z)) (S.fa.cb x c e), fun x c e h => S.fa.cw x c e (hmem _ h), S.fa.cl, S.fa.inj⟩
 ·refine ⟨⟨fun _ _ _ e => kept e, hle, fun x o e => ?_, fun x o e => ⟨o, e⟩, rfl, rfl⟩, fun x h => .inl (hmem x h)⟩
  rcases grow_new e with q | q
  ·exact .inl q
  ·exact .inr (.inr (.inr (.inr (hfz _ (by simpa using q)))))
theorem trF_refreeze {t : Sem Flow} {ρ ρ' : List (Str × D)} {ω ω' : Om} (fz : List Addr) (hfz : ∀ a ∈ fz, a ∈ ω.map (·.1)) (hω : (ω.map (·.1)).Nodup → (∀ p ∈ ω', p.1 ∉ fz ∧ ∃ c, (p.1, c) ∈ ω ∧ RetC X ω fz c p.2) ∧ (ω'.map (·.1)).Nodup)
  (hρ : ∀ x d', ρ'.lookup x = some d' → ∃ d, ρ.lookup x = some d ∧ Ret X ω fz d d') (h : TrF X A env ⟨ρ', ω'⟩ t Q) : TrF X A env ⟨ρ, ω⟩ t Q := fun s b S => by
 refine hide ?_; intro g; obtain ⟨b₂, l₂, S₂, E₂, _⟩ := S.refreeze (ρ' := ρ') fz hfz (hω S.hp.nod).1 (hω S.hp.nod).2 hρ; dsimp only [g]
 exact wpAny_mono (h s b₂ S₂) (fun f s' q => q.after E₂) (fun _ _ x => x)
theorem tr_refreeze {t : Sem Value} (h : Tr X A env σ t (fun d σ₁ => ∃ fz d' ω', (∀ a ∈ fz, a ∈ σ₁.ω.map (·.1)) ∧ ((σ₁.ω.map (·.1)).Nodup → (∀ p ∈ ω', p.1 ∉ fz ∧ ∃ c, (p.1, c) ∈ σ₁.ω ∧ RetC X σ₁.ω fz c p.2) ∧ (ω'.map (·.1)).Nodup) ∧ Ret X σ₁.ω fz d d' ∧ P d' ⟨σ₁.ρ, ω'⟩)) : Tr X A env σ t P := fun s b S => by
 refine wpAny_mono (h s b S) ?_ (fun _ _ x => x)
 rintro v s₁ ⟨d, ⟨ρ₁, ω₁⟩, b₁, E₁, S₁, r₁, fz, d', ω', hfz, hω, hr, p⟩
 obtain ⟨b₂, l₂, S₂, E₂, g₂⟩ := S₁.refreeze (ρ' := ρ₁) fz hfz (hω S₁.hp.nod).1 (hω S₁.hp.nod).2 (fun x d e => ⟨d, e, .same d⟩)
 exact ⟨d', _, b₂, E₁.trans E₂, S₂, hr _ _ _ S₁.hp.cell l₂ g₂ v r₁, p⟩
theorem cell_new {s : Shared} {b : Heap} (S : St X env σ b s) : CellAt X b (s.heap.push emptyDict) s.heap.objs.size (.dct []) := by
 refine ⟨?_, [], 0, ⟨_, #[], Heap.get?_push_size _ rfl, ⟨rfl, rfl, rfl⟩, rfl, ?_, .nil, .nil⟩, .nil⟩
 ·have h1 : sysModules < s.heap.objs.size := by
   obtain ⟨o, _, _, e, _⟩ := S.hp.top.tr.g
   exact Nat.lt_of_le_of_lt (by decide) (Heap.lt_size (S.hp.le _ _ e))
  simpa using fun e : s.heap.objs.size = sysModules => absurd h1 (by rw [e]; exact Nat.lt_irrefl _)
 ·intro e he; simp at he
end
section
variable {X : Cx} {A : Around} {env : Env} {σ : Sg} {P : D → Sg → Prop} {Q : Fl → Sg → Prop}
theorem ev_dictC {pos : Pos} (h : ∀ a, P (.raw (.ref a)) ⟨σ.ρ, (a, .dct []) :: σ.ω⟩) : Ev X A env σ (.Dict [] [] pos) P := fun s b S => by
 obtain ⟨S₂, E₂⟩ := S.allocC emptyDict (.dct []) (cell_new S)
 exact wpAny_Dict_empty ⟨_, _, b, E₂, S₂, .raw _, h _⟩
theorem ev_dict0 {pos : Pos} (h : P (.dct []) σ) : Ev X A env σ (.Dict [] [] pos) P := fun s b S => by
 obtain ⟨n, kvs, ep, g, r⟩ := cell_new S
 obtain ⟨b₂, l₂, g₂, S₂, E₂⟩ := S.allocD emptyDict
 obtain rfl := r.i_nil
 refine wpAny_Dict_empty ⟨_, _, b₂, E₂, S₂, .dct (ep := 0) n ?_ .nil, h⟩
 exact ⟨_, #[], g₂, ⟨rfl, rfl, rfl⟩, rfl, fun e he => by simp at he, .nil, .nil⟩
open PySem PySem.W PySem.Calls PyProof.Rows Builtin Builtin.ObjectAttr
theorem isStr_eq (v : Value) (n : Str) : v.isStr n = Value.isStrOf n v := by cases v <;> rfl
theorem noRefKeys {es : Array DictEntry} (hk : PySem.KeysOf X.kd es) : es.toList.any (·.refKey) = false := by
 rw [List.any_eq_false]
 intro e he
 refine hide ?_; intro g; obtain ⟨k, h1, _⟩ := hk e (by simpa using he); dsimp only [g]
 obtain ⟨t, ht⟩ := Value.isStrOf_shape h1
 unfold DictEntry.refKey
 rw [ht]; simp
theorem lookIn_dict {h : Heap} {a : Addr} {kvs : List (Str × Value)} {ep : Nat} (g : h.DictAt X.kd a kvs ep) (name : Str) : ∃ o, h.get? a = some o ∧ lookIn name o = some (kvs.lookup name) := by
 obtain ⟨o, es, ho, hx, hd, hk, hp, hn⟩ := g
 refine ⟨o, ho, ?_⟩
 have hf := hp.find name
 rw [valueAt_lookup (V := Value)] at hf
 unfold lookIn
 rw [hd]
 dsimp only
 have e : (es.toList.find? fun e => e.key.isStr name) = es.toList.find? fun e => X.kd.is name e.key := by
  congr 1; funext e; exact isStr_eq _ _
 rw [e, ← hf]
 cases q : es.toList.find? (fun e => X.kd.is name e.key) with
 | some e => rfl
 | none => dsimp only [Option.map_none]; rw [noRefKeys hk]; rfl
theorem putName_dict {h : Heap} {a : Addr} {kvs : List (Str × Value)} {ep : Nat} (g : h.DictAt X.kd a kvs ep) (name : Str) (tk : Tok) (v : Value) (hz : kvs.length < sizeLine) :
  ∃ o es' ep', h.get? a = some o ∧ lookIn name o = some (kvs.lookup name) ∧ (h.update a (Obj.putName name (PyData.keyHash X.w.params name) (.str name tk) v)).DictAt X.kd a (stored kvs name v) ep' ∧
   (h.update a (Obj.putName name (PyData.keyHash X.w.params name) (.str name tk) v)).get? a = some (Obj.putName name (PyData.keyHash X.w.params name) (.str name tk) v o) ∧
   (Obj.putName name (PyData.keyHash X.w.params name) (.str name tk) v o).data = .dict es' ep' ∧ es'.size ≤ sizeLine := by
 obtain ⟨o, ho, hl⟩ := lookIn_dict g name
 obtain ⟨o', es, ho', hx, hd, hk, hp, hn⟩ := g
 rw [ho] at ho'; obtain rfl := Option.some.inj ho'
 have hidx : (es.findIdx? fun e => X.kd.is name e.key) = kvs.findIdx? fun kv => decide (kv.1 = name) := by
  rw [← hp.findIdx name]; obtain ⟨l⟩ := es; simp
 have eqf : (es.findIdx? fun e => e.key.isStr name) = es.findIdx? fun e => X.kd.is name e.key := by
  congr 1; funext e; exact isStr_eq _ _
 have hkey : X.kd.is name (.str name tk) = true := kdIs name tk
 have hes : es.size = kvs.length := by rw [← hp.length]; simp
 refine hide ?_; intro g; obtain ⟨oc, od, oda, osl⟩ := o; dsimp only [g]
 dsimp only at hd
 subst hd
 have eput : Obj.putName name (PyData.keyHash X.w.params name) (.str name tk) v ⟨oc, od, .dict es ep, osl⟩ =
   (match es.findIdx? (·.key.isStr name) with
   | some i => ⟨oc, od, .dict (es.modify i fun e => { e with val := v }) ep, osl⟩
   | none => ⟨oc, od, .dict (es.push ⟨PyData.keyHash X.w.params name, .str name tk, v⟩) (ep + 1), osl⟩) := by
  rw [Obj.putName_eq]; rfl
 cases hi : es.findIdx? fun e => X.kd.is name e.key with
 | some i =>
  rw [eqf, hi] at eput
  dsimp only at eput
  have hget := Heap.get?_update_self (f := Obj.putName name (PyData.keyHash X.w.params name) (.str name tk) v) ho (by rw [eput]; rfl)
  refine ⟨_, _, ep, ho, hl, ⟨_, _, hget, ?_, by rw [eput], hk.modify i _, ?_, ?_⟩, hget, by rw [eput], ?_⟩
  ·rw [eput]; exact hx
  ·rw [stored, if_pos (any_of_findIdx_some (hidx ▸ hi))]
   have hl : (es.toList.findIdx? fun e => X.kd.is name e.key) = some i := by rw [← hi]; obtain ⟨l⟩ := es; simp
   have := hp.modify hn hl v
   obtain ⟨l⟩ := es
   simpa using this
  ·rw [stored, if_pos (any_of_findIdx_some (hidx ▸ hi)), keys_map_store]; exact hn
  ·simp; exact Nat.le_trans (Nat.le_of_eq hes) (Nat.le_of_lt hz)
 | none =>
  rw [eqf, hi] at eput
  dsimp only at eput
  have hnot : name ∉ kvs.map (·.1) := not_mem_of_findIdx_none (hidx ▸ hi)
  have hany : ¬ (kvs.any fun kv => decide (kv.1 = name)) = true := by
   rw [List.any_eq_true]; rintro ⟨kv, hkv, he⟩
   exact hnot (List.mem_map.mpr ⟨kv, hkv, of_decide_eq_true he⟩)
  have hget := Heap.get?_update_self (f := Obj.putName name (PyData.keyHash X.w.params name) (.str name tk) v) ho (by rw [eput]; rfl)
  refine ⟨_, _, ep + 1, ho, hl, ⟨_, _, hget, ?_, by rw [eput]; rfl, hk.push hkey v, ?_, ?_⟩, hget, by rw [eput], ?_⟩
  ·rw [eput]; exact hx
  ·rw [stored, if_neg hany]
   have := hp.append hkey (X.kd.hash name) v
   obtain ⟨l⟩ := es
   simpa using this
  ·rw [stored, if_neg hany, List.map_append, List.nodup_append]
   refine ⟨hn, by simp, ?_⟩
   intro a ha b hb
   simp only [List.map_cons, List.map_nil, List.mem_singleton] at hb
   subst hb
   exact fun e => hnot (e ▸ ha)
  ·simp; exact Nat.lt_of_le_of_lt (Nat.le_of_eq hes) hz
noncomputable def Own (X : Cx) (σ : Sg) (d : D) (c : Addr) (kds : List (Str × D)) : Prop := d = .inst c kds ∨ ∃ a, d = .obj c a ∧ (a, C.dct kds) ∈ σ.ω
theorem Own.data {c : Addr} {kds : List (Str × D)} : Own X σ (.inst c kds) c kds := .inl rfl
theorem Own.cell {c a : Addr} {kds : List (Str × D)} (h : (a, C.dct kds) ∈ σ.ω) : Own X σ (.obj c a) c kds := .inr ⟨a, rfl, h⟩
theorem Own.at {s : Shared} {b : Heap} {d : D} {c : Addr} {kds : List (Str × D)} (l : Own X σ d c kds) (S : St X env σ b s) {v : Value} (r : Rp X b v d) :
  ∃ x a kvs ep, v = .ref x ∧ (a == sysModules) = false ∧ s.heap.get? x = some (instObj c a) ∧ s.heap.DictAt X.kd a kvs ep ∧ RpKv X b kvs kds := by
 rcases l with rfl | ⟨a, rfl, h⟩
 ·obtain ⟨_, _, _, _, rfl, g0, n, g, ra⟩ := r.i_inst
  ·exact ⟨_, _, _, _, rfl, n, S.hp.le _ _ g0, g.keep S.hp.le, ra⟩
 ·obtain ⟨_, rfl, g0⟩ := r.i_obj
  obtain ⟨n, kvs, ep, g, ra⟩ := S.hp.cell _ h
  exact ⟨_, a, kvs, ep, rfl, n, S.hp.le _ _ g0, g, ra⟩
noncomputable def readsPlain (K : Frag) (c : Addr) (name : Str) : Bool := findIn K (.ref c) "__getattribute__" == some (some (.builtin "object.__getattribute__")) && findIn K (.ref c) name == some none && (clsIn K c).any (·.hasDict)
noncomputable def handedD : D → Bool
 | .raw v => handedIn v
 | _ => true
theorem handed_of {b : Heap} {v : Value} {d : D} (r : Rp X b v d) (h : handedD d = true) : handedIn v = true := by
 cases r <;> first | rfl | exact h
inductive QAttr (X : Cx) (attr : Str) (P : D → Sg → Prop) (d : D) (σ₁ : Sg) : Prop
 | mk (c : Addr) (kds : List (Str × D)) (x : D) (o : Own X σ₁ d c kds) (r : readsPlain X.K c attr = true) (l : kds.lookup attr = some x) (z : handedD x = true) (p : P x σ₁)
theorem ev_attr {value : Expr} {attr : Str} {pos : Pos} (h : Ev X A env σ value (QAttr X attr P))
  (he : eval (.Attribute value attr pos) env = (do
   let o ← eval value env
   standAt pos.atName
   let r ← holding [o] (getAttr o attr true)
   letTemporaryGo value o r
   pure r)) : Ev X A env σ (.Attribute value attr pos) P := fun s b S => by
 refine Attribute_any_ (wpAny_mono (h s b S) ?_ fun _ _ x => x) he
 rintro v s₁ ⟨d, σ₁, b₁, E₁, S₁, r₁, c, kds, x, ow, hp, hl, hh, p⟩
 obtain ⟨a, da, kvs, ep, rfl, n, g0, g, ra⟩ := ow.at S₁ r₁
 obtain ⟨w, hw, rw_⟩ := ra.lookup hl
 obtain ⟨o, ho, hlk⟩ := lookIn_dict g attr
 simp only [readsPlain, Bool.and_eq_true, beq_iff_eq] at hp
 obtain ⟨⟨h1, h2⟩, h3⟩ := hp
 obtain ⟨cd, hc, hd⟩ := any_some h3
 have I : InstAt s₁.heap a (instObj c da) c (some o) := ⟨g0, rfl, rfl, ho⟩
 refine get_value (S₁.hp.top.inK.keeps S₁.hp.le) I h1 (v := w) ?_ (handed_of rw_ hh) ?_
 ·unfold findObj
  rw [hc, h2]
  simp only [Option.bind_some, W.ownOf, hd, if_true, hlk, hw]
 ·exact Po.after E₁ (Po.tok S₁ rw_ p)
noncomputable def storesPlain (K : Frag) (c : Addr) (name : Str) : Bool := findIn K (.ref c) "__setattr__" == some (some (.builtin "object.__setattr__")) && plainOver K c && takerIn K c name == some none && (clsIn K c).any (·.hasDict)
theorem set_attr {s : Shared} {b : Heap} {QQ : Unit → Shared → Prop} {E : Value → Shared → Prop} {x c a : Addr} {name : Str} {v : Value} {d : D} {kds : List (Str × D)} {ω' : Om} (S : St X env σ b s) (g0 : s.heap.get? x = some (instObj c a)) (u : Upd a (.dct kds) (.dct (put kds name d)) σ.ω ω') (r : Rp X b v d)
  (hs : storesPlain X.K c name = true) (hz : kds.length < sizeLine) (h : ∀ s', St X env ⟨σ.ρ, ω'⟩ b s' → Evo X env σ ⟨σ.ρ, ω'⟩ s b s' b → QQ () s') : wpAny X.M A (setAttr (.ref x) name v) QQ E s := by
 simp only [storesPlain, Bool.and_eq_true, beq_iff_eq] at hs
 refine hide ?_; intro g; obtain ⟨⟨⟨h1, h2⟩, h3⟩, h4⟩ := hs; dsimp only [g]
 obtain ⟨cd, hc, hd⟩ := any_some h4
 obtain ⟨n, kvs, ep, g, ra⟩ := S.hp.cell _ u.mem
 have hlen := ra.length
 have XX := S.hp.top.inK.keeps S.hp.le
 obtain ⟨o, es', ep', ho, hlk, hD, hget, hdat, hsz⟩ := putName_dict g name (s.toks + 1) v (by exact Nat.lt_of_le_of_lt (Nat.le_of_eq hlen) hz)
 have I : InstAt s.heap x (instObj c a) c (some o) := ⟨g0, rfl, rfl, ho⟩
 refine set_plain XX I h1 (osa_open (s := { s with toks := s.toks + 1 }) XX I h2 h3 fun bb => ?_)
 refine wpAny_bind (wpAny_pure (wpAny_bind (wpAny_bind (wpAny_loadPart g0 (wpAny_bind (looks_clsIn XX hc _ _ _ _ (fun _ _ e => e) ?_))))))
 rw [hd]
 refine wpAny_pure (a := some a) (wpAny_bind (wpAny_pure (wpAny_bind ?_)))
 unfold nsSet
 refine wpAny_bind (wpAny_bind (wpAny_askSetting (wpAny_pure (wpAny_bind (wpAny_mkText (wpAny_bind (wpAny_loadPart ho ?_)))))))
 have hl : (lookIn name o).isSome = true := by rw [hlk]; rfl
 unfold lookIn at hl
 split at hl
 ·rename_i es₀ n₀ q
  rw [q]
  dsimp only
  have c : (!es₀.any (·.key.isStr name) && es₀.any (·.refKey)) = false := by
   rw [← Array.any_toList, ← Array.any_toList]
   split at hl
   ·rename_i en he
    rw [List.any_eq_true.mpr ⟨en, List.mem_of_find?_eq_some he, List.find?_some he⟩]; rfl
   ·split at hl
    ·exact fet hl
    ·rename_i z; rw [Bool.not_eq_true] at z; rw [z, Bool.and_false]
  rw [aRefKeyMayBeTheName_at, c]
  refine wpAny_updatePart ho ?_
  refine wpAny_bind (wpAny_lookBehind hget (by rw [hdat]; exact pastItsLine_dict (Nat.le_succ_of_le hsz)) ?_)
  obtain ⟨S', E'⟩ := S.setCell (h' := s.heap.update a (Obj.putName name (PyData.keyHash X.w.params name) (.str name (s.toks + 1)) v)) u (Heap.SameBut.update ..) ⟨n, _, ep', hD, ra.put r⟩ (s.toks + 1 + 1)
  exact wpAny_pure (h _ S' E')
 ·exact fet hl
inductive QSet1 (X : Cx) (attr : Str) (v : D) (Q : Fl → Sg → Prop) (d : D) (σ₂ : Sg) : Prop
 | mk (c a : Addr) (kds : List (Str × D)) (ω' : Om) (e : d = .obj c a) (u : Upd a (.dct kds) (.dct (put kds attr v)) σ₂.ω ω') (t : storesPlain X.K c attr = true) (z : kds.length < sizeLine) (p : Q .next ⟨σ₂.ρ, ω'⟩)
noncomputable abbrev QSet (X : Cx) (A : Around) (env : Env) (o : Expr) (attr : Str) (Q : Fl → Sg → Prop) : D → Sg → Prop := fun v σ₁ => Ev X A env σ₁ o (QSet1 X attr v Q)
theorem ex_setattr {o value : Expr} {attr : Str} {pos' pos : Pos}
  (h : Ev X A env σ value (QSet X A env o attr Q))
  (hs : swapsWith value (some (.Attribute o attr pos')) pos.line env = pure false) : Ex X A env σ (.Assign [.Attribute o attr pos'] value pos) Q := fun s b S => by
 refine plainObj_wpAny_Assign_Attribute (wpAny_mono (h s b S) ?_ fun _ _ x => x) hs
 rintro v s₁ ⟨dv, σ₁, b₁, E₁, S₁, r₁, h₁⟩
 refine wpAny_mono (h₁ s₁ b₁ S₁) ?_ fun _ _ x => x
 rintro ov s₂ ⟨d, σ₂, b₂, E₂, S₂, r₂, c, a, kds, ω', rfl, u, hst, hz, p⟩
 obtain ⟨_, rfl, g0⟩ := r₂.i_obj
 exact set_attr S₂ (S₂.hp.le _ _ g0) u (r₁.mono E₂.ext.le) hst hz fun s' S' E' => ⟨.next, _, b₂, (E₁.trans E₂).trans E', S', trivial, p⟩
noncomputable def methPlain (K : Frag) (c : Addr) (name : Str) (fa : Addr) : Bool :=
 findIn K (.ref c) "__getattribute__" == some (some (.builtin "object.__getattribute__")) && findIn K (.ref c) "__getattr__" == some none && findIn K (.ref c) name == some (some (.ref fa)) &&
 typeIn K (.ref fa) == some (.type "function") && keepIn K (.ref fa)
theorem meth_at {s : Shared} {b : Heap} {pl : Sem Bool} {QQ : Value × List Value → Shared → Prop} {E : Value → Shared → Prop} {v : Value} {d : D} {c fa : Addr} {name : Str} {kds : List (Str × D)} (S : St X env σ b s) (r : Rp X b v d) (ow : Own X σ d c kds)
  (hp : methPlain X.K c name fa = true) (hn : kds.lookup name = none) (h : QQ (.ref fa, [v]) s) : wpAny X.M A (getMethod v name pl) QQ E s := by
 obtain ⟨a, da, kvs, ep, rfl, n, g0, g, ra⟩ := ow.at S r
 obtain ⟨o, ho, hlk⟩ := lookIn_dict g name
 simp only [methPlain, Bool.and_eq_true, beq_iff_eq] at hp
 refine hide ?_; intro g; obtain ⟨⟨⟨⟨h1, h2⟩, h3⟩, h4⟩, h5⟩ := hp; dsimp only [g]
 have I : InstAt s.heap a (instObj c da) c (some o) := ⟨g0, rfl, rfl, ho⟩
 refine method_fn (S.hp.top.inK.keeps S.hp.le) I h1 h2 h3 h4 ?_ h
 show (lookIn name o).map _ = _
 rw [hlk, ra.lookup_none hn]; rfl
inductive QOm (X : Cx) (A : Around) (env : Env) (name : Str) (pos : Pos) (args : List Expr) (P : D → Sg → Prop) (d : D) (σ₁ : Sg) : Prop
 | mk (c : Addr) (kds : List (Str × D)) (fa : Addr) (o : Own X σ₁ d c kds) (m : methPlain X.K c name fa = true) (l : kds.lookup name = none) (h : TrL X A env σ₁ (spliced (backTo pos (starEach args env))) (QCons d (QArg X A env (fun vs => call (.ref fa) vs) P)))
theorem ev_ometh {o e : Expr} {name : Str} {apos pos : Pos} {rest : List Expr} {pl : Sem Bool}
  (h : Ev X A env σ o (QOm X A env name pos (e :: rest) P))
  (he : eval (.Call (.Attribute o name apos) (e :: rest) [] pos) env = (do
   let ov ← eval o env
   standAt apos.atName
   let (f, first) ← holding [ov] (getMethod ov name pl)
   callWith pos f first (backTo pos (starEach (e :: rest) env)) []))
  (hst : starEach (e :: rest) env = (false, eval e env) :: starEach rest env) (hpl : (backTo pos (starEach rest env)).any (·.1) = false) : Ev X A env σ (.Call (.Attribute o name apos) (e :: rest) [] pos) P := fun s b S => by
 refine MethodCall_ (pl := pl) (wpAny_mono (h s b S) ?_ fun _ _ x => x) he
 rintro v₁ s₁ ⟨d₁, σ₁, b₁, E₁, S₁, r₁, c, kds, fa, ow, hp, hn, h₁⟩
 refine meth_at S₁ r₁ ow hp hn ?_
 have hk : keepIn X.K (.ref fa) = true := by simp only [methPlain, Bool.and_eq_true] at hp; exact hp.2
 refine callWith_K (S₁.hp.top.inK.keeps S₁.hp.le) hk (wpAny_mono (h₁ s₁ b₁ S₁) ?_ (fun _ _ x => x)) hst hpl
 rintro vs s₂ ⟨ds, σ₂, b₂, E₂, S₂, r₂, h₂⟩
 exact ⟨S₂.hp.top.inK.keeps S₂.hp.le, wpAny_mono (h₂ s₂ b₂ (v₁ :: vs) S₂ (.cons (r₁.mono E₂.ext.le) r₂)) (fun v s' q => (q.after E₂).after E₁) (fun _ _ x => x)⟩
theorem ev_ometh0 {o : Expr} {name : Str} {apos pos : Pos} {pl : Sem Bool}
  (h : Ev X A env σ o (fun d σ₁ => ∃ c kds fa, Own X σ₁ d c kds ∧ methPlain X.K c name fa = true ∧ kds.lookup name = none ∧ OpL X A env σ₁ (fun vs => call (.ref fa) vs) [d] P))
  (he : eval (.Call (.Attribute o name apos) [] [] pos) env = (do
   let ov ← eval o env
   standAt apos.atName
   let (f, first) ← holding [ov] (getMethod ov name pl)
   callWith pos f first (backTo pos (starEach [] env)) [])) : Ev X A env σ (.Call (.Attribute o name apos) [] [] pos) P := fun s b S => by
 refine MethodCall_ (pl := pl) (wpAny_mono (h s b S) ?_ fun _ _ x => x) he
 rintro v₁ s₁ ⟨d₁, σ₁, b₁, E₁, S₁, r₁, c, kds, fa, ow, hp, hn, h₁⟩
 refine meth_at S₁ r₁ ow hp hn ?_
 have hk : keepIn X.K (.ref fa) = true := by simp only [methPlain, Bool.and_eq_true] at hp; exact hp.2
 refine callWith_K0 (S₁.hp.top.inK.keeps S₁.hp.le) hk ?_
 exact wpAny_mono (h₁ s₁ b₁ [v₁] S₁ (.cons r₁ .nil)) (fun v s' q => q.after E₁) (fun _ _ x => x)
theorem ev_callO {func : Expr} {e : Expr} {rest : List Expr} {pos : Pos} {fa : Addr} (h : Ev X A env σ func (QCall X A env (.ref fa) pos (e :: rest) (fun vs => call (.ref fa) vs) P))
  (hk : keepIn X.K (.ref fa) = true)
  (he : eval (.Call func (e :: rest) [] pos) env = (do callWith pos (← eval func env) [] (backTo pos (starEach (e :: rest) env)) (backToKw pos (keywordEach [] env))))
  (hst : starEach (e :: rest) env = (false, eval e env) :: starEach rest env) (hpl : (backTo pos (starEach rest env)).any (·.1) = false) : Ev X A env σ (.Call func (e :: rest) [] pos) P := fun s b S => by
 refine Call_ (wpAny_mono (h s b S) ?_ (fun _ _ x => x)) he
 rintro v₁ s₁ ⟨d₁, σ₁, b₁, E₁, S₁, r₁, rfl, h₁⟩
 obtain rfl := r₁.i_raw
 refine callWith_K (S₁.hp.top.inK.keeps S₁.hp.le) hk (wpAny_mono (h₁ s₁ b₁ S₁) ?_ (fun _ _ x => x)) hst hpl
 rintro vs s₂ ⟨ds, σ₂, b₂, E₂, S₂, r₂, h₂⟩
 exact ⟨S₂.hp.top.inK.keeps S₂.hp.le, wpAny_mono (h₂ s₂ b₂ vs S₂ r₂) (fun v s' q => (q.after E₂).after E₁) (fun _ _ x => x)⟩
theorem cls_call {c fI : Addr} {ds : List D} (hm : makesIn X.K c = true) (hi : findIn X.K (.ref c) "__init__" = some (some (.ref fI))) (hf : typeIn X.K (.ref fI) = some (.type "function"))
  (h : ∀ a A', A'.handled = A.handled → A'.units ≤ A.units + 2 → A'.depth ≤ A.depth + 2 → A'.guards = A.guards → OpC X A' env ⟨σ.ρ, (a, .dct []) :: σ.ω⟩ fI (.obj c a :: ds) (fun d σ' => d = .none ∧ P (.obj c a) σ')) : OpL X A env σ (fun vs => call (.ref c) vs) ds P := fun s b vs S rv => by
 have XK := S.hp.top.inK.keeps S.hp.le
 obtain ⟨hh, g, d, t, os⟩ := s
 have hc := cell_new S
 obtain ⟨S₁, E₁⟩ := S.allocC emptyDict (.dct []) hc
 refine hide ?_; intro g; obtain ⟨b₂, l₂, g₂, S₂, E₂⟩ := S₁.allocD (instObj c hh.objs.size); dsimp only [g]
 refine wpAny_call (make_core (makes_of XK hm) (looks_findIn XK hi) (fun self => bind_fn XK self hf) (.inl rfl) ?_)
 have r : RpAll X b₂ (.ref (hh.objs.size + 1) :: vs) (.obj c hh.objs.size :: ds) := by
  refine .cons (.obj ?_) (rv.mono (E₁.ext.le.trans l₂))
  simpa [Heap.size_push] using g₂
 refine codeAny_mono (h hh.objs.size (A.under (.builtin "type.__call__" ⟨.ref c :: vs, []⟩)) rfl ?_ ?_ rfl _ b₂ _ S₂ r) ?_
 ·show A.units + 1 ≤ A.units + 2; lia
 ·show A.depth + 1 ≤ A.depth + 2; lia
 ·intro r s' hr
  rcases r with e | (v | _ | _ | _) <;> first | exact hr | exact hr.elim | skip
  obtain ⟨d', σ', b', E', S', r', rfl, p⟩ := hr
  obtain rfl := r'.i_none
  refine ⟨rfl, _, σ', b', (E₁.trans E₂).trans E', S', ?_, p⟩
  refine .obj (E'.ext.le _ _ ?_)
  simpa [Heap.size_push] using g₂
theorem hsl : sizeLine = 2 ^ 24 := rfl
theorem Po.grown {s : Shared} {b h' : Heap} {a : Addr} {o : Obj} {d : D} {tk : Nat} (S : St X env σ b s) (hk : Le s.heap h') (hn : s.heap.get? a = none) (ho : h'.get? a = some o) (r : ∀ b', Le b b' → b'.get? a = some o → Rp X b' (.ref a) d) (p : P d σ) :
  Po X env σ s b P (.ref a) { s with heap := h', toks := tk } := by
 have hle : Le b h' := S.hp.le.trans hk
 obtain ⟨S₁, E₁⟩ := S.extend (h' := h') (b' := grow b h' (· == a)) (tk := tk) hk (grow_le hle) grow_in (fun y o' q => by
  rcases grow_new q with z | z
  ·exact .inl z
  ·exact .inr (by rw [beq_iff_eq.mp z]; exact hn))
 exact ⟨d, σ, _, E₁, S₁, r _ (grow_le hle) (grow_get (by simp) ho), p⟩
theorem ol_listOf {d : D} {ds : List D} (l : Lst X σ d ds) (hz : ds.length ≤ sizeLine) (p : P (.list ds) σ) : OpL X A env σ (fun vs => call (.type "list") vs) [d] P := fun s b vs S r => by
 replace r := r.i_one; obtain ⟨_, rfl, r⟩ := r
 obtain ⟨a, vs, k, rfl, g, ra⟩ := l.at S r
 have e : vs.size = ds.length := by rw [← ra.length]; simp
 refine call_list_seq a (.inl rfl) g rfl rfl (fun h' c' hk hD => ?_) (by exact Nat.le_trans (Nat.le_of_eq e) hz)
 exact Po.grown S hk (fresh_none _) hD (fun b' l' g' => .list g' (ra.mono l')) p
theorem ol_listOfT {ds : List D} (hz : ds.length ≤ sizeLine) (p : P (.list ds) σ) : OpL X A env σ (fun vs => call (.type "list") vs) [.tup ds] P := fun s b vs S r => by
 replace r := r.i_one; obtain ⟨_, rfl, r⟩ := r
 obtain ⟨_, _, _, rfl, g, ra⟩ := r.i_tup
 rename_i a vs n
 have e : vs.size = ds.length := by rw [← ra.length]; simp
 refine call_list_seq a (.inr rfl) (S.hp.le _ _ g) rfl rfl (fun h' c' hk hD => ?_) (by exact Nat.le_trans (Nat.le_of_eq e) hz)
 exact Po.grown S hk (fresh_none _) hD (fun b' l' g' => .list g' (ra.mono l')) p
theorem ol_tupOf {d : D} {ds : List D} (l : Lst X σ d ds) (hz : ds.length ≤ sizeLine) (p : P (.tup ds) σ) : OpL X A env σ (fun vs => call (.type "tuple") vs) [d] P := fun s b vs S r => by
 replace r := r.i_one; obtain ⟨_, rfl, r⟩ := r
 obtain ⟨a, vs, k, rfl, g, ra⟩ := l.at S r
 have e : vs.size = ds.length := by rw [← ra.length]; simp
 refine call_tuple_list (isList_of g) (fun h' hk => ?_) (by exact Nat.le_trans (Nat.le_of_eq e) hz)
 refine Po.grown (h' := h'.push _) S (fun y o q => le_push _ _ _ _ (hk y o q)) ?_ (Heap.get?_push_size _ rfl) (fun b' l' g' => .tup g' (ra.mono l')) p
 cases q : s.heap.get? h'.objs.size with
 | none => rfl
 | some o => exact absurd (Heap.lt_size (hk _ _ q)) (Nat.lt_irrefl _)
theorem ol_set0 (p : ∀ a, P (.raw (.ref a)) σ) : OpL X A env σ (fun vs => call (.type "set") vs) [] P := fun s b vs S r => by
 obtain rfl := r.i_nil
 refine call_set_0 fun led => ?_
 exact Po.alloc S rfl (fun b' l' g' => .raw _) (p _)
theorem ol_lenT {ds : List D} (hz : ds.length ≤ sizeLine) (p : P (.int ds.length) σ) : OpL X A env σ (fun vs => call (.builtin "len") vs) [.tup ds] P := fun s b vs S r => by
 replace r := r.i_one; obtain ⟨_, rfl, r⟩ := r
 obtain ⟨_, _, _, rfl, g, ra⟩ := r.i_tup
 rename_i a vs n
 have e : vs.size = ds.length := by rw [← ra.length]; simp
 refine PyProof.Rows.len_tuple (isTuple_of (S.hp.le _ _ g)) (by have := hsl; lia) ?_
 rw [e]
 exact Po.tok S (.int ..) p
theorem ol_lenS {x : Str} (hz : x.length ≤ sizeLine) (p : P (.int x.length) σ) : OpL X A env σ (fun vs => call (.builtin "len") vs) [.str x] P := fun s b vs S r => by
 replace r := r.i_one; obtain ⟨_, rfl, r⟩ := r
 obtain ⟨_, rfl⟩ := r.i_str
 exact PySem.P.len_str (by have := hsl; lia) (Po.tok S (.int ..) p)
theorem ev_callT0 {func : Expr} {pos : Pos} {T : String} (h : Ev X A env σ func (fun f σ₁ => f = .raw (.type T) ∧ OpL X A env σ₁ (fun vs => call (.type T) vs) [] P))
  (he : eval (.Call func [] [] pos) env = (do callWith pos (← eval func env) [] (backTo pos (starEach [] env)) (backToKw pos (keywordEach [] env)))) : Ev X A env σ (.Call func [] [] pos) P := fun s b S => by
 refine Call_ (wpAny_mono (h s b S) ?_ (fun _ _ x => x)) he
 rintro v₁ s₁ ⟨d₁, σ₁, b₁, E₁, S₁, r₁, rfl, h₁⟩
 obtain rfl := r₁.i_raw
 refine PyProof.Rows.callWith_type0 ?_
 exact wpAny_mono (h₁ s₁ b₁ [] S₁ .nil) (fun v s' q => q.after E₁) (fun _ _ x => x)
theorem op_instr {x y : Str} (p : P (.bool (!(Builtin.Str.occurrences y x 0 y.length 1).isEmpty)) σ) : Op X A env σ (compareOp .In) (.str x) (.str y) P := fun s b v w S rx ry => by
 obtain ⟨_, rfl⟩ := rx.i_str; obtain ⟨_, rfl⟩ := ry.i_str
 exact PyProof.Rows.in_str (Po.here S (.bool _) p)
theorem op_stritem {vl sl : Expr} {x : Str} {k : Int} {c : Nat} (h0 : 0 ≤ k) (h1 : k < 2 ^ 63) (hc : (seqIndex? k x.length).bind (x.cps[·]?) = some c) (p : P (.str ⟨#[c]⟩) σ)
  (hs : ∀ v u, subscripted sl false v (.int k u) = operate [v, .int k u] (getItem v (.int k u))) (ht : ∀ o r, letTemporaryGo vl o r = pure ()) : Op X A env σ (subscriptTail vl sl) (.str x) (.int k) P := fun s b v w S rx ry => by
 obtain ⟨_, rfl⟩ := rx.i_str; obtain ⟨_, rfl⟩ := ry.i_int
 rename_i t u
 refine subscriptTail_ops (typeIs_str _ _ _) F.slot_str_getitem.lookup (PySem.P.getItem_str ?_ hc (Po.tok S (.str ..) p)) (hs _ _) (ht _)
 simp; lia
theorem itb_str {target : Expr} {x : Str} (hh : A.handled = none) (ha : x.cps.all (· < 128) = true) : Itb X A env σ target (.str x) (fun _ => some (x.cps.toList.map fun c => .str ⟨#[c]⟩)) := fun s b v S r => by
 obtain ⟨_, rfl⟩ := r.i_str
 rename_i t
 refine wpAny_pyIter_ascii ha ⟨[s.heap.objs.size], fun i h => h.IsStrIter s.heap.objs.size "str_ascii_iterator" x t i, _, s.toks, rfl, le_push _ _, fun x hx => by rw [List.mem_singleton.mp hx]; exact fresh_none _, ?_, ⟨_, Heap.get?_push_size _ rfl, rfl, rfl⟩⟩
 generalize s.heap.objs.size = I
 exact {
  frame := fun i h h' ⟨o, e, r⟩ k => ⟨o, k I (by simp) o e, r⟩
  live := fun i h ⟨o, e, _⟩ x hx => by rw [List.mem_singleton.mp hx]; exact ⟨o, e⟩
  item := fun env σ i ds' d s b' S hb j e g' ap => by
   obtain rfl := Option.some.inj e
   obtain ⟨c, hc, rfl⟩ : ∃ c, x.cps[i]? = some c ∧ d = .str ⟨#[c]⟩ := by
    rw [List.getElem?_map, Array.getElem?_toList] at g'
    cases q : x.cps[i]? with
    | none => rw [q] at g'; exact nso g'
    | some c => rw [q] at g'; obtain rfl := Option.some.inj g'; exact ⟨c, rfl, rfl⟩
   refine wpAny_pyNext_ascii_item j hc fun h' j' hs => ⟨_, rfl, ?_⟩
   refine hide ?_; intro g; obtain ⟨o, ho, hc, hd⟩ := j'; dsimp only [g]
   refine letGo_plain (s := { s with heap := h', toks := s.toks + 1 }) ho hc (by decide) ⟨h', b', s.toks + 1, rfl, ⟨o, ho, hc, hd⟩, fun x o hx e => hs.extBut x o (fun z => hx (by simp [z])) e, Le.refl _, fun x o e => ?_, fun x o e => .inl ⟨o, e⟩, .str ..⟩
   exact hs.extBut x o (fun z => by have := ap.b I (by simp); rw [← z, e] at this; exact sno this) (S.hp.le _ _ e)
  done := fun env σ i ds' s b' S hb j e g' ap => by
   obtain rfl := Option.some.inj e
   refine wpAny_pyNext_ascii_end hh j ?_ fun h' he => ⟨rfl, h', s.toks, rfl, fun x o hx e => he x o (fun z => hx (by simp [z])) e⟩
   simpa using g'
  self := fun i s QQ E j h => wpAny_pyIter_striter_ascii j h }
theorem ol_join {sep : Str} {ss : List Str} (hz : (ss.map (·.length)).sum + ss.length * sep.length ≤ 16777216) (p : P (.str (Txt.join sep ss)) σ) : OpL X A env σ (fun vs => call (.builtin "str.join") vs) [.str sep, .tup (ss.map D.str)] P := fun s b vs S r => by
 replace r := r.i_two; obtain ⟨_, _, rfl, r, r'⟩ := r
 obtain ⟨_, rfl⟩ := r.i_str
 obtain ⟨_, _, _, rfl, g, ra⟩ := r'.i_tup
 rename_i t a vs n
 refine PyProof.Rows.join_tuple ⟨_, S.hp.le _ _ g, rfl, n, rfl⟩ (rpAll_strs ra) hz fun t' k => ?_
 exact Po.tok S (.str ..) p
theorem isTy_str {x : Str} : IsTy X env σ (.str x) "str" := fun s b v S r => by
 obtain ⟨_, rfl⟩ := r.i_str
 exact ⟨typeIs_str _ _ _, fun a e => nomatch e⟩
theorem isTy_dct {d : D} {kds : List (Str × D)} (l : Dct X σ d kds) : IsTy X env σ d "dict" := fun s b v S r => by
 obtain ⟨a, kvs, ep, rfl, n, g, ra⟩ := l.at S r
 exact ⟨g.dictOf.typeIs, g.dictOf.mapOf.noDict⟩
theorem ol_get {d dflt : D} {k : Str} {kds : List (Str × D)} (l : Dct X σ d kds) (p : P ((kds.lookup k).getD dflt) σ) : OpL X A env σ (fun vs => call (.builtin "dict.get") vs) [d, .str k, dflt] P := fun s b vs S r => by
 replace r := r.i_three; obtain ⟨_, _, _, rfl, r, r', r''⟩ := r
 obtain ⟨_, rfl⟩ := r'.i_str
 rename_i tk
 obtain ⟨a, kvs, ep, rfl, n, g, ra⟩ := l.at S r
 refine call_meetsIn F.slot_dict_get g.dictOf.typeIs F.entry_dict_get (F.args_dict_get_3 _ _ _) (meets_dict_get_default X.kd a (kdIs k tk) n _) ⟨_, g.dictOf.mapOf, ?_⟩
 rw [valueAt_lookup (V := Value)]
 cases q : kds.lookup k with
 | none =>
  rw [ra.lookup_none q]
  rw [q] at p
  exact Po.tok S r'' p
 | some x =>
  obtain ⟨v, hv, rv⟩ := ra.lookup q
  rw [hv]
  rw [q] at p
  exact Po.tok S rv p
theorem wpAny_pyHash_none {prog : Program} {w : World} {E : Value → Shared → Prop} {s : Shared} {Q : Int → Shared → Prop} (h : Q 0xFCA86420 { s with toks := s.toks + 1 }) :
  wpAny (model prog w) A (pyHash .none) Q E s := by
 unfold pyHash
 refine wpAny_bind ?_
 rw [cRoomFor, if_neg (by decide)]; refine wpAny_pure ?_
 refine wpAny_bind (wpAny_specialOf (typeIs_none s) F.slot_NoneType_hash.lookup ?_)
 show wpAny _ _ (if (some (Value.builtin "NoneType.__hash__") == some Value.none) = true then _ else _) Q E s
 rw [if_neg (by rw [beq_builtin_none]; exact Bool.false_ne_true)]
 refine wpAny_bind (wpAny_specialOf (typeIs_none s) F.slot_NoneType_hash.lookup ?_)
 show wpAny _ _ (callSpecialIfBoundUnlessNone? .none "__hash__" _ >>= _) Q E s
 refine wpAny_bind (wpAny_callSpecialIfBoundUnlessNone?_slot (typeIs_none s) F.slot_NoneType_hash
  (wpAny_call_entry F.slot_NoneType_hash (typeIs_none s) F.entry_NoneType_hash
   (show wpAny _ _ (do ret (← mkInt 0xFCA86420)) _ _ s from wpAny_ret_mkInt ?_) (F.args_NoneType_hash_1 _)))
 exact wpAny_pure h
noncomputable def noneKind (prog : Program) (w : World) : PySem.KeyKind prog w Unit where
 is _ v := v == .none
 hash _ := 0xFCA86420
 inj _ _ _ _ _ := rfl
 byValue _ v h := by
  have : v = .none := by simpa using h
  subst this; rfl
 pyHash h q := by
  rename_i v _
  have : v = .none := by simpa using h
  subst this
  exact wpAny_pyHash_none q
 eqBool h1 h2 q := by
  rename_i u v _
  have e1 : u = .none := by simpa using h1
  have e2 : v = .none := by simpa using h2
  subst e1 e2
  unfold eqBool
  try with_reducible refine wpAny_holding ?_
  show wpAny _ _ (rule "eq-bool.same-object" >>= fun _ => pure true) _ _ _
  exact wpAny_bind (wpAny_rule (wpAny_pure q))
 «strs» k x t v h := by exact fet h
theorem ol_getN {d dflt : D} (l : Dct X σ d []) (p : P dflt σ) : OpL X A env σ (fun vs => call (.builtin "dict.get") vs) [d, .none, dflt] P := fun s b vs S r => by
 replace r := r.i_three; obtain ⟨_, _, _, rfl, r, r', r''⟩ := r
 obtain rfl := r'.i_none
 obtain ⟨a, kvs, ep, rfl, n, g, ra⟩ := l.at S r
 obtain rfl := ra.i_nil
 have hT := g.dictOf.typeIs (s := s)
 obtain ⟨o, es, g0, hx, hd, hk, hp, hn⟩ := g
 have hes : es.toList = [] := by
  generalize es.toList = l at hp
  cases hp with
  | nil => rfl
 have hes' : es = #[] := by
  apply Array.ext'; simpa using hes
 subst hes'
 refine call_meetsIn F.slot_dict_get hT F.entry_dict_get (F.args_dict_get_3 _ _ _) (meets_dict_get_default (noneKind X.prog X.w) a (k := ()) rfl n _) ⟨fun _ => none, ?_, Po.tok S r'' p⟩
 refine ⟨o, #[], ep, g0, hx, hd, ?_, ?_⟩
 ·intro e he; simp at he
 ·intro k; rfl
theorem St.slots {s : Shared} {b h' : Heap} {tk : Nat} (S : St X env σ b s) (hk : ∀ a o, NotFr X a → s.heap.get? a = some o → h'.get? a = some o)
  (hs : ∀ a o, s.heap.get? a = some o → (∀ vs, o.data ≠ .fields vs) → ∃ sl, h'.get? a = some { o with slots := sl }) :
  St X env σ b { s with heap := h', toks := tk } ∧ Evo X env σ σ s b { s with heap := h', toks := tk } b := by
 have hb : ∀ a o, b.get? a = some o → NotFr X a := fun a o e e' he z => by
  obtain ⟨k, L, o', es, ep, h1, h2, h3, h4, h5⟩ := S.fr e' he
  rw [z] at h1; obtain rfl := Option.some.inj h1
  rw [h2] at e; exact nso e
 have hw : ∀ a, a ∈ σ.ω.map (·.1) → NotFr X a := fun a ha e' he z => by
  obtain ⟨k, L, o', es, ep, h1, h2, h3, h4, h5⟩ := S.fr e' he
  rw [z] at h1; obtain rfl := Option.some.inj h1
  exact h3 ha
 have hnd : ∀ a o, s.heap.get? a = some o → (∀ es ep, o.data ≠ .dict es ep) → NotFr X a := fun a o e hn e' he z => by
  obtain ⟨k, L, o', es, ep, h1, h2, h3, h4, h5⟩ := S.fr e' he
  rw [z] at h1; obtain rfl := Option.some.inj h1
  rw [e] at h4; obtain rfl := Option.some.inj h4
  exact hn _ _ h5
 have kp : ∀ a o, s.heap.get? a = some o → ∃ sl, h'.get? a = some { o with slots := sl } ∧ (NotFr X a → sl = o.slots) := fun a o e => by
  by_cases hn : NotFr X a
  ·exact ⟨o.slots, hk a o hn e, fun _ => rfl⟩
  ·have : ∀ vs, o.data ≠ .fields vs := fun vs q => hn (hnd a o e fun es ep z => by rw [q] at z; cases z)
   obtain ⟨sl, h1⟩ := hs a o e this
   exact ⟨sl, h1, fun n => absurd n hn⟩
 refine ⟨⟨S.ok, ⟨fun a o e => hk a o (hb a o e) (S.hp.le a o e), fun p hp => (S.hp.cell p hp).mono (Le.refl _) (fun o e => hk _ o (hw _ (List.mem_map_of_mem (f := (·.1)) hp)) e), S.hp.out, S.hp.nod, S.hp.top⟩,
  S.fm.monoS (Le.refl _) (fun o e => (kp _ o e).imp fun _ z => z.1) (fun y c o _ e => (kp _ o e).imp fun _ z => z.1), S.fa, S.fr.mono (fun _ _ _ _ z => z) (fun _ _ _ z => z) (fun a o es ep _ _ e q => ?_)⟩, ⟨⟨fun a o _ e => kp a o e, Le.refl _, fun a o e => .inl ⟨o, e⟩, fun a o e => ?_, rfl, rfl⟩, fun a h => .inl h⟩⟩
 ·refine hide ?_; intro g; obtain ⟨sl, h1, _⟩ := kp a o e; dsimp only [g]
  exact ⟨_, es, ep, h1, q⟩
 ·refine hide ?_; intro g; obtain ⟨sl, h1, _⟩ := kp a o e; dsimp only [g]
  exact ⟨_, h1⟩
noncomputable def noFrames (X : Cx) (h : Heap) : Heap := restrict h fun a => !(X.fr.any fun e => e.frame == some a)
theorem noFrames_le {h : Heap} : Le (noFrames X h) h := fun a o e => by
 unfold noFrames at e; rw [get?_restrict] at e
 split at e
 ·exact e
 ·exact nso e
theorem noFrames_get {h : Heap} {a : Addr} {o : Obj} (n : NotFr X a) (e : h.get? a = some o) : (noFrames X h).get? a = some o := by
 unfold noFrames; rw [get?_restrict]
 have : (X.fr.any fun e => e.frame == some a) = false := by
  rw [List.any_eq_false]
  intro e he
  simpa using n e he
 rw [this]; exact e
theorem noFrames_none {h : Heap} {a : Addr} {e : Env} (he : e ∈ X.fr) (z : e.frame = some a) : (noFrames X h).get? a = none := by
 unfold noFrames; rw [get?_restrict]
 have : (X.fr.any fun e => e.frame == some a) = true := List.any_eq_true.mpr ⟨e, he, by simpa using z⟩
 rw [this]; rfl
theorem funFrames_of {ω : Om} {b h h' : Heap} (F : FrOk X ω b h) (hk : Le h h') (l : List Env) : (∀ e ∈ l, e ∈ X.fr) → h'.FunFrames (noFrames X h) l := by
 induction l with
 | nil => intro _; exact trivial
 | cons e l ih =>
  intro hl
  refine hide ?_; intro g; obtain ⟨k, L, o, es, ep, h1, h2, h3, h4, h5⟩ := F e (hl e (.head _)); dsimp only [g]
  exact ⟨by rw [k]; decide, ⟨L, o, h1, noFrames_none (hl e (.head _)) h1, hk _ _ h4, fun vs q => by rw [h5] at q; cases q⟩, ih fun x hx => hl x (.tail _ hx)⟩
theorem ex_try_ok {body orelse : List Stmt} {hs : List ExceptHandler} {h₀ : ExceptHandler} {pos : Pos} (h : Exs X A env σ body (fun f σ₁ => match f with | .next => Exs X A env σ₁ orelse Q | f => Q f σ₁)) : Ex X A env σ (.Try body (h₀ :: hs) orelse [] pos) Q := fun s b S => by
 refine wpAny_Try_except (wpAny_mono (h s b S) ?_ fun _ _ x => x.elim)
 rintro f s₁ ⟨fl, σ₁, b₁, E₁, S₁, r₁, h₁⟩
 cases f with
 | next => cases fl with
  | next => exact wpAny_mono (h₁ s₁ b₁ S₁) (fun v s' q => q.after E₁) (fun _ _ x => x)
  | _ => exact r₁.elim
 | brk => cases fl with
  | brk => exact ⟨.brk, σ₁, b₁, E₁, S₁, trivial, h₁⟩
  | _ => exact r₁.elim
 | cont => cases fl with
  | cont => exact ⟨.cont, σ₁, b₁, E₁, S₁, trivial, h₁⟩
  | _ => exact r₁.elim
 | ret v => cases fl with
  | ret d => exact ⟨.ret d, σ₁, b₁, E₁, S₁, r₁, h₁⟩
  | _ => exact r₁.elim
inductive QTm1 (X : Cx) (A : Around) (env : Env) (d : D) (suite : List Stmt) (Q : Fl → Sg → Prop) (k : D) (σ₂ : Sg) : Prop
 | mk (kds : List (Str × D)) (x : Str) (dc : Dct X σ₂ d kds) (e : k = .str x) (l : kds.lookup x = none) (n : nsIn X.K mainGlobals "KeyError" = some none) (p : ∀ v, Exs X (A.mark (some v)) env σ₂ suite Q)
noncomputable abbrev QTm (X : Cx) (A : Around) (env : Env) (i : Expr) (suite : List Stmt) (Q : Fl → Sg → Prop) : D → Sg → Prop := fun d σ₁ => Ev X A env σ₁ i (QTm1 X A env d suite Q)
theorem ex_try_miss {o i : Expr} {name : Str} {p1 p2 p3 p4 np hp pos : Pos} {args : List Expr} {b₀ : Stmt} {suite orelse : List Stmt} {outer : List Env} {pl : Sem Bool}
  (hfr : X.fr = env :: outer) (hA : A.frames = some (env :: outer)) (hh : A.handled = none)
  (h : Ev X A env σ o (QTm X A env i (b₀ :: suite) Q))
  (hkk : env.kindOf "KeyError" = some .globalImplicit)
  (hi : interactive env = false) (hsw : swapsWith (.Call (.Attribute (.Subscript o i p1) name p2) args [] p3) none p4.line env = pure false)
  (he : eval (.Call (.Attribute (.Subscript o i p1) name p2) args [] p3) env = (do
   let ov ← eval (.Subscript o i p1) env
   standAt p2.atName
   let (f, first) ← holding [ov] (getMethod ov name pl)
   callWith p3 f first (backTo p3 (starEach args env)) []))
  (hs : ∀ v y u, subscripted i false v (.str y u) = operate [v, .str y u] (getItem v (.str y u))) : Ex X A env σ (.Try [.Expr (.Call (.Attribute (.Subscript o i p1) name p2) args [] p3) p4] [.ExceptHandler (some (.Name "KeyError" np)) none (b₀ :: suite) hp] orelse [] pos) Q := fun s b S => by
 refine wpAny_Try_except (wpAny_execs_cons (wpAny_Expr (MethodCall_ (pl := pl) (Subscript_ (wpAny_mono (h s b S) ?_ (fun _ _ x => x.elim))) he) hi hsw))
 rintro v₁ s₁ ⟨d₁, σ₁, b₁, E₁, S₁, r₁, h₁⟩
 refine wpAny_mono (h₁ s₁ b₁ S₁) ?_ (fun _ _ x => x.elim)
 rintro v₂ s₂ ⟨d₂, σ₂, b₂, E₂, S₂, r₂, kds, x, dc, rfl, hl, hkey, h₂⟩
 obtain ⟨_, rfl⟩ := r₂.i_str
 rename_i tk
 obtain ⟨a, kvs, ep, rfl, n, g, ra⟩ := dc.at S₂ (r₁.mono E₂.ext.le)
 refine tail_any g.dictOf.typeIs slot_dict_getitem.lookup (wpAny_getItem_missing_of (knd := X.kd) (kdIs x tk) n hh g.dictOf.mapOf (by rw [valueAt_lookup (V := Value)]; exact ra.lookup_none hl) fun h₃ e hx => ?_) (hs _ _ _)
 refine hide ?_; intro g; obtain ⟨hk₃, hen, oe, te, hoe, hoc, hod⟩ := hx; dsimp only [g]
 have hin : env ∈ X.fr := by rw [hfr]; exact .head _
 refine hide ?_; intro g; obtain ⟨kf, L, oL, esL, epL, hf, hbL, hwL, hL, hdL⟩ := S₂.fr env hin; dsimp only [g]
 have hst : (noFrames X s₂.heap).StaysIn h₃ := fun a o q => hk₃ a o (noFrames_le a o q)
 have hne : (noFrames X s₂.heap).get? e = none := by
  cases q : (noFrames X s₂.heap).get? e with
  | none => rfl
  | some o => have := noFrames_le _ _ q; rw [hen] at this; exact nso this
 have hfun : h₃.FunFrames (noFrames X s₂.heap) (env :: outer) := funFrames_of S₂.fr hk₃ _ (by rw [hfr]; exact fun _ z => z)
 show wpAny _ _ (noteFrame (.ref e) env) _ _ _
 unfold noteFrame
 simp only [hf]
 refine wpAny_bind (wpAny_field hoe hod (x := .none) rfl ?_)
 rw [if_neg (by decide)]
 refine wpAny_entryW (vs := #[te, .none, .none, .none, .bool false, .none]) hA hfun hf hoe hst hne hod (by simp) rfl fun h₄ hN => ?_
 refine hide ?_; intro g; obtain ⟨k1, k2, k3, k4⟩ := hN; dsimp only [g]
 refine wpAny_landsW (l := env :: outer) (L := L) ⟨k1, hne, k2, k3⟩ fun h₅ hfl₅ hsm₅ => ?_
 refine hide ?_; intro g; obtain ⟨f1, f2, f3, f4⟩ := hfl₅; dsimp only [g]
 have hsm₂ : s₂.heap.UpToSlots h₅ := ((Heap.UpToSlots.of_keeps hk₃).trans (fun b o hb hnf => k4 b o hb hnf)).trans hsm₅
 obtain ⟨S₅, E₅⟩ := S₂.slots (h' := h₅) (tk := s₂.toks + 1) (fun a o na q => f1 a o (noFrames_get na q)) (fun a o q hnf => hsm₂ a o q hnf)
 refine wpAny_handleBy_builtin (X := "KeyError") (T := "KeyError") (b := true) PySem.W.kr_isExc_KeyError PySem.W.kr_notTuple_KeyError (by rw [isSubtype_type]; kernel_rfl) ?_
 have T := S₅.hp.top
 refine Name_function_global S₅.ok.kind hkk ?_ (by decide)
 refine loadGlobal_builtin (mg := X.mg) (mb := X.mb) (by rw [S₅.ok.glob]; exact T.tr.g.keeps S₅.hp.le) (mg_none_of T.inK T.tr.g hkey) (by rw [S₅.ok.blt]; exact T.tr.b.keeps S₅.hp.le) ((T.tr.builtins "KeyError" (by decide)).trans (by boot_fast)) ?_
 have hfl : Heap.FlyingW (noFrames X s₂.heap) (env :: outer) e (.type "KeyError") te h₅ := ⟨f1, f2, f3, by rw [← hoc]; exact f4⟩
 refine ⟨rfl, hfl.there, ?_⟩
 rw [if_pos rfl]
 refine lands_againW hfl fun h₆ hfl₆ hsm₆ => ?_
 have hsm := hsm₂.trans hsm₆
 obtain ⟨S₆, E₆⟩ := S₂.slots (h' := h₆) (tk := s₂.toks + 1) (fun a o na q => hfl₆.1 a o (noFrames_get na q)) (fun a o q hnf => hsm a o q hnf)
 refine wpAny_mono (h₂ (.ref e) _ b₂ S₆) (fun f s' q => ((q.after E₆).after E₂).after E₁) (fun _ _ x => x.elim)
open PySem PySem.W PySem.Calls PyProof.Rows Builtin Builtin.Str
noncomputable def fmtE : PySem.Str := ⟨#[37, 115, 32, 45, 62, 32, 60, 101, 109, 112, 116, 121, 62]⟩
theorem pct_e {prog : Program} {w : World} {E : Value → Shared → Prop} {s : Shared} {x : PySem.Str} {t u : Tok} {QQ : Value → Shared → Prop} (hx : x.length ≤ 1000000)
  (h : ∀ t' k, QQ (.str (x ++ PySem.Str.ofString " -> <empty>") t') { s with toks := k }) : wpAny (model prog w) A (binaryOp .Mod (.str fmtE t) (.str x u)) QQ E s := by
 refine KPc.mod_str (X' := ⟨#[37, 115, 32, 45, 62, 32, 60, 101, 109, 112, 116, 121, 62]⟩) (T := fun x => x ++ PySem.Str.ofString " -> <empty>") rfl hx (by k_dflt kpc_run_s) fun t' k => h t' k
theorem show_strs (ss : List PySem.Str) : (D.list (ss.map D.str)).py.showable = true := by
 simp only [D.py, PyData.showable, pyAll_eq, List.map_map]
 induction ss with
 | nil => simp [PyData.showableAll]
 | cons s r ih => simp only [List.map_cons, PyData.showableAll, ih, Bool.and_true]; simp [D.py, PyData.showable]
theorem op_pct_e {x : PySem.Str} (hx : x.length ≤ 1000000) (p : P (.str (x ++ PySem.Str.ofString " -> <empty>")) σ) : Op X A env σ (binaryOp .Mod) (.str fmtE) (.str x) P := fun s b v w S rx ry => by
 obtain ⟨_, rfl⟩ := rx.i_str; obtain ⟨_, rfl⟩ := ry.i_str
 exact pct_e hx fun t' k => Po.tok S (.str ..) p
noncomputable def shownS (ss : List PySem.Str) : PySem.Str := (D.list (ss.map D.str)).py.shown
theorem RpAll.inv {b : Heap} {vs : List Value} {d : D} {ds : List D} (h : RpAll X b vs (d :: ds)) : ∃ v vs', vs = v :: vs' ∧ Rp X b v d ∧ RpAll X b vs' ds := by
 obtain ⟨_, _, rfl, r, q⟩ := h.i_cons
 ·exact ⟨_, _, rfl, r, q⟩
theorem RpAll.inv0 {b : Heap} {vs : List Value} (h : RpAll X b vs []) : vs = [] := by obtain rfl := h.i_nil; rfl
theorem ob_tup {PB : Bool → Sg → Prop} {ds : List D} (hz : ds.length ≤ sizeLine) (p : PB (!ds.isEmpty) σ) : OpB X A env σ truthy (.tup ds) PB := fun s b v S r => by
 obtain ⟨_, _, _, rfl, g, ra⟩ := r.i_tup
 rename_i a vs n
 have e : vs.size = ds.length := by rw [← ra.length]; simp
 refine PyProof.Rows.truthy_tuple (isTuple_of (S.hp.le _ _ g)) (by have := hsl; lia) ?_
 have : (!vs.isEmpty) = !ds.isEmpty := by
  cases ds with
  | nil =>
   have : vs = #[] := by simpa using e
   subst this; rfl
  | cons d r => 
   have : vs.size ≠ 0 := by rw [e]; simp
   have h2 : vs.isEmpty = false := by simpa using this
   rw [h2]; rfl
 exact PoB.tok S (this ▸ p)
theorem ex_aug_sub {x : Str} {value : Expr} {pos' pos : Pos} {a m : Int} (hv : σ.ρ.lookup x = some (.int a)) (hk : env.kindOf x = some .local)
  (h : Ev X A env σ value (fun d σ₁ => d = .int m ∧ Q .next ⟨(x, .int (a - m)) :: σ₁.ρ, σ₁.ω⟩)) : Ex X A env σ (.AugAssign (.Name x pos') .Sub value pos) Q := fun s b S => by
 refine hide ?_; intro g; obtain ⟨mm, hn, hm⟩ := S.fm.ns; dsimp only [g]
 refine hide ?_; intro g; obtain ⟨v, h1, h2⟩ := hm x _ hk hv; dsimp only [g]
 obtain ⟨_, rfl⟩ := h2.i_int
 refine wpAny_AugAssign_Name (wpAny_loadName_local S.ok.kind hk hn h1 (wpAny_mono (h s b S) ?_ fun _ _ x => x))
 rintro v s₁ ⟨d, σ₁, b₁, E₁, S₁, r₁, rfl, q⟩
 obtain ⟨_, rfl⟩ := r₁.i_int
 refine PySem.AutoIntOps.isub_0 ?_
 have hl : isLoc env x = true := by unfold isLoc; rw [hk]
 refine store_var (S₁.toks (s₁.toks + 1)).1 (.int ..) hl fun s' S' E' => ⟨.next, _, b₁, (E₁.trans (S₁.toks (s₁.toks + 1)).2).trans E', S', trivial, q⟩
theorem wpAny_nextOf_tuple_item {prog : Program} {w : World} {E : Value → Shared → Prop} {s : Shared} {it l : Addr} {i : Nat} {items : Array Value} {x : Value} {QQ : Value → Shared → Prop} (hit : s.heap.IsTupleIter it l i)
  (hl : s.heap.IsTuple l items) (hx : items[i]? = some x)
  (hQ : ∀ h', h'.IsTupleIter it l (i + 1) → Heap.SameBut it s.heap h' → QQ x { s with heap := h' }) :
  wpAny (model prog w) A (Builtin.SmallTypes.nextOf (.ref it)) QQ E s := by
 obtain ⟨o, ho, hc, hd⟩ := id hit
 obtain ⟨ol, hol, _, nl, hdl⟩ := hl
 unfold Builtin.SmallTypes.nextOf
 refine wpAny_bind (wpAny_callSpecial?_slot (name := Str.ofString "__next__") hit.typeIs PySem.F.slot_tuple_iterator_next
  (wpAny_call_entry PySem.F.slot_tuple_iterator_next hit.typeIs PySem.F.entry_tuple_iterator_next ?_ (PySem.F.args_tuple_iterator_next_1 _)))
 show wpAny _ _ (field (.ref it) 0 >>= _) _ _ s
 refine wpAny_bind (wpAny_field ho hd (x := .ref l) rfl ?_)
 show wpAny _ _ (if (Value.ref l == Value.none) = true then _ else _) _ _ s
 rw [if_neg (show ¬ ((Value.ref l == Value.none) = true) from Bool.false_ne_true)]
 show wpAny _ _ (field (.ref it) 1 >>= _) _ _ s
 refine wpAny_bind (wpAny_field ho hd (x := .int i 0) rfl ?_)
 show wpAny _ _ (seqItems? (.ref l) >>= _) _ _ s
 refine wpAny_bind (wpAny_seqItems hol hdl ?_)
 simp only [Int.toNat_natCast, hx]
 refine wpAny_bind (wpAny_setField ho hd (by simp) (wpAny_pure ⟨x, rfl, wpAny_pure (hQ _ ?_ (Heap.SameBut.update ..))⟩))
 exact ⟨_, Heap.get?_update_self _ ho (Obj.isFreed_of_fields (Obj.data_mapFields hd _)), (Obj.cls_mapFields ..).trans hc, by
  rw [Obj.data_mapFields hd]; simp [rawInt]⟩
theorem wpAny_nextOf_tuple_end {prog : Program} {w : World} {E : Value → Shared → Prop} {s : Shared} {it l : Addr} {i : Nat} {items : Array Value} {QQ : Value → Shared → Prop} (hh : A.handled = none)
  (hit : s.heap.IsTupleIter it l i) (hl : s.heap.IsTuple l items) (hx : items[i]? = none)
  (hE : ∀ h' e, Heap.ExtBut it s.heap h' → (∃ o, h'.get? e = some o ∧ o.cls = .type "StopIteration") → E (.ref e) { s with heap := h' }) :
  wpAny (model prog w) A (Builtin.SmallTypes.nextOf (.ref it)) QQ E s := by
 obtain ⟨o, ho, hc, hd⟩ := id hit
 obtain ⟨ol, hol, _, nl, hdl⟩ := hl
 unfold Builtin.SmallTypes.nextOf
 refine wpAny_bind (wpAny_callSpecial?_slot (name := Str.ofString "__next__") hit.typeIs PySem.F.slot_tuple_iterator_next
  (wpAny_call_entry PySem.F.slot_tuple_iterator_next hit.typeIs PySem.F.entry_tuple_iterator_next ?_ (PySem.F.args_tuple_iterator_next_1 _)))
 show wpAny _ _ (field (.ref it) 0 >>= _) _ _ s
 refine wpAny_bind (wpAny_field ho hd (x := .ref l) rfl ?_)
 show wpAny _ _ (if (Value.ref l == Value.none) = true then _ else _) _ _ s
 rw [if_neg (show ¬ ((Value.ref l == Value.none) = true) from Bool.false_ne_true)]
 show wpAny _ _ (field (.ref it) 1 >>= _) _ _ s
 refine wpAny_bind (wpAny_field ho hd (x := .int i 0) rfl ?_)
 show wpAny _ _ (seqItems? (.ref l) >>= _) _ _ s
 refine wpAny_bind (wpAny_seqItems hol hdl ?_)
 simp only [Int.toNat_natCast, hx]
 refine wpAny_bind (wpAny_rule (wpAny_bind (wpAny_setField ho hd (by simp) ?_)))
 show wpAny _ _ (newExc (.type "StopIteration") [] >>= _) _ _ _
 refine wpAny_bind ?_
 simp only [newExc, newTuple]
 refine wpAny_bind (wpAny_newObj_type ?_ (by size_fits))
 refine wpAny_bind (m := firstArgMember _ _) (wpAny_of_eq (a := Value.none) (by first | rfl | (simp only [firstArgMember]; rfl)) ?_)
 refine wpAny_newObj_type ?_ (by size_fits)
 simp only [raiseNew]
 refine wpAny_bind (wpAny_handled ?_)
 first | rw [show A.in1.handled = none from hh] | rw [hh]
 refine wpAny_bind (wpAny_pure (wpAny_throw ?_))
 exact hE _ _ (((Heap.SameBut.update ..).extBut.push _).push _) ⟨_, Heap.get?_push_size _ rfl, rfl⟩
theorem drawsTuple {prog : Program} {w : World} (hh : A.handled = none) (it l : Addr) (hne : l ≠ it) (items : Array Value) :
  Draws prog w A it [it, l] items.size (fun i v => items[i]? = some v) (fun i h => h.IsTupleIter it l i ∧ h.IsTuple l items) where
 live := fun _ _ st => let ⟨o, ho, _⟩ := st.1; ⟨o, ho⟩
 frame := fun _ _ _ st hk => let ⟨⟨o, h1, r⟩, ⟨o', h2, r'⟩⟩ := st; ⟨⟨o, hk it (by simp) o h1, r⟩, ⟨o', hk l (by simp) o' h2, r'⟩⟩
 item := fun i s QQ E hi st hQ => by
  refine wpAny_nextOf_tuple_item st.1 st.2 (x := items[i]) (by simp [hi]) fun h' hit' hs' => ?_
  exact hQ _ h' s.toks (by simp [hi]) ⟨hit', st.2.extBut hs'.extBut hne⟩ hs'
 done := fun s QQ E st hE => wpAny_nextOf_tuple_end hh st.1 st.2 (by simp) hE
theorem wpAny_pure_any {α : Type} {M : Model} {A : Around} {Q : α → Shared → Prop} {E : Value → Shared → Prop} {s : Shared} {a : α} (h : ∀ b, Q b s) : wpAny M A (pure a) Q E s := wpAny_pure (h a)
theorem meets_enumerate_newT (l : Addr) (items : Array Value) (n : Nat) (dct : Option Addr) (sl : Array (Option Value)) :
  Meets (Builtin.«enumerate.__new__» ⟨[.type "enumerate", .ref l], []⟩) (fun _ R s => s.heap.get? l = some { cls := .type "tuple", dict := dct, data := .seq items n, slots := sl } ∧
   R (.ok (.ret (.ref (s.heap.push { cls := .type "tuple_iterator", data := .fields #[.ref l, .int 0 0] }).objs.size)))
    { s with heap := (s.heap.push { cls := .type "tuple_iterator", data := .fields #[.ref l, .int 0 0] }).push { cls := .type "enumerate", data := .fields #[.none, .bool false, .ref s.heap.objs.size, rawInt 0, .none, .none] } }) :=
 .of_wp fun prog w A R s h => by
  obtain ⟨hp, g, d, tk, os⟩ := s; obtain ⟨hl, h⟩ := h
  have hsub := sub_enumerate
  have hL : Heap.IsTuple (Shared.heap ⟨hp, g, d, tk, os⟩) l items := ⟨_, hl, rfl, n, rfl⟩
  wp_walk using AutoSeq1.wpAny_loadPart' hl
  refine wpAny_stack_any fun st => wpAny_pure_any fun bb => ?_
  cases bb
  ·wp_walk using AutoSeq1.wpAny_loadPart' hl, wpAny_pyIter_tuple hL
   exact ⟨_, rfl, h⟩
  ·wp_walk using AutoSeq1.wpAny_loadPart' hl, wpAny_pyIter_tuple hL
   exact ⟨_, rfl, h⟩
theorem call_enumerate_tuple {prog : Program} {w : World} {E : Value → Shared → Prop} {s : Shared} {l : Addr} {items : Array Value} {QQ : Value → Shared → Prop} (hL : s.heap.IsTuple l items)
  (h : ∀ h', IsEnum h' (s.heap.objs.size + 1) s.heap.objs.size 0 .none → h'.IsTupleIter s.heap.objs.size l 0 → h'.objs.size = s.heap.objs.size + 2 →
   (∀ b o, s.heap.get? b = some o → h'.get? b = some o) → QQ (.ref (s.heap.objs.size + 1)) { s with heap := h' }) :
  wpAny (model prog w) A (call (.type "enumerate") [.ref l]) QQ E s := by
 refine hide ?_; intro g; obtain ⟨⟨c, dct, dt, sl⟩, hl, hc, n, hd⟩ := hL; dsimp only [g]
 replace hc : c = .type "tuple" := hc
 replace hd : dt = .seq items n := hd
 subst hc hd
 refine callType_new F.called_enumerate (by decide) (F.typeCall_enumerate_1 _) (F.newCall_enumerate_1 _) (fun obj => F.args_object_init_2 obj _) F.entry_enumerate_new
  (meets_enumerate_newT l items n dct sl) ⟨hl, ?_⟩
 have hz : (s.heap.push { cls := .type "tuple_iterator", data := .fields #[.ref l, .int 0 0] }).objs.size = s.heap.objs.size + 1 := Heap.size_push ..
 show _ ∧ _
 rw [hz]
 have he : IsEnum ((s.heap.push { cls := .type "tuple_iterator", data := .fields #[.ref l, .int 0 0] }).push
   { cls := .type "enumerate", data := .fields #[.none, .bool false, .ref s.heap.objs.size, rawInt 0, .none, .none] }) (s.heap.objs.size + 1) s.heap.objs.size 0 .none := by
  have := Heap.get?_push_size (s.heap.push { cls := .type "tuple_iterator", data := .fields #[.ref l, .int 0 0] })
   (o := { cls := .type "enumerate", data := .fields #[.none, .bool false, .ref s.heap.objs.size, rawInt 0, .none, .none] }) rfl
  rw [hz] at this; exact this
 exact ⟨⟨_, he, rfl⟩, h _ he ⟨_, Heap.get?_push_of_some _ (Heap.get?_push_size _ rfl), rfl, rfl⟩ (by rw [Heap.size_push, hz]) fun b o x => Heap.get?_push_of_some _ (Heap.get?_push_of_some _ x)⟩
theorem itr_enumT {elts : List Expr} {x1 : Nat} {tpos : Pos} {e I a : Addr} {b₀ : Heap} {vs : Array Value} {n : Nat} {ds : List D} (hh : A.handled = none) (hne : e ≠ I) (hei : e ≠ a) (hia : a ≠ I) (hg : b₀.get? a = some (seqObj "tuple" vs n)) (ra : RpAll X b₀ vs.toList ds) :
  Itr X A (.Tuple elts x1 tpos) (.ref e) b₀ [e, I] (fun i h => (∃ old, IsEnum h e I (i : Nat) old) ∧ h.IsTupleIter I a i ∧ i ≤ vs.size) (fun _ => some (enumD ds)) where
 frame := fun i h h' ⟨⟨old, j1⟩, ⟨o, j2, r⟩, j3⟩ k => ⟨⟨old, k e (by simp) _ j1⟩, ⟨o, k I (by simp) o j2, r⟩, j3⟩
 live := fun i h ⟨⟨old, j1⟩, ⟨o, j2, _⟩, _⟩ x hx => by
  rcases List.mem_cons.mp hx with rfl | hx
  ·exact ⟨_, j1⟩
  ·rw [List.mem_singleton.mp hx]; exact ⟨o, j2⟩
 item := fun env σ i ds' d s b S hb ⟨⟨old, j1⟩, j2, j3⟩ q g ap => by
  obtain rfl := Option.some.inj q
  obtain ⟨x, hx, rfl⟩ := enumD_get g
  obtain ⟨v, hv, r⟩ := (ra.mono hb).getD hx
  have hv' : vs[i]? = some v := by simpa using hv
  have hlt : i < vs.size := (Array.getElem?_eq_some_iff.mp hv').1
  have hef : e ∉ [I, a] := by simp [hne, hei]
  refine wpAny_pyNext_enum_itemD (drawsTuple (A := A.in1) hh I a hia vs) j1 ⟨j2, isTuple_of (S.hp.le _ _ (hb _ _ hg))⟩ hlt hne hef fun x' h' tk hx' k1 k2 k3 k4 k5 => ⟨_, rfl, ?_⟩
  rw [hv'] at hx'; obtain rfl := Option.some.inj hx'
  refine wpAny_letOwnedTupleGo_enum (s := { s with heap := h', toks := tk + 1 }) k1 fun h₂ m1 m2 => ?_
  have hT : ∀ y ∈ [e, I], s.heap.objs.size ≠ y := fun y hy z => by
   have : ∃ o, s.heap.get? y = some o := by
    rcases List.mem_cons.mp hy with rfl | hy
    ·exact ⟨_, j1⟩
    ·rw [List.mem_singleton.mp hy]; obtain ⟨o, j3, _⟩ := j2; exact ⟨o, j3⟩
   obtain ⟨o, ho⟩ := this
   rw [← z, fresh_none] at ho; exact nso ho
  have k5' : ∀ y o, y ∉ [e, I] → s.heap.get? y = some o → h₂.get? y = some o := fun y o hy q => (m2.2 y (fun z => hy (by simp [z]))).trans (k5 y o (fun z => hy (by simp [z])) (fun z => hy (by simp [z])) q)
  have hTg : h₂.get? s.heap.objs.size = some (seqObj "tuple" #[.int (i : Nat) tk, v] 0) := (m2.2 _ (hT e (by simp))).trans k3
  have hbh : Le b h₂ := fun y o q => k5' y o (fun z => by rw [ap.b y z] at q; exact nso q) (S.hp.le _ _ q)
  refine hide ?_; intro g; obtain ⟨⟨o2, hk2, hk2'⟩, _⟩ := k2; dsimp only [g]
  refine ⟨h₂, grow b h₂ (· == s.heap.objs.size), tk + 1, rfl, ⟨⟨v, ?_⟩, ⟨o2, (m2.2 _ (Ne.symm hne)).trans hk2, hk2'⟩, hlt⟩, k5', grow_le hbh, grow_in, fun y o q => ?_, ?_⟩
  ·have e1 : ((i : Nat) : Int) + 1 = ((i + 1 : Nat) : Int) := by lia
   rw [← e1]; exact m1
  ·rcases grow_new q with z | z
   ·exact .inl z
   ·exact .inr (by rw [beq_iff_eq.mp z]; exact fresh_none _)
  ·exact .tup (grow_get (by simp) hTg) (.cons (.int ..) (.cons (r.mono (grow_le hbh)) .nil))
 done := fun env σ i ds' s b S hb ⟨⟨old, j1⟩, j2, j3⟩ q g ap => by
  obtain rfl := Option.some.inj q
  have hx := enumD_none g
  have hlen := ra.length
  have hg' : ds.length ≤ i := by simpa using hx
  have hi : i = vs.size := by
   have : vs.size = ds.length := by rw [← hlen]; simp
   lia
  subst hi
  exact wpAny_pyNext_enum_endD (drawsTuple (A := A.in1) hh I a hia vs) j1 ⟨j2, isTuple_of (S.hp.le _ _ (hb _ _ hg))⟩ fun h' he => ⟨rfl, h', s.toks, rfl, fun x o hx e => he x o (fun z => hx (by simp [z])) e⟩
 self := fun i s QQ E j h => by obtain ⟨⟨old, j1⟩, j2⟩ := j; exact wpAny_pyIter_enum j1 h
theorem src_enumT {func e : Expr} {pos tpos : Pos} {elts : List Expr} {x1 : Nat} {ds : List D} {R : Sg → Prop} (hh : A.handled = none)
  (h : Ev X A env σ func (fun f σ₁ => f = .raw (.type "enumerate") ∧ Ev X A env σ₁ e (fun d σ₂ => d = .tup ds ∧ R σ₂)))
  (he : eval (.Call func [e] [] pos) env = (do callWith pos (← eval func env) [] (backTo pos (starEach [e] env)) (backToKw pos (keywordEach [] env))))
  (hst : starEach [e] env = (false, eval e env) :: starEach [] env) :
  Src X A env σ (.Call func [e] [] pos) (.Tuple elts x1 tpos) (fun _ => some (enumD ds)) R := fun s b S => by
 refine Call_ (wpAny_mono (h s b S) ?_ (fun _ _ x => x)) he
 rintro v₁ s₁ ⟨d₁, σ₁, b₁, E₁, S₁, r₁, rfl, h₁⟩
 obtain rfl := r₁.i_raw
 refine PySem.Pv.callWith_type1 (args_cons (wpAny_mono (h₁ s₁ b₁ S₁) ?_ (fun _ _ x => x)) hst) hst rfl
 rintro v₂ s₂ ⟨d₂, σ₂, b₂, E₂, S₂, r₂, rfl, hR⟩
 refine args_nil ?_
 obtain ⟨_, _, _, rfl, g, ra⟩ := r₂.i_tup
 rename_i a vs n
 refine call_enumerate_tuple (isTuple_of (S₂.hp.le _ _ g)) fun h' k1 k2 k3 k4 => ?_
 refine wpAny_pyIter_enum k1 ?_
 obtain ⟨S₃, E₃⟩ := S₂.extend (h' := h') (b' := b₂) (tk := s₂.toks) k4 (Le.refl _) (S₂.hp.le.trans k4) (fun a o e => .inl ⟨o, e⟩)
 have fr : ∀ y ∈ [s₂.heap.objs.size + 1, s₂.heap.objs.size], s₂.heap.get? y = none := fun y hy => by
  cases q : s₂.heap.get? y with
  | none => rfl
  | some o =>
   have := Heap.lt_size q
   rcases List.mem_cons.mp hy with rfl | hy
   ·exact absurd this (Nat.not_lt.mpr (Nat.le_succ _))
   ·rw [List.mem_singleton.mp hy] at this; exact absurd this (Nat.lt_irrefl _)
 have ha : a < s₂.heap.objs.size := Heap.lt_size (S₂.hp.le _ _ g)
 exact ⟨σ₂, b₂, [s₂.heap.objs.size + 1, s₂.heap.objs.size], _, (E₁.trans E₂).trans E₃, S₃, apart_new S₂ fr, fun y hy => E₁.ext.none (E₂.ext.none (fr y hy)), itr_enumT hh (Nat.succ_ne_self _) (Ne.symm (Nat.ne_of_lt (Nat.lt_succ_of_lt ha))) (Nat.ne_of_lt ha) g ra, ⟨⟨_, k1⟩, k2, Nat.zero_le _⟩, hR⟩
inductive QSetN1 (X : Cx) (attr : Str) (v : D) (Q : Fl → Sg → Prop) (d : D) (σ₂ : Sg) : Prop
 | mk (c a : Addr) (kds : List (Str × D)) (ω' : Om) (e : d = .obj c a) (u : Upd a (.dct kds) (.dct (kds ++ [(attr, v)])) σ₂.ω ω') (l : kds.lookup attr = none) (t : storesPlain X.K c attr = true) (z : kds.length < sizeLine) (p : Q .next ⟨σ₂.ρ, ω'⟩)
noncomputable abbrev QSetN (X : Cx) (A : Around) (env : Env) (o : Expr) (attr : Str) (Q : Fl → Sg → Prop) : D → Sg → Prop := fun v σ₁ => Ev X A env σ₁ o (QSetN1 X attr v Q)
theorem ex_setattr_new {o value : Expr} {attr : Str} {pos' pos : Pos}
  (h : Ev X A env σ value (QSetN X A env o attr Q))
  (hs : swapsWith value (some (.Attribute o attr pos')) pos.line env = pure false) : Ex X A env σ (.Assign [.Attribute o attr pos'] value pos) Q :=
 ex_setattr (Tr.mono h fun v σ₁ h₁ => Tr.mono h₁ fun d σ₂ ⟨c, a, kds, ω', h1, h2, h3, h4, h5, h6⟩ => ⟨c, a, kds, ω', h1, by rw [put_new h3]; exact h2, h4, h5, h6⟩) hs
theorem joins_mono {M : Model} {parts : List (Sem Value)} : ∀ {acc : Str} {Q₁ Q₂ : Str → Shared → Prop} {s : Shared}, Joins M A Never parts acc Q₁ s → (∀ o s, Q₁ o s → Q₂ o s) → Joins M A Never parts acc Q₂ s := by
 induction parts with
 | nil => intro _ _ _ _ h k; exact k _ _ h
 | cons _ _ ih => intro _ _ _ _ h k; exact wpAny_mono h (fun v s₁ ⟨y, t, e, z, r⟩ => ⟨y, t, e, z, ih r k⟩) (fun _ _ x => x)
noncomputable def TrJ (X : Cx) (A : Around) (env : Env) (σ : Sg) (parts : List (Sem Value)) (acc : Str) (PJ : Str → Sg → Prop) : Prop :=
 ∀ s b, St X env σ b s → Joins X.M A Never parts acc (fun out s' => ∃ σ' b', Evo X env σ σ' s b s' b' ∧ St X env σ' b' s' ∧ PJ out σ') s
theorem trj_nil {acc : Str} {PJ : Str → Sg → Prop} (p : PJ acc σ) : TrJ X A env σ (evalEach [] env) acc PJ := fun s b S => ⟨σ, b, Evo.refl .., S, p⟩
theorem trj_cons {e : Expr} {rest : List Expr} {acc : Str} {PJ : Str → Sg → Prop} (h : Ev X A env σ e (fun d σ₁ => ∃ y, d = .str y ∧ (acc ++ y).length ≤ sizeLine ∧ TrJ X A env σ₁ (evalEach rest env) (acc ++ y) PJ))
  (he : evalEach (e :: rest) env = eval e env :: evalEach rest env) : TrJ X A env σ (evalEach (e :: rest) env) acc PJ := fun s b S => by
 rw [he]
 refine wpAny_mono (h s b S) ?_ (fun _ _ x => x)
 rintro v s₁ ⟨d, σ₁, b₁, E₁, S₁, r₁, y, rfl, hz, h₁⟩
 obtain ⟨_, rfl⟩ := r₁.i_str
 exact ⟨y, _, rfl, hz, joins_mono (h₁ s₁ b₁ S₁) fun o s₂ ⟨σ₂, b₂, E₂, S₂, p⟩ => ⟨σ₂, b₂, E₁.trans E₂, S₂, p⟩⟩
theorem ev_joined {v₁ v₂ : Expr} {rest : List Expr} {pos : Pos} (h : TrJ X A env σ (evalEach (v₁ :: v₂ :: rest) env) Str.empty (fun out σ₁ => out.length ≤ sizeLine ∧ P (.str out) σ₁)) : Ev X A env σ (.JoinedStr (v₁ :: v₂ :: rest) pos) P := fun s b S => by
 refine wpAny_JoinedStr (joins_mono (h s b S) ?_)
 rintro o s₁ ⟨σ₁, b₁, E₁, S₁, hz, p⟩
 exact ⟨hz, (Po.tok S₁ (.str ..) p).after E₁⟩
theorem ev_fmt_str {value : Expr} {pos : Pos} (h : Ev X A env σ value (fun d σ₁ => ∃ x, d = .str x ∧ x.length ≤ sizeLine ∧ P (.str x) σ₁)) : Ev X A env σ (.FormattedValue value 115 none pos) P := fun s b S => by
 refine wpAny_FormattedValue_s (wpAny_mono (h s b S) ?_ (fun _ _ x => x))
 rintro v s₁ ⟨d, σ₁, b₁, E₁, S₁, r₁, x, rfl, hz, p⟩
 obtain ⟨_, rfl⟩ := r₁.i_str
 have fin : ∀ (tk : Nat) (t : Tok), wpAny X.M A (formatField (.str x t) Str.empty) (Po X env σ s b P) Never { s₁ with toks := tk } := fun tk t =>
  wpAny_formatField_str ((Po.tok S₁ (.str ..) p).after E₁) ((Po.tok S₁ (.str ..) p).after E₁) hz
 exact wpAny_habitSame_str (fin s₁.toks _) (fin _ _) hz
theorem ev_fmt_list {value : Expr} {pos : Pos} {k : Nat} (R : ARoom k A) (h : Ev X A env σ value (fun d σ₁ => ∃ ss : List Str, d = .list (ss.map .str) ∧ okd 5 (.list (ss.map D.str)) = true ∧ (shownS ss).length ≤ 1000000 ∧ P (.str (shownS ss)) σ₁)) : Ev X A env σ (.FormattedValue value 115 none pos) P := fun s b S => by
 refine wpAny_FormattedValue_s (wpAny_mono (h s b S) ?_ (fun _ _ x => x))
 rintro v s₁ ⟨d, σ₁, b₁, E₁, S₁, r₁, ss, rfl, hd, hz, p⟩
 obtain ⟨as, rd⟩ := reads_of 5 _ _ r₁ hd
 obtain ⟨h3, h4⟩ := okd_lay _ _ hd
 have h2 := PyData.hasDict_of_canLay _ h3
 obtain ⟨_, _, _, rfl, g, ra⟩ := r₁.i_list
 rename_i a vs n
 refine convS_of_reads rd (show_strs ss) (fun z => by rw [h2] at z; exact fet z) R.gd (by have := R.units; lia) S₁.hp.le (fun h' u tk hk => ?_) (by have := hsl; have : (shownS ss).length = (D.list (ss.map D.str)).py.shown.length := rfl; lia)
 obtain ⟨S₂, E₂⟩ := S₁.extend (h' := h') (b' := b₁) (tk := tk) hk (Le.refl _) (S₁.hp.le.trans hk) (fun a o e => .inl ⟨o, e⟩)
 refine wpAny_formatField_str ?_ ?_ (by have := hsl; have : (shownS ss).length = (D.list (ss.map D.str)).py.shown.length := rfl; lia)
 ·exact ⟨_, σ₁, b₁, E₁.trans E₂, S₂, .str .., p⟩
 ·exact ((Po.tok S₂ (.str ..) p).after E₂).after E₁
theorem TrB.sub {PB : Bool → Sg → Prop} {ρ ρ' : List (Str × D)} {ω : Om} {t : Sem Bool} (h : Sub ρ ρ') (x : TrB X A env ⟨ρ', ω⟩ t PB) : TrB X A env ⟨ρ, ω⟩ t PB := fun s b S =>
 wpAny_mono (x s b (S.sub h)) (fun f s' ⟨σ', b', E, S', p⟩ => ⟨σ', b', ⟨E.ext, E.dom⟩, S', p⟩) fun _ _ x => x
theorem RetC.same (c : C) {ω : Om} {fz : List Addr} : RetC X ω fz c c := by
 cases c with
 | lst ds => exact RetAll.same ds
 | dct ds => exact RetKv.same ds
 | raw I => exact rfl
theorem ol_refreeze {f : List Value → Sem Value} {ds : List D} (h : OpL X A env σ f ds (fun d σ₁ => ∃ fz d' ω', (∀ a ∈ fz, a ∈ σ₁.ω.map (·.1)) ∧ ((σ₁.ω.map (·.1)).Nodup → (∀ p ∈ ω', p.1 ∉ fz ∧ ∃ c, (p.1, c) ∈ σ₁.ω ∧ RetC X σ₁.ω fz c p.2) ∧ (ω'.map (·.1)).Nodup) ∧ Ret X σ₁.ω fz d d' ∧ P d' ⟨σ₁.ρ, ω'⟩)) : OpL X A env σ f ds P := fun s b vs S rv => by
 refine wpAny_mono (h s b vs S rv) ?_ (fun _ _ x => x)
 rintro v s₁ ⟨d, ⟨ρ₁, ω₁⟩, b₁, E₁, S₁, r₁, fz, d', ω', hfz, hω, hr, p⟩
 obtain ⟨b₂, l₂, S₂, E₂, g₂⟩ := S₁.refreeze (ρ' := ρ₁) fz hfz (hω S₁.hp.nod).1 (hω S₁.hp.nod).2 (fun x d e => ⟨d, e, .same d⟩)
 exact ⟨d', _, b₂, E₁.trans E₂, S₂, hr _ _ _ S₁.hp.cell l₂ g₂ v r₁, p⟩
theorem wpAny_SliceOf {prog : Program} {w : World} {E : Value → Shared → Prop} {s : Shared} {value : Expr} {lower upper : Option Expr} {p pos : Pos} {T id : String} {Q : Value → Shared → Prop}
  (hl : typeLookup (.type T) "__getitem__" = pure (some (.builtin id)))
  (h : wpAny (model prog w) A (eval value env) (fun o s₁ => wpAny (model prog w) A (eval (.Slice lower upper none p) env) (fun i s₂ => s₂.TypeIs o T ∧ wpAny (model prog w) A (getItem o i) Q E s₂) E s₁) E s) :
  wpAny (model prog w) A (eval (.Subscript value (.Slice lower upper none p) pos) env) Q E s := by
 rw [eval_Subscript]
 refine wpAny_bind (wpAny_mono h (fun o s₁ h₁ => wpAny_bind (wpAny_holding (wpAny_mono h₁ (fun i s₂ h₂ => wpAny_bind (wpAny_standAt ?_)) fun _ _ x => x)))
  fun _ _ x => x)
 have fin : wpAny (model prog w) A (operate [i, o] (getItem o i)) (fun r s₃ => wpAny (model prog w) A (letTemporaryGo value o r >>= fun _ => pure r) Q E s₃) E s₂ :=
  wpAny_operating (wpAny_mono h₂.2 (fun r s₃ h₃ => wpAny_bind (wpAny_letTemporaryGo (wpAny_pure h₃))) fun _ _ x => x)
 first
  | (refine wpAny_bind ?_; rw [getitemInPython_of_ne h₂.1.not_modules]; refine wpAny_bind (wpAny_specialOf h₂.1 hl ?_); first | exact wpAny_pure (wpAny_bind fin) | exact wpAny_bind (wpAny_pure (wpAny_bind fin)) | exact wpAny_bind fin)
  | (refine wpAny_bind (wpAny_specialOf h₂.1 hl ?_); first | exact wpAny_bind (wpAny_pure (wpAny_bind fin)) | exact wpAny_bind fin)
theorem RpAll.drop' {b : Heap} : ∀ (k : Nat) {l : List Value} {m : List D}, RpAll X b l m → RpAll X b (l.drop k) (m.drop k) := by
 intro k
 induction k with
 | zero => intro l m h; simpa using h
 | succ k ih => intro l m h; cases h with
  | nil => simpa using RpAll.nil
  | cons r q => simpa using ih q
theorem ev_slice_fromA {v lo : Expr} {p pos : Pos} (h : Ev X A env σ v (fun d σ₁ => Ev X A env σ₁ lo (fun i σ₂ => ∃ (ds : List D) (k : Nat), i = .int (k : Int) ∧ k ≤ ds.length ∧ ds.length ≤ sizeLine ∧ Lst X σ₂ d ds ∧ P (.list (ds.drop k)) σ₂)))
  (hp : evalPart (some lo) env = eval lo env) : Ev X A env σ (.Subscript v (.Slice (some lo) none none p) pos) P := fun s b S => by
 refine wpAny_SliceOf (T := "list") list_getitem_lookup (wpAny_mono (h s b S) ?_ fun _ _ x => x)
 rintro o s₁ ⟨d, σ₁, b₁, E₁, S₁, r₁, h₁⟩
 refine wpAny_Slice ?_
 rw [hp]
 refine wpAny_mono (h₁ s₁ b₁ S₁) ?_ fun _ _ x => x
 rintro vl s₂ ⟨i, σ₂, b₂, E₂, S₂, r₂, ds, k, rfl, hk, hz, hl, p⟩
 rw [evalPart_none]
 refine wpAny_pure (wpAny_pure ?_)
 obtain ⟨a, vs, n, rfl, g, ra⟩ := hl.at S₂ (r₁.mono E₂.ext.le)
 obtain ⟨_, rfl⟩ := r₂.i_int
 rename_i tk
 have e : vs.size = ds.length := by rw [← ra.length]; simp
 refine ⟨((isList_of g).push _).typeIs, wpAny_getItem_list_slice ((isList_of g).push _) (Heap.IsSliceOf.new ..) (lo := some (k : Int)) (hi := none) (.int ..) .none .none (by simp) ?_ (by exact Nat.le_trans (Nat.le_of_eq e) hz)⟩
 rw [slicePick_from vs k (by exact Nat.le_trans hk (Nat.le_of_eq e.symm))]
 refine hide ?_; intro g; obtain ⟨b₃, l₃, g₃, S₃, E₃⟩ := S₂.allocD { cls := .type "slice", data := .fields #[.int (k : Int) tk, .none, .none] }; dsimp only [g]
 refine hide ?_; intro g; obtain ⟨b₄, l₄, g₄, S₄, E₄⟩ := S₃.allocD (seqObj "list" (vs.toList.drop k).toArray 0); dsimp only [g]
 refine ⟨.list (ds.drop k), σ₂, b₄, ((E₁.trans E₂).trans E₃).trans E₄, S₄, ?_, p⟩
 refine .list g₄ ?_
 simpa using (RpAll.drop' k ra).mono (l₃.trans l₄)
theorem ev_slice_fromTA {v lo : Expr} {p pos : Pos} (h : Ev X A env σ v (fun d σ₁ => Ev X A env σ₁ lo (fun i σ₂ => ∃ (ds : List D) (k : Nat), i = .int (k : Int) ∧ 1 ≤ k ∧ k ≤ ds.length ∧ ds.length ≤ sizeLine ∧ d = .tup ds ∧ P (.tup (ds.drop k)) σ₂)))
  (hp : evalPart (some lo) env = eval lo env) : Ev X A env σ (.Subscript v (.Slice (some lo) none none p) pos) P := fun s b S => by
 refine wpAny_SliceOf (T := "tuple") slot_tuple_getitem.lookup (wpAny_mono (h s b S) ?_ fun _ _ x => x)
 rintro o s₁ ⟨d, σ₁, b₁, E₁, S₁, r₁, h₁⟩
 refine wpAny_Slice ?_
 rw [hp]
 refine wpAny_mono (h₁ s₁ b₁ S₁) ?_ fun _ _ x => x
 rintro vl s₂ ⟨i, σ₂, b₂, E₂, S₂, r₂, ds, k, rfl, hk1, hk, hz, rfl, p⟩
 rw [evalPart_none]
 refine wpAny_pure (wpAny_pure ?_)
 obtain ⟨_, _, _, rfl, g, ra⟩ := r₁.i_tup
 rename_i a vs n
 obtain ⟨_, rfl⟩ := r₂.i_int
 rename_i tk
 have e : vs.size = ds.length := by rw [← ra.length]; simp
 have g2 := S₂.hp.le _ _ (E₂.ext.le _ _ g)
 refine hide ?_; intro g; obtain ⟨b₃, l₃, g₃, S₃, E₃⟩ := S₂.allocD { cls := .type "slice", data := .fields #[.int (k : Int) tk, .none, .none] }; dsimp only [g]
 refine hide ?_; intro g; obtain ⟨b₄, l₄, g₄, S₄, E₄⟩ := S₃.allocD (seqObj "tuple" (vs.toList.drop k).toArray 0); dsimp only [g]
 have hT : IsTup (s₂.heap.push { cls := .type "slice", data := .fields #[.int (k : Int) tk, .none, .none] }) a vs := ⟨_, le_push _ _ _ _ g2, rfl, n, rfl⟩
 refine ⟨hT.typeIs, getItem_tuple_from hT (Heap.IsSliceOf.new ..) hk1 (by exact Nat.le_trans hk (Nat.le_of_eq e.symm)) ?_ (by exact Nat.le_trans (Nat.le_of_eq e) hz)⟩
 refine ⟨.tup (ds.drop k), σ₂, b₄, ((E₁.trans E₂).trans E₃).trans E₄, S₄, ?_, p⟩
 refine .tup g₄ ?_
 simpa using (RpAll.drop' k ra).mono ((E₂.ext.le.trans l₃).trans l₄)
end
section
noncomputable abbrev X3 (w : World) (mg mb : Str → Option Value) (fr : List Env) : Cx := ⟨PySem.Challenge.rw_rp0001_01.row.prog, w, K1 w.params, view1, looseW view1 loose1, mg, mb, fr⟩
variable {w : World} {mg mb : Str → Option Value} {fr : List Env} {A : Around} {env : Env} {σ : Sg} {P : D → Sg → Prop} {Q : Fl → Sg → Prop}
theorem next_nil {t : Addr} {k : Nat} (R : ARoom (k + 1) A) (h : (t, C.lst []) ∈ σ.ω) (p : P (.int 0) σ) : OpL (X3 w mg mb fr) A env σ (fun vs => call (.ref 259) vs) [.raw (.ref t)] P := by
 refine fn_call (dbs := [("tape", .raw (.ref t))]) ⟨⟨_, _, _, rfl⟩, rfl, rfl, rfl, rfl, rfl, rfl, rfl, rfl, rfl, rfl, rfl, rfl⟩ R.room ?_ rfl rfl ?_
 ·intro s b vs T hb r
  replace r := r.i_one; obtain ⟨_, rfl, r⟩ := r; obtain rfl := r.i_raw; exact ⟨_, BindsTo.of_eq rfl, .cons (.raw _) .nil⟩
 ·intro L
  refine exs_cons (ex_ret (ev_if (te_plain (ev_var rfl rfl ?_ rfl rfl) rfl)))
  refine ob_list (ds := []) (.cell h) (by decide) (ite_f rfl ?_)
  exact ev_int p
theorem next_cons {t : Addr} {n : Int} {ns : List D} {ω' : Om} {k : Nat} (R : ARoom (k + 1) A) (u : Upd t (.lst (.int n :: ns)) (.lst ns) σ.ω ω') (hz : ns.length < sizeLine) (p : P (.int n) ⟨σ.ρ, ω'⟩) : OpL (X3 w mg mb fr) A env σ (fun vs => call (.ref 259) vs) [.raw (.ref t)] P := by
 refine fn_call (dbs := [("tape", .raw (.ref t))]) ⟨⟨_, _, _, rfl⟩, rfl, rfl, rfl, rfl, rfl, rfl, rfl, rfl, rfl, rfl, rfl, rfl⟩ R.room ?_ rfl rfl ?_
 ·intro s b vs T hb r
  replace r := r.i_one; obtain ⟨_, rfl, r⟩ := r; obtain rfl := r.i_raw; exact ⟨_, BindsTo.of_eq rfl, .cons (.raw _) .nil⟩
 ·intro L
  refine exs_cons (ex_ret (ev_if (te_plain (ev_var rfl rfl ?_ rfl rfl) rfl)))
  refine ob_list (ds := .int n :: ns) (.cell u.mem) hz (ite_t rfl ?_)
  refine ev_meth (T := "list") (id := "list.pop") (ev_var rfl rfl ⟨isTy_lst (.cell u.mem), trl_cons (ev_int (trl_nil ?_)) rfl⟩ rfl rfl) F.plainAttrs_list F.slot_list_pop F.type_list_pop rfl rfl rfl rfl rfl
  exact ol_pop0 u hz p
theorem enumD_map {α : Type} (l : List α) (g : α → D) : enumD (l.map g) = l.zipIdx.map fun p => .tup [.int (p.2 : Nat), g p.1] := by
 unfold enumD
 rw [List.zipIdx_map, List.map_map]
 rfl
theorem zipIdx_split {α : Type} {l : List α} {pre post : List (α × Nat)} {x : α} {i : Nat} (h : l.zipIdx = pre ++ (x, i) :: post) : i = pre.length ∧ i < l.length := by
 have h1 : l.zipIdx[pre.length]? = some (x, i) := by rw [h]; simp
 rw [List.getElem?_zipIdx] at h1
 cases q : l[pre.length]? with
 | none => rw [q] at h1; exact nso h1
 | some y =>
  rw [q] at h1
  simp at h1
  have := (List.getElem?_eq_some_iff.mp q).1
  exact ⟨h1.2.symm, by rw [← h1.2]; exact this⟩
end
section
variable {X : Cx} {A : Around} {env : Env} {σ : Sg} {P : D → Sg → Prop} {Q : Fl → Sg → Prop} {α : Type}
noncomputable def TrU (X : Cx) (A : Around) (env : Env) (σ : Sg) (t : Sem Unit) (R : Sg → Prop) : Prop := ∀ s b, St X env σ b s → wpAny X.M A t (fun _ s' => PoA X env σ s b R s') Never s
noncomputable abbrev testsOf (ifs : List Expr) (cenv : Env) : Sem Bool := forIn ifs true fun c r => if r = true then do let ok ← isTrue c cenv (eval c cenv); pure (ForInStep.yield ok) else pure (ForInStep.yield r)
noncomputable def LoopR (X : Cx) (A : Around) (e : Expr) (dep : Nat) (target : Expr) (ifs : List Expr) (EM : Value → Env → Sem Unit) : Prop :=
 ∀ (it acc : Value) (cenv : Env) (R : Result → Shared → Prop) (I : Nat → Shared → Prop),
  (∀ n s, I n s → wpAny X.M A (pyNext it) (fun r s₁ => match r with
   | none => R (.ok .next) s₁
   | some v => wpAny X.M A (letOwnedTupleGo target it v) (fun _ s₂ => wpAny X.M A (assign target cenv v) (fun _ s₃ => wpAny X.M A (testsOf ifs cenv) (fun ok s₄ =>
      if ok = true then wpAny X.M A (EM acc cenv) (fun _ s₅ => ∃ m, m < n ∧ I m s₅) Never s₄ else ∃ m, m < n ∧ I m s₄) Never s₃) Never s₂) Never s₁) Never s) →
  ∀ n s, I n s → codeAny X.M A (.compLoop e dep it acc cenv) R s
noncomputable def StartR (X : Cx) (A : Around) (e : Expr) (dep : Nat) : Prop := ∀ (it acc : Value) (env : Env) (R : Result → Shared → Prop) (s : Shared), codeAny X.M A (.compLoop e dep it acc env) R s →
  wpAny X.M A (pyIter it) (fun it' s' => codeAny X.M A (.compLoop e dep it' acc env) R s') Never s → codeAny X.M A (.compStart e dep it acc env) R s
theorem loop_of {e : Expr} {dep : Nat} {target : Expr} {ifs : List Expr} {EM : Value → Env → Sem Unit} (pos : Pos)
  (hq : ∀ it acc cenv, (Code.compLoop e dep it acc cenv).quiet = true) (hA : ∀ it acc cenv, A.under (.compLoop e dep it acc cenv) = A)
  (hd : ∀ it acc cenv, X.M.den (.compLoop e dep it acc cenv) = (do
   standAt pos
   match ← pyNext it with
   | none => pure (.done .next)
   | some v =>
    letOwnedTupleGo target it v
    assign target cenv v
    let ok ← testsOf ifs cenv
    if ok then EM acc cenv
    again (.compLoop e dep it acc cenv) : Sem Fin).onRaise (fun x => do noteFrame x cenv; theTreesLotGoes x)) : LoopR X A e dep target ifs EM := by
 intro it acc cenv R I turn n s h
 refine codeAny_loop (hq ..) I (fun n s hI => ?_) n h
 rw [hA, hd]
 refine wpAny_noted ?_
 refine wpAny_bind (wpAny_standAt (wpAny_bind (wpAny_mono (turn n s hI) (fun r s₁ h₁ => ?_) fun _ _ h' => h'.elim)))
 cases r with
 | none => exact wpAny_pure h₁
 | some v =>
  refine wpAny_bind (wpAny_mono h₁ (fun _ s₂ h₂ => wpAny_bind (wpAny_mono h₂ (fun _ s₃ h₃ => wpAny_bind (wpAny_mono h₃ (fun ok s₄ h₄ => ?_) fun _ _ h' => h'.elim)) fun _ _ h' => h'.elim)) fun _ _ h' => h'.elim)
  cases ok with
  | false => exact wpAny_pure ⟨rfl, h₄⟩
  | true => exact wpAny_bind (wpAny_mono h₄ (fun _ s₅ h₅ => wpAny_pure ⟨rfl, h₅⟩) fun _ _ h' => h'.elim)
noncomputable abbrev emL (elt : Expr) (acc : Value) (env : Env) : Sem Unit := do let _ ← call (.builtin "list.append") [acc, ← eval elt env]
noncomputable abbrev emD (k v : Expr) (acc : Value) (env : Env) : Sem Unit := do
 let kv ← eval k env
 let vv ← holding [kv] (eval v env)
 match acc with
 | .ref d => do
  standAt { k.pos with endLine := v.pos.endLine, endCol := v.pos.endCol }
  holding [kv, vv] (dictSet d kv vv)
 | _ => unsupported "internal:dictcomp"
noncomputable abbrev emI (e : Expr) (dep : Nat) (iter : Expr) (acc : Value) (env : Env) : Sem Unit := do
 let x ← eval iter env
 standAt iter.pos
 let x ← foldedSetIterable iter env x
 let _ ← runOwn (.compStart e dep (← holding [x] (pyIter x)) acc env) env
theorem loop_l {elt target iter : Expr} {ifs : List Expr} {scope : Scope} {pos : Pos} : LoopR X A (.ListComp elt [⟨target, iter, ifs, 0⟩] scope pos) 0 target ifs (emL elt) :=
 loop_of iter.pos (fun _ _ _ => rfl) (fun _ _ _ => rfl) (fun _ _ _ => rfl)
theorem loop_d {k v target iter : Expr} {ifs : List Expr} {scope : Scope} {pos : Pos} : LoopR X A (.DictComp k v [⟨target, iter, ifs, 0⟩] scope pos) 0 target ifs (emD k v) :=
 loop_of iter.pos (fun _ _ _ => rfl) (fun _ _ _ => rfl) (fun _ _ _ => rfl)
theorem loop_0 {elt target iter t2 i2 : Expr} {ifs ifs2 : List Expr} {scope : Scope} {pos : Pos} : LoopR X A (.ListComp elt [⟨target, iter, ifs, 0⟩, ⟨t2, i2, ifs2, 0⟩] scope pos) 0 target ifs (emI (.ListComp elt [⟨target, iter, ifs, 0⟩, ⟨t2, i2, ifs2, 0⟩] scope pos) 1 i2) :=
 loop_of iter.pos (fun _ _ _ => rfl) (fun _ _ _ => rfl) (fun _ _ _ => by simp only [emI, bind_assoc, pure_bind]; rfl)
theorem loop_1 {elt target iter t2 i2 : Expr} {ifs ifs2 : List Expr} {scope : Scope} {pos : Pos} : LoopR X A (.ListComp elt [⟨target, iter, ifs, 0⟩, ⟨t2, i2, ifs2, 0⟩] scope pos) 1 t2 ifs2 (emL elt) :=
 loop_of i2.pos (fun _ _ _ => rfl) (fun _ _ _ => rfl) (fun _ _ _ => rfl)
theorem start_l {elt target iter : Expr} {ifs : List Expr} {rest : List Comprehension} {scope : Scope} {pos : Pos} : StartR X A (.ListComp elt (⟨target, iter, ifs, 0⟩ :: rest) scope pos) 0 :=
 fun it acc env R s h0 h => codeAny_compStart_list h0 (wpAny_mono h (fun _ _ x => x) fun _ _ x => x.elim)
theorem start_d {k v target iter : Expr} {ifs : List Expr} {scope : Scope} {pos : Pos} : StartR X A (.DictComp k v [⟨target, iter, ifs, 0⟩] scope pos) 0 :=
 fun it acc env R s h0 h => codeAny_compStart_dict h0 (wpAny_mono h (fun _ _ x => x) fun _ _ x => x.elim)
theorem start_1 {elt target iter t2 i2 : Expr} {ifs ifs2 : List Expr} {scope : Scope} {pos : Pos} : StartR X A (.ListComp elt [⟨target, iter, ifs, 0⟩, ⟨t2, i2, ifs2, 0⟩] scope pos) 1 := by
 intro it acc env R s h0 h
 refine codeAny_of_tree ?_
 show wpAny _ _ ((compStart (.ListComp elt [⟨target, iter, ifs, 0⟩, ⟨t2, i2, ifs2, 0⟩] scope pos) 1 it acc env).onRaise (fun x => do noteFrame x env; standAt theWindowsPlace)) _ _ s
 refine wpAny_notedAt ?_
 unfold compStart
 show wpAny _ _ (ask >>= _) _ _ s
 refine wpAny_bind (wpAny_askSetting (wpAny_ite ?_))
 split
 ·first
   | exact wpAny_bind (wpAny_pure (wpAny_pure (And.intro rfl h0)))
   | exact wpAny_pure (And.intro rfl h0)
 ·refine wpAny_bind (wpAny_rule ?_)
  show wpAny _ _ (standAt i2.pos >>= _) _ _ s
  exact wpAny_bind (wpAny_standAt (wpAny_bind (wpAny_mono h (fun it' s' h' => wpAny_pure (And.intro rfl h')) fun _ _ x => x.elim)))
inductive CompEndG (mk : α → C) (X : Cx) (env : Env) (σ : Sg) (s : Shared) (b : Heap) (P : D → Sg → Prop) (acc Ca : Addr) (s' : Shared) : Prop
 | mk (out : α) (ω' : Om) (b' : Heap) (E : Evo X env σ ⟨σ.ρ, (acc, mk out) :: ω'⟩ s b s' b') (S : St X env ⟨σ.ρ, (acc, mk out) :: ω'⟩ b' s') (p : P (.raw (.ref acc)) ⟨σ.ρ, (acc, mk out) :: ω'⟩) (a : Apart X [Ca] env ((acc, mk out) :: ω') b') (n : s.heap.get? Ca = none) (m : ∃ m, s'.heap.Ns Ca m)
structure CompPreG (mk : α → C) (out0 : α) (X : Cx) (A : Around) (env : Env) (σ : Sg) (EM : Value → Env → Sem Unit) (target iter : Expr) (ifs : List Expr) (scope : Scope) (P : D → Sg → Prop) (seq : Sg → Option (List D)) (N : Nat) (Inv : Nat → α → Om → Prop) : Prop where
 src : Src X A env σ iter target seq (fun σ₁ => σ₁.ρ = σ.ρ ∧ Inv 0 out0 σ₁.ω)
 len : ∀ i out ω acc, Inv i out ω → ∃ ds, seq ⟨pick (freesOf scope) σ.ρ, (acc, mk out) :: ω⟩ = some ds ∧ ds.length ≤ N
 step : ∀ cl Ca acc i out ω ds d, Inv i out ω → seq ⟨pick (freesOf scope) σ.ρ, (acc, mk out) :: ω⟩ = some ds → ds[i]? = some d →
   Asg X A (compEnvC scope cl Ca env) ⟨pick (freesOf scope) σ.ρ, (acc, mk out) :: ω⟩ target d (fun σ₁ => TsB X A (compEnvC scope cl Ca env) σ₁ ifs (fun c σ₂ =>
    if c = true then TrU X A (compEnvC scope cl Ca env) σ₂ (EM (.ref acc) (compEnvC scope cl Ca env)) (fun σ₃ => ∃ out' ω', σ₃.ω = (acc, mk out') :: ω' ∧ Inv (i + 1) out' ω')
    else ∃ ω', σ₂.ω = (acc, mk out) :: ω' ∧ Inv (i + 1) out ω'))
 fin : ∀ i out ω ds acc, Inv i out ω → seq ⟨pick (freesOf scope) σ.ρ, (acc, mk out) :: ω⟩ = some ds → ds[i]? = none → P (.raw (.ref acc)) ⟨σ.ρ, (acc, mk out) :: ω⟩
structure NewR (X : Cx) (A : Around) (newAcc : Sem Value) (o : Obj) (c : C) : Prop where
 run : ∀ (s : Shared) (QQ : Value → Shared → Prop) (E : Value → Shared → Prop), QQ (.ref s.heap.objs.size) { s with heap := s.heap.push o } → wpAny X.M A newAcc QQ E s
 cell : ∀ env σ s b, St X env σ b s → CellAt X b (s.heap.push o) s.heap.objs.size c
theorem new_l : NewR X A (newList []) (seqObj "list" #[] 0) (.lst []) :=
 ⟨fun s QQ E h => wpAny_newObj_type h (by show (0 : Nat) ≤ sizeLine; exact Nat.zero_le _), fun env σ s b S => ⟨#[], 0, Heap.get?_push_size _ rfl, .nil⟩⟩
theorem new_d : NewR X A newDict emptyDict (.dct []) :=
 ⟨fun s QQ E h => wpAny_bind (wpAny_alloc (wpAny_pure h)), fun env σ s b S => cell_new S⟩
theorem comp_any {mk : α → C} {out0 : α} {e target iter : Expr} {EM : Value → Env → Sem Unit} {ifs : List Expr} {scope : Scope} {newAcc : Sem Value} {oN : Obj} {seq : Sg → Option (List D)} {N : Nat} {Inv : Nat → α → Om → Prop}
  (ok : CompOk scope env) (hL : LoopR X A e 0 target ifs EM) (hSt : StartR X A e 0) (hN : NewR X A newAcc oN (mk out0)) (hp : CompPreG mk out0 X A env σ EM target iter ifs scope P seq N Inv) :
  ∀ s b, St X env σ b s → wpAny X.M A (eval iter env) (fun x s₁ => wpAny X.M A (pyIter x) (fun it s₂ => wpAny X.M A newAcc (fun acc s₃ =>
   wpAny X.M A (newFunctionEnv scope env.globals (clo env.cells scope.names []) [] env.qual none .none (some env)) (fun cenv s₄ =>
    codeAny X.M A (.compStart e 0 it acc { cenv with scope := relabel scope env }) (fun r s' => ∃ f a, r = .ok f ∧ acc = .ref a ∧ CompEndG mk X env σ s b P a cenv.locals s') s₄)
    Never s₃) Never s₂) Never s₁) Never s := by
 intro s b S
 refine wpAny_mono (hp.src s b S) ?_ (fun _ _ x => x)
 intro x s₁ hx
 refine wpAny_mono hx ?_ (fun _ _ x => x)
 rintro it s₂ ⟨σ₁, b₁, own, J, E₂, S₂, ap₂, hfr, I, hJ, hρ, hI0⟩
 obtain ⟨ρ₁, ω₁⟩ := σ₁
 dsimp only at hρ hI0 ap₂
 subst hρ
 obtain ⟨S₃, E₃⟩ := S₂.allocC oN (mk out0) (hN.cell _ _ _ _ S₂)
 refine hN.run _ _ _ ?_
 generalize hacc : s₂.heap.objs.size = acc at S₃ E₃ ⊢
 have accNone : s₂.heap.get? acc = none := hacc ▸ fresh_none _
 generalize hs₃ : ({ s₂ with heap := s₂.heap.push oN } : Shared) = s₃ at S₃ E₃ ⊢
 have S₃' : St X env ⟨σ.ρ, (acc, mk out0) :: ω₁⟩ b₁ s₃ := S₃
 have E₃' : Evo X env ⟨σ.ρ, ω₁⟩ ⟨σ.ρ, (acc, mk out0) :: ω₁⟩ s₂ b₁ s₃ b₁ := E₃
 have ap₃ : Apart X own env ((acc, mk out0) :: ω₁) b₁ := ap₂.after (σ := ⟨σ.ρ, ω₁⟩) (σ' := ⟨σ.ρ, (acc, mk out0) :: ω₁⟩) E₃' (I.live _ _ hJ)
 have hJ₃ : J 0 s₃.heap := I.frame _ _ _ hJ fun a ha o e => ap₂.keep (σ := ⟨σ.ρ, ω₁⟩) E₃' ha e
 refine wpAny_newFunctionEnv ok.noCell (by intro y hy; cases hy) (fun h₄ hns hsb => ?_) ok.kind
 obtain ⟨hv, CNone, CNone₀, hle₄, hvle, hvn, SV, EV, back, SC, apC⟩ := comp_setup ok S E₂ S₃' E₃' ap₃ hfr (I.live _ _ hJ₃) hns hsb
 have hJ₄ : J 0 h₄ := I.frame _ _ _ hJ₃ fun a ha o e => hle₄ _ _ e
 generalize hC : s₃.heap.objs.size = cA at hns hsb CNone CNone₀ back SC apC ⊢
 show codeAny X.M A (.compStart _ 0 it (.ref acc) (compEnvC scope (clo env.cells scope.names []) cA env)) _ _
 generalize hcl : clo env.cells scope.names [] = cl at back SC apC ⊢
 let RR : Result → Shared → Prop := fun r s' => ∃ f a, r = .ok f ∧ Value.ref acc = .ref a ∧ CompEndG mk X env σ s b P a cA s'
 have loop : codeAny X.M A (.compLoop e 0 it (.ref acc) (compEnvC scope cl cA env)) RR { s₃ with heap := h₄, toks := s₃.toks + 0 } := by
  let II : Nat → Shared → Prop := CmpI mk X (compEnvC scope cl cA env) own J Inv (pick (freesOf scope) σ.ρ) acc (mk out0) ω₁ { s₃ with heap := hv, toks := s₃.toks + 0 } b₁ N
  refine hL _ _ _ _ II ?_ (N + 1) _
   ⟨0, out0, ω₁, b₁, rfl, Nat.zero_le _, hI0, SC, ⟨⟨fun a o _ e => kept (hvle _ _ e), Le.refl _, fun a o e => .inl ⟨o, e⟩, fun a o e => ⟨o, hvle _ _ e⟩, rfl, rfl⟩, fun a h => .inl h⟩, hJ₄, apC⟩
  rintro n s' ⟨i, out, ω', b', rfl, hi, hinv, S', E', hJ', ap'⟩
  obtain ⟨ds, hds, hlen⟩ := hp.len i out ω' acc hinv
  cases hc : ds[i]? with
  | none =>
   refine wpAny_mono (I.done _ _ i ds s' b' S' E'.ext.le hJ' hds hc ap') ?_ (fun _ _ x => x.elim)
   rintro r s'' ⟨rfl, h₅, tk₅, rfl, hk₅⟩
   refine ⟨.next, acc, rfl, rfl, ?_⟩
   obtain ⟨L₆, F₆, AP, hNs⟩ := comp_done (tk₅ := tk₅) CNone CNone₀ S₃' ap₃ hfr SV EV S' E' ap' hk₅
   exact ⟨out, ω', b', F₆, L₆, hp.fin i out ω' ds acc hinv hds hc, AP _ b' id (fun o q => .inl ⟨o, q⟩), CNone₀, hNs⟩
  | some d =>
   refine wpAny_mono (I.item _ _ i ds d s' b' S' E'.ext.le hJ' hds hc ap') ?_ (fun _ _ x => x.elim)
   rintro r s'' ⟨v', rfl, hw⟩
   refine wpAny_mono hw ?_ (fun _ _ x => x.elim)
   rintro _ s₅ ⟨h₅, b₅, tk₅, rfl, hJ₅, hk₅, hbb, hin, hnew, r₅⟩
   have S₅ := S'.other (h' := h₅) (b' := b₅) (tk := tk₅) ap' hk₅ hbb hin hnew
   have E₅ := E'.other (h' := h₅) (b' := b₅) (tk := tk₅) hvn hk₅ hbb hnew
   have ap₅b : ∀ a ∈ own, b₅.get? a = none := fun a ha => by
    cases q : b₅.get? a with
    | none => rfl
    | some o =>
     obtain ⟨oo, hoo⟩ := I.live _ _ hJ' a ha
     rcases hnew a o q with ⟨o', z⟩ | z
     ·rw [ap'.b a ha] at z; exact nso z
     ·rw [hoo] at z; exact sno z
   have ap₅ : Apart X own (compEnvC scope cl cA env) ((acc, mk out) :: ω') b₅ := ⟨ap'.w, ap₅b, ap'.l, ap'.c, ap'.f⟩
   have hlt : i < N := Nat.lt_of_lt_of_le (by simpa using (List.getElem?_eq_some_iff.mp hc).1) hlen
   refine wpAny_mono (hp.step cl cA acc i out ω' ds d hinv hds hc _ b₅ v' S₅ r₅) ?_ (fun _ _ x => x.elim)
   rintro _ s₆ ⟨σ₆, b₆, E₆, S₆, h₆⟩
   have ap₆ := ap₅.after E₆ (I.live _ _ hJ₅)
   have hJ₆ := I.frame _ _ s₆.heap hJ₅ (fun a ha o e => ap₅.keep E₆ ha e)
   refine wpAny_mono (h₆ s₆ b₆ S₆) ?_ (fun _ _ x => x.elim)
   rintro c s₇ ⟨σ₇, b₇, E₇, S₇, h₇⟩
   have ap₇ := ap₆.after E₇ (I.live _ _ hJ₆)
   have hJ₇ := I.frame _ _ s₇.heap hJ₆ (fun a ha o e => ap₆.keep E₇ ha e)
   have E₅₇ := (E₅.trans E₆).trans E₇
   cases c with
   | false =>
    simp only [Bool.false_eq_true, if_false] at h₇ ⊢
    obtain ⟨ω₇, hω₇, hinv₇⟩ := h₇
    obtain ⟨ρ₇, ω₇'⟩ := σ₇
    dsimp only at hω₇; subst hω₇
    exact ⟨N + 1 - (i + 1), by lia, i + 1, out, ω₇, b₇, rfl, hlt, hinv₇, back _ _ _ _ S₇ E₅₇, ⟨E₅₇.ext, E₅₇.dom⟩, hJ₇, ap₇⟩
   | true =>
    simp only [if_true] at h₇ ⊢
    refine wpAny_mono (h₇ s₇ b₇ S₇) ?_ (fun _ _ x => x.elim)
    rintro _ s₈ ⟨σ₈, b₈, E₈, S₈, out', ω₈, hω₈, hinv₈⟩
    have ap₈ := ap₇.after E₈ (I.live _ _ hJ₇)
    have hJ₈ := I.frame _ _ s₈.heap hJ₇ (fun a ha o e => ap₇.keep E₈ ha e)
    obtain ⟨ρ₈, ω₈'⟩ := σ₈
    dsimp only at hω₈; subst hω₈
    have E₅₈ := E₅₇.trans E₈
    exact ⟨N + 1 - (i + 1), by lia, i + 1, out', ω₈, b₈, rfl, hlt, hinv₈, back _ _ _ _ S₈ E₅₈, ⟨E₅₈.ext, E₅₈.dom⟩, hJ₈, ap₈⟩
 refine hSt _ _ _ _ _ loop ?_
 refine wpAny_mono (I.self 0 _ (fun v s' => v = it ∧ s' = { s₃ with heap := h₄, toks := s₃.toks + 0 }) Never hJ₄ ⟨rfl, rfl⟩) ?_ (fun _ _ x => x.elim)
 rintro v s' ⟨rfl, rfl⟩
 exact loop
end
section
variable {X : Cx} {A : Around} {env : Env} {σ : Sg} {P : D → Sg → Prop} {Q : Fl → Sg → Prop} {α : Type} {R : Sg → Prop}
inductive QEmL (acc : Addr) (R : Sg → Prop) (r : D) (σ₃ : Sg) : Prop
 | mk (out : List D) (ω' : Om) (e : σ₃.ω = (acc, .lst out) :: ω') (z : out.length ≤ sizeLine) (p : R ⟨σ₃.ρ, (acc, .lst (out ++ [r])) :: ω'⟩)
theorem tru_l {elt : Expr} {acc : Addr} (h : Ev X A env σ elt (QEmL acc R)) : TrU X A env σ (emL elt (.ref acc) env) R := fun s b S => by
 refine wpAny_bind (wpAny_mono (h s b S) ?_ fun _ _ x => x)
 rintro x s₈ ⟨dx, ⟨ρ₈, ω₈⟩, b₈, E₈, S₈, r₈, out, ω', rfl, hz, p⟩
 refine hide ?_; intro g; obtain ⟨vs, nn, hg, hr⟩ := S₈.hp.cell _ (.head _); dsimp only [g]
 have e : vs.size = out.length := by rw [← hr.length]; simp
 refine wpAny_bind (wpAny_list_append_plain (hsz := by exact Nat.le_trans (Nat.le_of_eq e) hz) ⟨nn, hg⟩ fun h₉ hl₉ hs₉ => wpAny_pure ?_)
 obtain ⟨n₉, g₉⟩ := hl₉
 obtain ⟨S₉, E₉⟩ := S₈.setCell (c' := .lst (out ++ [dx])) .head hs₉ ⟨vs.push x, n₉, g₉, by simpa using hr.append (.cons r₈ .nil)⟩
 exact ⟨_, b₈, E₈.trans E₉, S₉, p⟩
inductive QEmD (acc : Addr) (R : Sg → Prop) (kr : D) (r : D) (σ₄ : Sg) : Prop
 | mk (k : Str) (out : List (Str × D)) (ω' : Om) (e : kr = .str k) (e2 : σ₄.ω = (acc, .dct out) :: ω') (z : out.length ≤ sizeLine) (p : R ⟨σ₄.ρ, (acc, .dct (put out k r)) :: ω'⟩)
theorem tru_d {kx vx : Expr} {acc : Addr} (h : Ev X A env σ kx (fun kr σ₃ => Ev X A env σ₃ vx (QEmD acc R kr))) : TrU X A env σ (emD kx vx (.ref acc) env) R := fun s b S => by
 refine wpAny_bind (wpAny_mono (h s b S) ?_ fun _ _ x => x)
 rintro kv s₇ ⟨kr, σ₇, b₇, E₇, S₇, r₇, h₇⟩
 refine wpAny_bind (wpAny_holding (wpAny_mono (h₇ s₇ b₇ S₇) ?_ fun _ _ x => x))
 rintro x s₈ ⟨dx, ⟨ρ₈, ω₈⟩, b₈, E₈, S₈, r₈, k, out, ω', rfl, rfl, hz, p⟩
 obtain ⟨hns, kvs, ep, hg, hr⟩ := S₈.hp.cell _ (.head _)
 have hz' : kvs.length ≤ sizeLine := by have := hr.length; exact Nat.le_trans (Nat.le_of_eq this) hz
 obtain ⟨_, rfl⟩ := r₇.i_str
 rename_i tk
 refine wpAny_bind (wpAny_standAt (wpAny_holding ?_))
 refine wpAny_dictSet_pairs (knd := X.kd) (hsz := hz') (kdIs k tk) hg.dictOf fun h₉ hl₉ hs₉ => ?_
 obtain ⟨ep₉, g₉⟩ := hl₉.dictAt
 obtain ⟨S₉, E₉⟩ := S₈.setCell (c' := .dct (put out k dx)) .head hs₉ ⟨hns, _, ep₉, g₉, hr.put r₈⟩ (s₈.toks + 1)
 exact ⟨_, b₈, (E₇.trans E₈).trans E₉, S₉, p⟩
theorem tru_i {e target iter : Expr} {dep : Nat} {ifs : List Expr} {EM : Value → Env → Sem Unit} {acc : Addr} (hL : LoopR X A e dep target ifs EM) (hSt : StartR X A e dep) (Inv : Nat → Sg → Prop) (seq : Sg → Option (List D)) (N : Nat)
  (hiter : Src X A env σ iter target seq (Inv 0))
  (hN : ∀ i σ, Inv i σ → ∃ ds, seq σ = some ds ∧ ds.length ≤ N)
  (step : ∀ i σ ds d, Inv i σ → seq σ = some ds → ds[i]? = some d → Asg X A env σ target d (fun σ₁ => TsB X A env σ₁ ifs (fun c σ₂ => if c = true then TrU X A env σ₂ (EM (.ref acc) env) (Inv (i + 1)) else Inv (i + 1) σ₂)))
  (stop : ∀ i σ ds, Inv i σ → seq σ = some ds → ds[i]? = none → R σ)
  (hs : ∀ x, foldedSetIterable iter env x = pure x) : TrU X A env σ (emI e dep iter (.ref acc) env) R := fun s b S => by
 refine wpAny_bind (wpAny_mono (hiter s b S) ?_ (fun _ _ x => x))
 intro v s₁ hv
 refine wpAny_bind (wpAny_standAt ?_)
 rw [hs]
 refine wpAny_bind (wpAny_pure ?_)
 refine wpAny_bind (wpAny_holding (wpAny_mono hv ?_ (fun _ _ x => x)))
 rintro it s₂ ⟨σ₁, b₁, own, J, E₂, S₂, ap₁, hfr, I, hJ, h0⟩
 refine wpAny_bind (wpAny_runOwn ?_)
 let II : Nat → Shared → Prop := ForI X env σ s b b₁ own J Inv N
 have loop : codeAny X.M A (.compLoop e dep it (.ref acc) env) (fun r s' => match r with | .ok f => wpAny X.M A (pure ()) (fun _ s' => PoA X env σ s b R s') Never s' | .error e => cameBackBy X.M A env Never e s') s₂ := by
  refine hL _ _ _ _ II ?_ (N + 1) _ ⟨0, σ₁, b₁, rfl, Nat.zero_le _, h0, S₂, E₂, Le.refl _, hJ, ap₁⟩
  rintro n s' ⟨i, σ', b', rfl, hi, hinv, S', E', hl', hJ', ap'⟩
  refine hide ?_; intro g; obtain ⟨ds, hds, hlen⟩ := hN i σ' hinv; dsimp only [g]
  cases hc : ds[i]? with
  | none =>
   refine wpAny_mono (I.done env σ' i ds s' b' S' hl' hJ' hds hc ap') ?_ (fun _ _ x => x.elim)
   rintro r s'' ⟨rfl, h₃, tk₃, rfl, hk₃⟩
   have hin : Le b' h₃ := fun a o e => hk₃ a o (fun z => by rw [ap'.b a z] at e; exact nso e) (S'.hp.le _ _ e)
   have S₃ := S'.other (h' := h₃) (b' := b') (tk := tk₃) ap' hk₃ (Le.refl _) hin (fun a o e => .inl ⟨o, e⟩)
   have E₃ := E'.other (h' := h₃) (b' := b') (tk := tk₃) hfr hk₃ (Le.refl _) (fun a o e => .inl ⟨o, e⟩)
   exact wpAny_pure ⟨σ', b', E₃, S₃, stop i σ' ds hinv hds hc⟩
  | some d' =>
   refine wpAny_mono (I.item env σ' i ds d' s' b' S' hl' hJ' hds hc ap') ?_ (fun _ _ x => x.elim)
   rintro r s'' ⟨v', rfl, hw⟩
   refine wpAny_mono hw ?_ (fun _ _ x => x.elim)
   rintro _ s₃ ⟨h₃, b₃, tk₃, rfl, hJ₃, hk₃, hbb, hin, hnew, r₃⟩
   have S₃ := S'.other (h' := h₃) (b' := b₃) (tk := tk₃) ap' hk₃ hbb hin hnew
   have E₃ := E'.other (h' := h₃) (b' := b₃) (tk := tk₃) hfr hk₃ hbb hnew
   have ap₃b : ∀ a ∈ own, b₃.get? a = none := fun a ha => by
    cases q : b₃.get? a with
    | none => rfl
    | some o =>
     obtain ⟨oo, hoo⟩ := I.live _ _ hJ' a ha
     rcases hnew a o q with ⟨o', z⟩ | z
     ·rw [ap'.b a ha] at z; exact nso z
     ·rw [hoo] at z; exact sno z
   have ap₃ : Apart X own env σ'.ω b₃ := ⟨ap'.w, ap₃b, ap'.l, ap'.c, ap'.f⟩
   have hlt : i < N := Nat.lt_of_lt_of_le (by simpa using (List.getElem?_eq_some_iff.mp hc).1) hlen
   refine wpAny_mono (step i σ' ds d' hinv hds hc _ b₃ v' S₃ r₃) ?_ (fun _ _ x => x.elim)
   rintro _ s₄ ⟨σ₄, b₄, E₄, S₄, h₄⟩
   have ap₄ := ap₃.after E₄ (I.live _ _ hJ₃)
   have hJ₄ := I.frame _ _ s₄.heap hJ₃ (fun a ha o e => ap₃.keep E₄ ha e)
   refine wpAny_mono (h₄ s₄ b₄ S₄) ?_ (fun _ _ x => x.elim)
   rintro c s₅ ⟨σ₅, b₅, E₅, S₅, h₅⟩
   have ap₅ := ap₄.after E₅ (I.live _ _ hJ₄)
   have hJ₅ := I.frame _ _ s₅.heap hJ₄ (fun a ha o e => ap₄.keep E₅ ha e)
   have E₃₅ := (E₃.trans E₄).trans E₅
   have l₅ := ((hl'.trans hbb).trans E₄.ext.le).trans E₅.ext.le
   cases c with
   | false =>
    simp only [Bool.false_eq_true, if_false] at h₅ ⊢
    exact ⟨N + 1 - (i + 1), by lia, i + 1, σ₅, b₅, rfl, hlt, h₅, S₅, E₃₅, l₅, hJ₅, ap₅⟩
   | true =>
    simp only [if_true] at h₅ ⊢
    refine wpAny_mono (h₅ s₅ b₅ S₅) ?_ (fun _ _ x => x.elim)
    rintro _ s₆ ⟨σ₆, b₆, E₆, S₆, h₆⟩
    exact ⟨N + 1 - (i + 1), by lia, i + 1, σ₆, b₆, rfl, hlt, h₆, S₆, E₃₅.trans E₆, l₅.trans E₆.ext.le, I.frame _ _ s₆.heap hJ₅ (fun a ha o e => ap₅.keep E₆ ha e), ap₅.after E₆ (I.live _ _ hJ₅)⟩
 refine hSt _ _ _ _ _ loop ?_
 refine wpAny_mono (I.self 0 _ (fun v s' => v = it ∧ s' = s₂) Never hJ ⟨rfl, rfl⟩) ?_ (fun _ _ x => x.elim)
 rintro v s' ⟨rfl, rfl⟩
 exact loop
section
variable {mk : α → C} {out0 : α} {e target iter : Expr} {EM : Value → Env → Sem Unit} {ifs : List Expr} {scope : Scope} {newAcc : Sem Value} {oN : Obj} {seq : Sg → Option (List D)} {N : Nat} {Inv : Nat → α → Om → Prop} {gs : List Comprehension} {pos : Pos}
theorem ev_compG (hok : compOk scope env = true) (hL : LoopR X A e 0 target ifs EM) (hSt : StartR X A e 0) (hN : NewR X A newAcc oN (mk out0)) (hp : CompPreG mk out0 X A env σ EM target iter ifs scope P seq N Inv) (hs : ∀ x, foldedSetIterable iter env x = pure x)
  (he : eval e env = comprehension e scope env pos newAcc false (eval iter env) none) (hcl : clausesOf e = ⟨target, iter, ifs, 0⟩ :: gs) : Ev X A env σ e P := fun s b S => by
 have ok := compOk_of hok
 show wpAny X.M A (eval e env) _ _ s
 rw [he]
 refine wpAny_comprehension_free (use := none) hcl hs (closureFor_eq fun p hp hk => S.ok.cells _ (ok.free p hp hk).2) ok.kind ok.loc ?_
 refine wpAny_mono (comp_any ok hL hSt hN hp s b S) ?_ (fun _ _ x => x)
 intro x s₁ h₁
 refine wpAny_mono h₁ (fun it s₂ h₂ => wpAny_mono h₂ (fun acc s₃ h₃ => wpAny_mono h₃ (fun cenv s₄ h₄ => codeAny_mono h₄ fun r s' hr => ?_) fun _ _ x => x) fun _ _ x => x) fun _ _ x => x
 obtain ⟨f, a, rfl, rfl, out, ω', b', E, S', p, ap, hn, m, hm⟩ := hr
 refine ⟨m, hm, fun h' hsb => ?_⟩
 have hk : ∀ x o, x ∉ [cenv.locals] → s'.heap.get? x = some o → h'.get? x = some o := fun x o hx e => (hsb.2 x (by simpa using hx)).trans e
 have hin : Le b' h' := fun x o e => hk x o (fun z => by rw [ap.b x z] at e; exact nso e) (S'.hp.le _ _ e)
 exact ⟨.raw (.ref a), _, b', E.other (own := [cenv.locals]) (fun x hx => by rw [List.mem_singleton.mp hx]; exact hn) hk (Le.refl _) (fun x o e => .inl ⟨o, e⟩), S'.other ap hk (Le.refl _) hin (fun x o e => .inl ⟨o, e⟩), .raw _, p⟩
theorem ex_assign_compG {y : Str} {pos' spos : Pos} (hok : compOk scope env = true) (hL : LoopR X A e 0 target ifs EM) (hSt : StartR X A e 0) (hN : NewR X A newAcc oN (mk out0)) (hp : CompPreG mk out0 X A env σ EM target iter ifs scope (QAss y Q) seq N Inv) (hs : ∀ x, foldedSetIterable iter env x = pure x)
  (hk : isLoc env y = true)
  (he : exec (.Assign [.Name y pos'] e spos) env = (do standAt spos; let r ← (do let _ ← comprehension e scope env pos newAcc false (eval iter env) (some (assign (.Name y pos') env)); pure ()); pure Flow.next)) (hcl : clausesOf e = ⟨target, iter, ifs, 0⟩ :: gs) : Ex X A env σ (.Assign [.Name y pos'] e spos) Q := fun s b S => by
 have ok := compOk_of hok
 show wpAny X.M A (exec (.Assign [.Name y pos'] e spos) env) _ _ s
 rw [he]
 refine wpAny_bind (wpAny_standAt ?_)
 refine wpAny_bind (wpAny_bind (wpAny_comprehension_free (use := some (assign (.Name y pos') env)) hcl hs (closureFor_eq fun p hp hk => S.ok.cells _ (ok.free p hp hk).2) ok.kind ok.loc ?_))
 refine wpAny_mono (comp_any ok hL hSt hN hp s b S) ?_ (fun _ _ x => x)
 intro x s₁ h₁
 refine wpAny_mono h₁ (fun it s₂ h₂ => wpAny_mono h₂ (fun acc s₃ h₃ => wpAny_mono h₃ (fun cenv s₄ h₄ => codeAny_mono h₄ fun r s' hr => ?_) fun _ _ x => x) fun _ _ x => x) fun _ _ x => x
 obtain ⟨f, a, rfl, rfl, out, ω', b', E, S', p, ap, hn, m, hm⟩ := hr
 refine wpAny_assign_Name (store_var S' (.raw _) hk fun s₅ S₅ E₅ => ?_)
 have ap₅ := ap.after (σ := ⟨σ.ρ, (a, mk out) :: ω'⟩) E₅ (fun x hx => by rw [List.mem_singleton.mp hx]; obtain ⟨o, _, _, h, _⟩ := hm; exact ⟨o, h⟩)
 refine hide ?_; intro g; obtain ⟨o, es, ep, h1, h2⟩ := hm; dsimp only [g]
 refine ⟨m, ⟨o, es, ep, ap.keep (σ := ⟨σ.ρ, (a, mk out) :: ω'⟩) E₅ (.head _) h1, h2⟩, fun h' hsb => wpAny_pure (wpAny_pure ?_)⟩
 have hk' : ∀ x o, x ∉ [cenv.locals] → s₅.heap.get? x = some o → h'.get? x = some o := fun x o hx e => (hsb.2 x (by simpa using hx)).trans e
 have hin : Le b' h' := fun x o e => hk' x o (fun z => by rw [ap₅.b x z] at e; exact nso e) (S₅.hp.le _ _ e)
 exact ⟨.next, _, b', (E.trans E₅).other (own := [cenv.locals]) (fun x hx => by rw [List.mem_singleton.mp hx]; exact hn) hk' (Le.refl _) (fun x o e => .inl ⟨o, e⟩), S₅.other ap₅ hk' (Le.refl _) hin (fun x o e => .inl ⟨o, e⟩), trivial, p⟩
end
end
section
variable {X : Cx} {A : Around} {env : Env} {σ : Sg} {P : D → Sg → Prop} {Q : Fl → Sg → Prop} {α β : Type}
inductive QOut (mk : β → C) (acc : Addr) (J : β → Om → Prop) (σ₃ : Sg) : Prop
 | mk (out : β) (ω' : Om) (e : σ₃.ω = (acc, mk out) :: ω') (i : J out ω')
noncomputable abbrev QIt (mk : β → C) (X : Cx) (A : Around) (cenv : Env) (EM : Value → Env → Sem Unit) (acc : Addr) (out : β) (J : β → Om → Prop) : Bool → Sg → Prop := fun c σ₂ =>
 if c = true then TrU X A cenv σ₂ (EM (.ref acc) cenv) (QOut mk acc J) else ∃ ω', σ₂.ω = (acc, mk out) :: ω' ∧ J out ω'
theorem preG {mk : β → C} {o0 : β} {target iter : Expr} {EM : Value → Env → Sem Unit} {ifs : List Expr} {scope : Scope} (l : List α) (f : α → D) (I : List α → β → Om → Prop)
  (hsrc : Src X A env σ iter target (fun _ => some (l.map f)) (fun σ₁ => σ₁.ρ = σ.ρ ∧ I [] o0 σ₁.ω))
  (step : ∀ cl Ca acc pre x post out ω, l = pre ++ x :: post → I pre out ω → Asg X A (compEnvC scope cl Ca env) ⟨pick (freesOf scope) σ.ρ, (acc, mk out) :: ω⟩ target (f x) (fun σ₁ =>
   TsB X A (compEnvC scope cl Ca env) σ₁ ifs (QIt mk X A (compEnvC scope cl Ca env) EM acc out (I (pre ++ [x])))))
  (fin : ∀ acc out ω, I l out ω → P (.raw (.ref acc)) ⟨σ.ρ, (acc, mk out) :: ω⟩) :
  CompPreG mk o0 X A env σ EM target iter ifs scope P (fun _ => some (l.map f)) l.length (fun i out ω => i ≤ l.length ∧ I (l.take i) out ω) where
 src := fun s b S => wpAny_mono (hsrc s b S) (fun x s₁ h₁ => wpAny_mono h₁ (by
  rintro it s₂ ⟨σ₁, b₁, own, J, g1, g2, g3, g4, g5, g6, g7⟩
  exact ⟨σ₁, b₁, own, J, g1, g2, g3, g4, g5, g6, g7.1, Nat.zero_le _, by rw [List.take_zero]; exact g7.2⟩) fun _ _ x => x) fun _ _ x => x
 len := fun i out ω acc _ => ⟨_, rfl, by simp⟩
 step := fun cl Ca acc i out ω ds d ⟨hi, ho⟩ e hd => by
  obtain rfl := Option.some.inj e
  obtain ⟨x, hx, rfl⟩ : ∃ x, l[i]? = some x ∧ d = f x := by
   rw [List.getElem?_map] at hd
   cases q : l[i]? with
   | none => rw [q] at hd; exact nso hd
   | some x => rw [q] at hd; obtain rfl := Option.some.inj hd; exact ⟨x, rfl, rfl⟩
  have hlt := (List.getElem?_eq_some_iff.mp hx).1
  refine Asg.mono (step cl Ca acc _ x _ out ω (split_at hx) ho) fun σ₁ h => TrB.mono h fun c σ₂ h2 => ?_
  rw [← take_at hx] at h2
  cases c with
  | true =>
   simp only [QIt, if_true] at h2 ⊢
   exact fun s b S => wpAny_mono (h2 s b S) (fun _ s' ⟨σ', b', E, S', ⟨o, w, e, i⟩⟩ => ⟨σ', b', E, S', o, w, e, hlt, i⟩) fun _ _ x => x
  | false =>
   simp only [QIt, Bool.false_eq_true, if_false] at h2 ⊢
   obtain ⟨w, e, i⟩ := h2
   exact ⟨w, e, hlt, i⟩
 fin := fun i out ω ds acc ⟨hi, ho⟩ e hd => by
  obtain rfl := Option.some.inj e
  have : i = l.length := Nat.le_antisymm hi (by simpa using hd)
  subst this
  rw [List.take_length] at ho
  exact fin _ _ _ ho
inductive QFz (y : Str) (Q : Fl → Sg → Prop) (d : D) (σ₁ : Sg) : Prop
 | mk (a : Addr) (ds : List D) (ω' : Om) (e : d = .raw (.ref a)) (e2 : σ₁.ω = (a, .lst ds) :: ω') (q : Q .next ⟨(y, .list ds) :: σ₁.ρ, ω'⟩)
theorem trF_fz {t : Sem Flow} {y : Str} (h : TrF X A env σ t (fun fl σ₁ => ∃ d ρ, fl = .next ∧ σ₁.ρ = (y, d) :: ρ ∧ QFz y Q d ⟨ρ, σ₁.ω⟩)) : TrF X A env σ t Q := fun s b S => by
 refine wpAny_mono (h s b S) ?_ (fun _ _ x => x)
 rintro v s₁ ⟨fl, ⟨ρ₁, ω₁⟩, b₁, E₁, S₁, r₁, d, ρ, rfl, e1, ⟨a, ds, ω', rfl, e2, q⟩⟩
 dsimp only at e1 e2 q; subst e1; subst e2
 have hnd := S₁.hp.nod
 simp only [List.map_cons, List.nodup_cons] at hnd
 obtain ⟨b₂, l₂, S₂, E₂, r₂⟩ := S₁.freeze (a := a) (ds := ds) (ω' := ω') (ρ' := (y, .list ds) :: ρ) (.head _) (fun p hp => ⟨.tail _ hp, fun z => hnd.1 (z ▸ List.mem_map_of_mem hp)⟩) hnd.2 (fun x d e => by
  rw [List.lookup_cons] at e ⊢
  cases h : x == y with
  | true => rw [h] at e; obtain rfl := Option.some.inj e; exact .inr ⟨rfl, rfl⟩
  | false => rw [h] at e; exact .inl e)
 refine ⟨.next, _, b₂, E₁.trans E₂, S₂, ?_, q⟩
 cases v <;> first | exact r₁ | trivial
section
variable {elt target iter : Expr} {ifs : List Expr} {scope : Scope} {pos : Pos}
noncomputable abbrev QIl (X : Cx) (A : Around) (cenv : Env) (elt : Expr) (acc : Addr) (out : List D) (ω : Om) (c : Bool) (r : D) : Bool → Sg → Prop := fun b σ₂ =>
 b = c ∧ σ₂.ω = (acc, .lst out) :: ω ∧ (c = true → Ev X A cenv σ₂ elt (fun d σ₃ => d = r ∧ σ₃.ω = (acc, .lst out) :: ω))
theorem preL (l : List α) (f : α → D) (c : α → Bool) (g : α → D) (hl : l.length ≤ sizeLine)
  (hsrc : Src X A env σ iter target (fun _ => some (l.map f)) (fun σ₁ => σ₁.ρ = σ.ρ ∧ σ₁.ω = σ.ω))
  (step : ∀ cl Ca acc pre x post, l = pre ++ x :: post → Asg X A (compEnvC scope cl Ca env) ⟨pick (freesOf scope) σ.ρ, (acc, .lst ((pre.filter c).map g)) :: σ.ω⟩ target (f x) (fun σ₁ =>
   TsB X A (compEnvC scope cl Ca env) σ₁ ifs (QIl X A (compEnvC scope cl Ca env) elt acc ((pre.filter c).map g) σ.ω (c x) (g x))))
  (fin : ∀ acc, P (.raw (.ref acc)) ⟨σ.ρ, (acc, .lst ((l.filter c).map g)) :: σ.ω⟩) :
  CompPreG .lst [] X A env σ (emL elt) target iter ifs scope P (fun _ => some (l.map f)) l.length (fun i out ω => i ≤ l.length ∧ (out = ((l.take i).filter c).map g ∧ ω = σ.ω)) := by
 refine preG l f (fun pre out ω => out = (pre.filter c).map g ∧ ω = σ.ω) ?_ ?_ ?_
 ·exact fun s b S => wpAny_mono (hsrc s b S) (fun x s₁ h₁ => wpAny_mono h₁ (by
   rintro it s₂ ⟨σ₁, b₁, own, J, g1, g2, g3, g4, g5, g6, g7⟩
   exact ⟨σ₁, b₁, own, J, g1, g2, g3, g4, g5, g6, g7.1, rfl, g7.2⟩) fun _ _ x => x) fun _ _ x => x
 ·rintro cl Ca acc pre x post out ω e ⟨rfl, rfl⟩
  refine Asg.mono (step cl Ca acc pre x post e) fun σ₁ h => TrB.mono h ?_
  rintro b σ₂ ⟨rfl, h2, h3⟩
  cases hc : c x with
  | false =>
   rw [QIt, if_neg (by simp)]
   exact ⟨_, h2, by simp [hc], rfl⟩
  | true =>
   rw [QIt, if_pos rfl]
   refine tru_l (Tr.mono (h3 hc) ?_)
   rintro d σ₃ ⟨rfl, h4⟩
   refine ⟨_, _, h4, ?_, ⟨_, _, rfl, by simp [hc], rfl⟩⟩
   refine Nat.le_trans ?_ hl
   rw [List.length_map, e, List.length_append]
   exact Nat.le_trans (List.length_filter_le ..) (Nat.le_add_right _ _)
 ·rintro acc out ω ⟨rfl, rfl⟩
  exact fin acc
theorem ev_lc (l : List α) (f : α → D) (c : α → Bool) (g : α → D) (hok : compOk scope env = true) (hl : l.length ≤ sizeLine) (hs : ∀ x, foldedSetIterable iter env x = pure x)
  (hsrc : Src X A env σ iter target (fun _ => some (l.map f)) (fun σ₁ => σ₁.ρ = σ.ρ ∧ σ₁.ω = σ.ω))
  (step : ∀ cl Ca acc pre x post, l = pre ++ x :: post → Asg X A (compEnvC scope cl Ca env) ⟨pick (freesOf scope) σ.ρ, (acc, .lst ((pre.filter c).map g)) :: σ.ω⟩ target (f x) (fun σ₁ =>
   TsB X A (compEnvC scope cl Ca env) σ₁ ifs (QIl X A (compEnvC scope cl Ca env) elt acc ((pre.filter c).map g) σ.ω (c x) (g x))))
  (p : P (.list ((l.filter c).map g)) σ) : Ev X A env σ (.ListComp elt [⟨target, iter, ifs, 0⟩] scope pos) P :=
 tr_freeze (ev_compG (e := .ListComp elt [⟨target, iter, ifs, 0⟩] scope pos) hok loop_l start_l new_l (preL l f c g hl hsrc step fun acc => ⟨acc, _, _, rfl, rfl, p⟩) hs rfl rfl)
end
end
section
noncomputable abbrev NE := Str × Addr × List D
noncomputable def dE (e : NE) : Str × D := (e.1, .raw (.ref e.2.1))
noncomputable def cE (e : NE) : Addr × C := (e.2.1, .lst e.2.2)
noncomputable def appE (k : Str) (x : D) : List NE → List NE
 | [] => []
 | e :: r => if (k == e.1) = true then (e.1, e.2.1, e.2.2 ++ [x]) :: r else e :: appE k x r
theorem appE_keys (k : Str) (x : D) (L : List NE) : (appE k x L).map (·.1) = L.map (·.1) := by
 induction L with
 | nil => exact rfl
 | cons e r ih =>
  unfold appE; split
  ·rfl
  ·simp [ih]
theorem appE_dE (k : Str) (x : D) (L : List NE) : (appE k x L).map dE = L.map dE := by
 induction L with
 | nil => exact rfl
 | cons e r ih =>
  unfold appE; split
  ·rfl
  ·simp [ih]
theorem dE_none {k : Str} {L : List NE} : k ∉ L.map (·.1) → (L.map dE).lookup k = none := by
 induction L with
 | nil => intro _; exact rfl
 | cons e r ih =>
  intro h
  simp only [List.map_cons, List.mem_cons, not_or] at h
  simp only [List.map_cons, dE, List.lookup_cons]
  have : (k == e.1) = false := by simpa using h.1
  rw [this]; exact ih h.2
theorem dE_isSome {k : Str} {L : List NE} : ((L.map dE).lookup k).isSome = decide (k ∈ L.map (·.1)) := by
 induction L with
 | nil => simp
 | cons e r ih =>
  simp only [List.map_cons, dE, List.lookup_cons, List.mem_cons]
  by_cases h : k = e.1
  ·have : (k == e.1) = true := by simpa using h
   rw [this]; simp [h]
  ·have : (k == e.1) = false := by simpa using h
   rw [this]
   simp only [h, false_or]
   exact ih
theorem Upd.skip {a : Addr} {c c' : C} {r r' : Om} : ∀ (l : Om), Upd a c c' r r' → Upd a c c' (l ++ r) (l ++ r')
 | [], u => u
 | _ :: l, u => .tail (Upd.skip l u)
theorem appE_upd {k : Str} (x : D) (r : Om) : ∀ {L : List NE}, k ∈ L.map (·.1) → ∃ a l, (L.map dE).lookup k = some (.raw (.ref a)) ∧ (k, a, l) ∈ L ∧ Upd a (.lst l) (.lst (l ++ [x])) (L.map cE ++ r) ((appE k x L).map cE ++ r)
 | [], h => by cases h
 | e :: t, h => by
  obtain ⟨n, a, l⟩ := e
  by_cases hk : k = n
  ·subst hk
   refine ⟨a, l, by simp [dE, List.lookup_cons], .head _, ?_⟩
   simp only [appE, beq_self_eq_true, if_true, List.map_cons, cE, List.cons_append]
   exact .head
  ·have hk' : (k == n) = false := by simpa using hk
   simp only [List.map_cons, List.mem_cons, hk, false_or] at h
   refine hide ?_; intro g; obtain ⟨a', l', h1, h2, h3⟩ := appE_upd x r (L := t) h; dsimp only [g]
   refine ⟨a', l', by simp only [List.map_cons, dE, List.lookup_cons, hk']; exact h1, .tail _ h2, ?_⟩
   simp only [appE, hk', Bool.false_eq_true, if_false, List.map_cons, List.cons_append]
   exact .tail h3
theorem appE_mem {k : Str} {x : D} {L : List NE} : ∀ {e : NE}, e ∈ appE k x L → e ∈ L ∨ ∃ a l, e = (k, a, l ++ [x]) ∧ (k, a, l) ∈ L := by
 induction L with
 | nil => intro e h; cases h
 | cons e' r ih =>
  intro e h
  unfold appE at h
  split at h
  ·rename_i hk
   have hk := beq_iff_eq.mp hk
   rcases List.mem_cons.mp h with rfl | h
   ·right
    obtain ⟨n, a, l⟩ := e'
    dsimp only at hk; subst hk
    exact ⟨a, l, rfl, .head _⟩
   ·exact .inl (.tail _ h)
  ·rcases List.mem_cons.mp h with rfl | h
   ·exact .inl (.head _)
   ·rcases ih h with h | ⟨a, l, h1, h2⟩
    ·exact .inl (.tail _ h)
    ·exact .inr ⟨a, l, h1, .tail _ h2⟩
noncomputable abbrev GPr := Str × List Str
structure GA where
 d : Addr
 pr : Addr
 pn : Addr
 pm : Addr
 te : Addr
 no : Addr
 fi : Addr
 fo : Addr
 us : Addr
 st : D
noncomputable def selfD (g : GA) : List (Str × D) := [("Productions", .raw (.ref g.pr)), ("Prodnames", .raw (.ref g.pn)), ("Prodmap", .raw (.ref g.pm)), ("Terminals", .raw (.ref g.te)), ("Nonterminals", .raw (.ref g.no)),
 ("First", .raw (.ref g.fi)), ("Follow", .raw (.ref g.fo)), ("Precedence", .dct []), ("UsedPrecedence", .raw (.ref g.us)), ("Start", g.st)]
noncomputable def ωG (g : GA) (prods : List D) (pm : List (Str × D)) (TT NT PN : List NE) (ω : Om) : Om :=
 (g.d, .dct (selfD g)) :: (g.pr, .lst prods) :: (g.pn, .dct (PN.map dE)) :: (g.pm, .dct pm) :: (g.te, .dct (TT.map dE)) :: (g.no, .dct (NT.map dE)) :: (g.fi, .dct []) :: (g.fo, .dct []) ::
 (TT.map cE ++ (NT.map cE ++ (PN.map cE ++ ω)))
noncomputable def usymT (u : List Str) (s : Str) : List Str := if (u.any fun y => y == s) = true then u else u ++ [s]
noncomputable def usymsF (ss : List Str) : List Str := ss.foldl usymT []
theorem usymsF_len (ss : List Str) : (usymsF ss).length ≤ ss.length := by
 have gen : ∀ (ss u : List Str), (ss.foldl usymT u).length ≤ u.length + ss.length := by
  intro ss
  induction ss with
  | nil => intro u; simp
  | cons s r ih =>
   intro u
   have := ih (usymT u s)
   simp only [List.foldl_cons, List.length_cons]
   have h2 : (usymT u s).length ≤ u.length + 1 := by unfold usymT; split <;> simp
   lia
 have := gen ss []
 simpa [usymsF] using this
theorem any_str (us : List Str) (s : Str) : ((us.map D.str).any fun y => deq y (.str s)) = us.any fun y => y == s := by
 rw [List.any_map]; rfl
theorem ok_strs {us : List Str} (h : ∀ s ∈ us, PyData.strOk s = true) (n : Nat) : (us.map D.str).all (okd n) = true := by
 rw [List.all_map, List.all_eq_true]
 intro s hs
 have := h s hs
 cases n <;> exact this
theorem usymsF_mem {ss : List Str} : ∀ s ∈ usymsF ss, s ∈ ss := by
 have gen : ∀ (ss u : List Str), ∀ s ∈ ss.foldl usymT u, s ∈ u ∨ s ∈ ss := by
  intro ss
  induction ss with
  | nil => intro u s h; exact .inl h
  | cons x r ih =>
   intro u s h
   rcases ih _ s h with h | h
   ·unfold usymT at h
    split at h
    ·exact .inl h
    ·rcases List.mem_append.mp h with h | h
     ·exact .inl h
     ·exact .inr (by rw [List.mem_singleton.mp h]; exact .head _)
   ·exact .inr (.tail _ h)
 intro s h
 rcases gen ss [] s h with h | h
 ·cases h
 ·exact h
noncomputable def prodStr (p : GPr) : Str := if p.2.isEmpty then p.1 ++ PySem.Str.ofString " -> <empty>" else p.1 ++ PySem.Str.ofString " -> " ++ Txt.join (PySem.Str.ofString " ") p.2
noncomputable def prodB (us : D) (n : Int) (p : GPr) : List (Str × D) := [("name", .str p.1), ("prod", .tup (p.2.map .str)), ("number", .int n), ("func", .none), ("callable", .none), ("file", .str ""), ("line", .int 0),
 ("prec", .tup [.str "right", .int 0]), ("len", .int (p.2.map D.str).length), ("usyms", us), ("lr_items", .list []), ("lr_next", .none), ("str", .str (prodStr p))]
noncomputable def prodA (n : Int) (p : GPr) : List (Str × D) := prodB (.list ((usymsF p.2).map .str)) n p
noncomputable def prodD (aP : Addr) (q : GPr × Nat) : D := .inst aP (prodA (q.2 : Nat) q.1)
theorem empty_app' (d : Str) : Str.empty ++ d = d := KPc.empty_app d
theorem join_len {ss : List Str} (hz : ss.length ≤ 1000) (hs : ∀ s ∈ ss, s.length ≤ 100 ∧ PyData.strOk s = true) :
  (ss.map (·.length)).sum + ss.length * (PySem.Str.ofString " ").length ≤ 16777216 ∧ (Txt.join (PySem.Str.ofString " ") ss).length ≤ 200000 := by
 have hl : (PySem.Str.ofString " ").length = 1 := by decide +kernel
 have h1 : (ss.map (·.length)).sum ≤ 100 * ss.length := by
  clear hz
  induction ss with
  | nil => simp
  | cons s r ih =>
   have := ih fun x hx => hs x (.tail _ hx)
   have := (hs s (.head _)).1
   simp only [List.map_cons, List.sum_cons, List.length_cons]
   lia
 rw [hl]
 refine ⟨by lia, ?_⟩
 have h2 := StrLaws.join_length_le (PySem.Str.ofString " ") ss
 rw [hl] at h2
 refine Nat.le_trans ?_ (Nat.le_trans h2 (by lia))
 exact Nat.le_of_eq (congrArg Str.length (StrLaws.glued_eq_join _ _))
noncomputable def symCodes : List Nat := [83, 65, 66, 115, 97, 98, 84, 99]
noncomputable def symS (c : Nat) : Str := ⟨#[c]⟩
noncomputable def mapS (p : GPr) : Str := p.1 ++ PySem.Str.ofString " -> " ++ shownS p.2
variable {X : Cx} {A : Around} {env : Env} {σ : Sg} {P : D → Sg → Prop} {Q : Fl → Sg → Prop}
theorem ol_perm {f : List Value → Sem Value} {ds : List D} (h : OpL X A env σ f ds (fun d σ₁ => ∃ ω', ω'.Perm σ₁.ω ∧ P d ⟨σ₁.ρ, ω'⟩)) : OpL X A env σ f ds P := fun s b vs S rv => by
 refine wpAny_mono (h s b vs S rv) ?_ (fun _ _ x => x)
 rintro v s₁ ⟨d, ⟨ρ₁, ω₁⟩, b₁, E₁, S₁, r₁, ω', hp, p⟩
 obtain ⟨S₂, E₂⟩ := S₁.perm hp
 exact ⟨d, _, b₁, E₁.trans E₂, S₂, r₁, p⟩
open Classical in
theorem perm_of_count {ω ω' : Om} (h : ∀ x, ω.count x = ω'.count x) : ω.Perm ω' := List.perm_iff_count.mpr h
theorem asg_perm {ρ : List (Str × D)} {ω ω' : Om} {target : Expr} {d : D} {R : Sg → Prop} (hs : ω'.Perm ω) (h : Asg X A env ⟨ρ, ω'⟩ target d R) : Asg X A env ⟨ρ, ω⟩ target d R := fun s b v S r => by
 obtain ⟨S₂, E₂⟩ := S.perm hs
 refine wpAny_mono (h s b v S₂ r) ?_ (fun _ _ x => x)
 rintro _ s₁ ⟨σ₁, b₁, E₁, S₁, q⟩
 exact ⟨σ₁, b₁, E₂.trans E₁, S₁, q⟩
end
local macro_rules | `(tactic| walk_at "mem") => `(tactic| first | exact List.Mem.head _ | (refine' List.Mem.tail _ ?uu; (case uu => walk_at "mem")) | (refine' List.mem_append_right _ ?uu; (case uu => walk_at "mem")) | fail "mem")
local macro_rules | `(tactic| walk_at "upd") => `(tactic| first | exact Upd.head | (refine' Upd.tail ?uu; (case uu => walk_at "upd")) | (refine' Upd.skip _ ?uu; (case uu => walk_at "upd")) | fail "upd")
local macro_rules | `(tactic| walk_at "m1") => `(tactic| first
 | with_reducible refine' exs_cons ?_
 | with_reducible refine' exs_nil ?_
 | ((with_reducible refine' ex_assign ?h ?a ?b); (case a => exact rfl); (case b => exact rfl))
 | ((with_reducible refine' ex_setattr_new ?h ?a); (case a => exact rfl))
 | ((with_reducible refine' ex_dset ?h ?a); (case a => exact rfl))
 | with_reducible refine' ex_if ?_
 | with_reducible refine' ex_ret ?_
 | ((with_reducible refine' ex_expr ?h ?a ?b); (case a => exact rfl); (case b => exact rfl))
 | with_reducible refine' ex_pass ?_
 | ((with_reducible refine' ev_var ?a ?b ?h ?c ?d); (case a => exact rfl); (case b => exact rfl); (case c => exact rfl); (case d => exact rfl))
 | with_reducible refine' ev_int ?_
 | with_reducible refine' ev_str ?_
 | with_reducible refine' ev_none ?_
 | with_reducible refine' ev_bool ?_
 | ((with_reducible refine' ev_attr ?h ?a); (case a => exact rfl))
 | ((with_reducible refine' ev_cmp ?h ?a); (case a => exact rfl))
 | with_reducible refine' ev_bin ?_
 | with_reducible refine' ev_tup ?_
 | with_reducible refine' ev_if ?_
 | ((with_reducible refine' trl_cons ?h ?a); (case a => exact rfl))
 | with_reducible refine' trl_nil ?_
 | ((with_reducible refine' te_cmp ?h ?a); (case a => exact rfl))
 | with_reducible refine' te_and ?_
 | with_reducible refine' te_or ?_
 | with_reducible refine' te_and_nil ?_
 | with_reducible refine' te_or_nil ?_
 | with_reducible refine' te_not ?_
 | ((with_reducible refine' te_plain ?h ?a); (case a => exact rfl))
 | ((with_reducible refine' ⟨_, _, _, _, rfl, ?u, ?n, ?a, ?b, ?h⟩); (case u => walk_at "upd"); (case n => exact rfl); (case a => exact rfl); (case b => exact Nat.le_of_ble_eq_true rfl); (try dsimp only [List.cons_append, List.nil_append]))
 | ((with_reducible refine' ⟨_, _, _, .cell ?m, ?a, ?b, ?c, ?h⟩); (case m => walk_at "mem"); (case a => exact rfl); (case b => exact rfl); (case c => exact rfl))
 | ((with_reducible refine' ⟨_, _, _, .data, ?a, ?b, ?c, ?h⟩); (case a => exact rfl); (case b => exact rfl); (case c => exact rfl))
 | ((with_reducible refine' ⟨?a, ?h⟩); (case a => exact Nat.le_of_ble_eq_true rfl))
 | fail "m1")
local macro_rules | `(tactic| walk_at "m") => `(tactic| (repeat' walk_at "m1"))
section
variable {w : World} {mg mb : Str → Option Value} {fr : List Env} {A : Around} {env : Env} {σ : Sg} {P : D → Sg → Prop} {Q : Fl → Sg → Prop}
theorem Upd.id {a : Addr} {c : C} {ω ω' : Om} (u : Upd a c c ω ω') : ω' = ω := by
 induction u with
 | head => rfl
 | tail _ ih => rw [ih]
theorem next_ok {t : Addr} {ns : List Int} {ω' : Om} {k : Nat} (R : ARoom (k + 1) A) (u : Upd t (.lst (ns.map .int)) (.lst (ns.tail.map .int)) σ.ω ω') (hz : ns.length ≤ 1000) (p : P (.int (ns.headD 0)) ⟨σ.ρ, ω'⟩) : OpL (X3 w mg mb fr) A env σ (fun vs => call (.ref 259) vs) [.raw (.ref t)] P := by
 cases ns with
 | nil =>
  have := Upd.id u
  subst this
  exact next_nil R u.mem p
 | cons n r => exact next_cons R u (by have := hsl; simp at hz ⊢; lia) p
noncomputable def sD (c : Nat) : D := .str (symS c)
noncomputable def rowD (l : List Nat) : D := .list (l.map sD)
theorem fmod_at (a : Int) {n : Nat} (h : 0 < n) : ∃ j : Nat, a.fmod (n : Int) = (j : Int) ∧ j < n := by
 have h0 : a.fmod (n : Int) = a % (n : Int) := Int.fmod_eq_emod_of_nonneg _ (Int.natCast_nonneg n)
 have h1 := Int.emod_nonneg a (b := (n : Int)) (by lia)
 have h2 := Int.emod_lt_of_pos a (b := (n : Int)) (by lia)
 exact ⟨(a % (n : Int)).toNat, by lia, by lia⟩
set_option maxHeartbeats 2000000
theorem row_ok {t : Addr} {tp : List Int} {syms : List Nat} {m k : Nat} {F : List Int → Om} (R : ARoom (k + 2) A) (hw : σ.ω = F tp) (hF : ∀ a b : List Int, Upd t (.lst (a.map .int)) (.lst (b.map .int)) (F a) (F b)) (ht : tp.length ≤ 100) (h0 : 0 < syms.length) (hs : syms.length ≤ 10) (hm : m ≤ 10)
  (p : ∀ (r : List Nat) (tp' : List Int), r.length ≤ m → (∀ c ∈ r, c ∈ syms) → tp'.length ≤ tp.length → P (rowD r) ⟨σ.ρ, F tp'⟩) :
  OpL (X3 w mg mb fr) A env σ (fun vs => call (.ref 264) vs) [.raw (.ref t), rowD syms, .int (m : Nat)] P := by
 refine fn_call (dbs := [("tape", .raw (.ref t)), ("symbols", rowD syms), ("most", .int (m : Nat))]) ⟨⟨_, _, _, rfl⟩, rfl, rfl, rfl, rfl, rfl, rfl, rfl, rfl, rfl, rfl, rfl, rfl⟩ R.room ?_ rfl rfl ?_
 ·intro s b vs T hb r
  obtain ⟨v1, v2, v3, rfl, r1, r2, r3⟩ := r.i_three
  exact ⟨_, BindsTo.of_eq rfl, .cons r1 (.cons r2 (.cons r3 .nil))⟩
 ·intro L
  have hsl' := hsl
  have R' : ∀ e, ARoom (k + 1) (A.deeper e) := fun e => R.deeper
  rw [hw]
  unfold rowD
  try dsimp only
  refine exs_let ?_; intro X' A' e' q'
  walk_at "m"
  refine ev_callO (ev_glob (v := .ref 259) rfl (fun _ _ => .raw _) rfl ⟨rfl, ?_⟩ rfl) rfl rfl rfl rfl
  walk_at "m"
  refine next_ok (k := k) (R' _) (hF _ _) (by exact le_c ht rfl) ?_
  walk_at "m"
  refine op_add ?_
  try dsimp only
  have e1 : ((m : Nat) : Int) + 1 = ((m + 1 : Nat) : Int) := by lia
  rw [e1]
  refine op_mod (by lia) ?_
  obtain ⟨n, hn, hn'⟩ := fmod_at (tp.headD 0) (n := m + 1) (by lia)
  rw [hn]
  have ht1 : tp.tail.length ≤ tp.length := by rw [List.length_tail]; lia
  generalize tp.tail = tp1 at ht1 ⊢
  walk_at "m"
  refine tr_freeze (ev_compG (e := .ListComp _ _ _ _) (by rfl) loop_l start_l new_l (preG (List.range n) (fun i => .int (i : Nat)) (fun pre out ω₁ => ∃ (r : List Nat) (tp' : List Int), out = r.map sD ∧ ω₁ = F tp' ∧ r.length = pre.length ∧ (∀ c ∈ r, c ∈ syms) ∧ tp'.length ≤ tp.length) ?_ ?_ ?_) (fun _ => rfl) rfl rfl)
  ·refine src_of (ev_callT (ev_blt rfl (by boot_fast) (by decide) rfl ⟨rfl, ?_⟩ rfl) rfl rfl rfl)
   walk_at "m"
   exact ol_range ⟨itb_rng R.hd (by exact lelt_c (Nat.le_trans (Nat.le_of_lt hn') (Nat.add_le_add_right hm _)) rfl), rfl, [], tp1, rfl, rfl, rfl, by simp, ht1⟩
  ·rintro cl Ca acc pre x post out ω₁ hsp ⟨r, tp', rfl, rfl, hr1, hr2, hr3⟩
   have hpre : pre.length < n := by have := congrArg List.length hsp; simp at this; exact mid_lt this
   refine asg_name rfl (ts_nil ?_)
   rw [QIt, if_pos rfl]
   refine tru_l ?_
   refine ev_sub ?_
   walk_at "m"
   refine ev_callO (ev_glob (v := .ref 259) rfl (fun _ _ => .raw _) rfl ⟨rfl, ?_⟩ rfl) rfl rfl rfl rfl
   walk_at "m"
   refine next_ok (k := k) (R' _) (.tail (hF _ _)) (by exact le_c (Nat.le_trans hr3 ht) rfl) ?_
   walk_at "m"
   refine ev_callB (ev_blt rfl (by boot_fast) (by decide) rfl ⟨rfl, ?_⟩ rfl) rfl rfl rfl
   walk_at "m"
   refine ol_len .data (by simp; exact le_s hs rfl) ?_
   rw [List.length_map]
   refine op_mod (by lia) ?_
   obtain ⟨j, hj, hj'⟩ := fmod_at (tp'.headD 0) h0
   rw [hj]
   refine op_item (x := sD syms[j]) .data (Int.natCast_nonneg j) (by simp [hj']) (by simp; exact le_s hs rfl) ?_ (fun _ _ => rfl)
   refine ⟨_, _, rfl, by simp; lia, ⟨_, _, rfl, r ++ [syms[j]], tp'.tail, by simp, rfl, by simp [hr1], ?_, by rw [List.length_tail]; lia⟩⟩
   intro c hc
   rcases List.mem_append.mp hc with hc | hc
   ·exact hr2 c hc
   ·rw [List.mem_singleton.mp hc]; exact List.getElem_mem hj'
  ·rintro acc out ω₁ ⟨r, tp', rfl, rfl, hr1, hr2, hr3⟩
   exact ⟨acc, _, _, rfl, rfl, p r tp' (by rw [hr1, List.length_range]; exact Nat.le_of_lt_succ hn') hr2 hr3⟩
end
section
noncomputable def insK (ts ks : List Str) (k : Str) : List Str := if k ∈ ts ∨ k ∈ ks then ks else ks ++ [k]
noncomputable def keysOf (ts : List Str) (ps : List GPr) : List Str := ps.foldl (fun ks p => (p.1 :: p.2).foldl (insK ts) ks) []
theorem keysOf_decl {ts : List Str} {ps : List GPr} {n : Str} : keysOf ts (ps ++ [(n, [])]) = insK ts (keysOf ts ps) n := by simp [keysOf, List.foldl_append]
theorem keysOf_last {ts : List Str} {ps : List GPr} {n t : Str} {pre : List Str} : keysOf ts (ps ++ [(n, pre ++ [t])]) = insK ts (keysOf ts (ps ++ [(n, pre)])) t := by simp [keysOf, List.foldl_append]
theorem insK_old {ts ks : List Str} {k : Str} (h : k ∈ ts ∨ k ∈ ks) : insK ts ks k = ks := by unfold insK; rw [if_pos h]
theorem insK_new {ts ks : List Str} {k : Str} (h : k ∉ ts) (h' : k ∉ ks) : insK ts ks k = ks ++ [k] := by unfold insK; rw [if_neg fun z => z.elim h h']
structure GN (ts : List Str) (ps : List GPr) (m : Nat) (TT NT : List NE) : Prop where
 tk : TT.map (·.1) = ts
 nk : ∀ k, k ∈ NT.map (·.1) ↔ ∃ p ∈ ps, k = p.1 ∨ (k ∈ p.2 ∧ k ∉ ts)
 nn : (NT.map (·.1)).Nodup
 nd : ∀ k ∈ NT.map (·.1), k ∉ ts
 tc : ∀ e ∈ TT, e.2.2 = [] ↔ ∀ p ∈ ps, e.1 ∉ p.2
 nc : ∀ e ∈ NT, e.2.2 = [] ↔ ∀ p ∈ ps, e.1 ∉ p.2
 tl : ∀ e ∈ TT, e.2.2.length ≤ m
 nl : ∀ e ∈ NT, e.2.2.length ≤ m
 ord : NT.map (·.1) = keysOf ts ps
structure GP (aP : Addr) (ps : List GPr) (PN : List NE) : Prop where
 pk : ∀ k, k ∈ PN.map (·.1) ↔ ∃ p ∈ ps, k = p.1
 pn : (PN.map (·.1)).Nodup
 pc : ∀ e ∈ PN, e.2.2 = ((ps.zipIdx 1).filter fun q => q.1.1 == e.1).map (prodD aP)
variable {ts : List Str} {ps : List GPr} {m : Nat} {TT NT PN : List NE} {n t : Str} {pre : List Str} {x : D}
theorem GN.more {m' : Nat} (G : GN ts ps m TT NT) (h : m ≤ m') : GN ts ps m' TT NT := ⟨G.tk, G.nk, G.nn, G.nd, G.tc, G.nc, fun e he => Nat.le_trans (G.tl e he) h, fun e he => Nat.le_trans (G.nl e he) h, G.ord⟩
theorem GN.declOld (G : GN ts ps m TT NT) (h : n ∈ NT.map (·.1)) : GN ts (ps ++ [(n, [])]) m TT NT := by
 refine ⟨G.tk, fun k => ?_, G.nn, G.nd, fun e he => ?_, fun e he => ?_, G.tl, G.nl, by rw [keysOf_decl, insK_old (.inr (G.ord ▸ h))]; exact G.ord⟩
 ·rw [G.nk]
  constructor
  ·rintro ⟨p, hp, h⟩; exact ⟨p, List.mem_append_left _ hp, h⟩
  ·rintro ⟨p, hp, h'⟩
   rcases List.mem_append.mp hp with hp | hp
   ·exact ⟨p, hp, h'⟩
   ·rw [List.mem_singleton.mp hp] at h'
    rcases h' with rfl | ⟨h', _⟩
    ·exact (G.nk _).mp h
    ·cases h'
 ·rw [G.tc e he]; simp [List.mem_append, or_imp, forall_and]
 ·rw [G.nc e he]; simp [List.mem_append, or_imp, forall_and]
theorem GN.declNew {a : Addr} (G : GN ts ps m TT NT) (h : n ∉ NT.map (·.1)) (hn : n ∉ ts) : GN ts (ps ++ [(n, [])]) m TT (NT ++ [(n, a, [])]) := by
 have hno : ∀ p ∈ ps, n ∉ p.2 := fun p hp z => h ((G.nk n).mpr ⟨p, hp, .inr ⟨z, hn⟩⟩)
 refine ⟨G.tk, fun k => ?_, ?_, fun k hk => ?_, fun e he => ?_, fun e he => ?_, G.tl, fun e he => ?_, by rw [keysOf_decl, insK_new hn (G.ord ▸ h), ← G.ord, List.map_append]; rfl⟩
 ·rw [List.map_append, List.mem_append, G.nk]
  constructor
  ·rintro (⟨p, hp, h⟩ | h)
   ·exact ⟨p, List.mem_append_left _ hp, h⟩
   ·exact ⟨(n, []), by simp, .inl (by simpa using h)⟩
  ·rintro ⟨p, hp, h'⟩
   rcases List.mem_append.mp hp with hp | hp
   ·exact .inl ⟨p, hp, h'⟩
   ·rw [List.mem_singleton.mp hp] at h'
    rcases h' with rfl | ⟨h', _⟩
    ·exact .inr (by simp)
    ·cases h'
 ·rw [List.map_append, List.nodup_append]
  refine ⟨G.nn, by simp, fun a ha b hb => ?_⟩
  have : b = n := by simpa using hb
  subst this; rintro rfl; exact h ha
 ·rw [List.map_append, List.mem_append] at hk
  rcases hk with hk | hk
  ·exact G.nd k hk
  ·have : k = n := by simpa using hk
   rw [this]; exact hn
 ·rw [G.tc e he]; simp [List.mem_append, or_imp, forall_and]
 ·rcases List.mem_append.mp he with he | he
  ·rw [G.nc e he]; simp [List.mem_append, or_imp, forall_and]
  ·rw [List.mem_singleton.mp he]
   simp only [true_iff]
   intro p hp
   rcases List.mem_append.mp hp with hp | hp
   ·exact hno p hp
   ·rw [List.mem_singleton.mp hp]; simp
 ·rcases List.mem_append.mp he with he | he
  ·exact G.nl e he
  ·rw [List.mem_singleton.mp he]; simp
theorem last_mem {k : Str} {s : Str} : (∀ p ∈ ps ++ [(n, pre ++ [s])], k ∉ p.2) ↔ (∀ p ∈ ps ++ [(n, pre)], k ∉ p.2) ∧ k ≠ s := by
 constructor
 ·intro h
  refine ⟨fun p hp => ?_, fun z => ?_⟩
  ·rcases List.mem_append.mp hp with hp | hp
   ·exact h p (List.mem_append_left _ hp)
   ·rw [List.mem_singleton.mp hp]
    have := h (n, pre ++ [s]) (by simp)
    simp at this ⊢; exact this.1
  ·have := h (n, pre ++ [s]) (by simp)
   simp at this; exact this.2 z
 ·rintro ⟨h1, h2⟩ p hp
  rcases List.mem_append.mp hp with hp | hp
  ·exact h1 p (List.mem_append_left _ hp)
  ·rw [List.mem_singleton.mp hp]
   have := h1 (n, pre) (by simp)
   simp at this ⊢; exact ⟨this, h2⟩
theorem keys_last {k : Str} : (∃ p ∈ ps ++ [(n, pre ++ [t])], k = p.1 ∨ (k ∈ p.2 ∧ k ∉ ts)) ↔ (∃ p ∈ ps ++ [(n, pre)], k = p.1 ∨ (k ∈ p.2 ∧ k ∉ ts)) ∨ (k = t ∧ k ∉ ts) := by
 constructor
 ·rintro ⟨p, hp, h⟩
  rcases List.mem_append.mp hp with hp | hp
  ·exact .inl ⟨p, List.mem_append_left _ hp, h⟩
  ·rw [List.mem_singleton.mp hp] at h
   rcases h with h | ⟨h, h'⟩
   ·exact .inl ⟨(n, pre), by simp, .inl h⟩
   ·rcases List.mem_append.mp h with h | h
    ·exact .inl ⟨(n, pre), by simp, .inr ⟨h, h'⟩⟩
    ·exact .inr ⟨by simpa using h, h'⟩
 ·rintro (⟨p, hp, h⟩ | ⟨h, h'⟩)
  ·rcases List.mem_append.mp hp with hp | hp
   ·exact ⟨p, List.mem_append_left _ hp, h⟩
   ·rw [List.mem_singleton.mp hp] at h
    refine ⟨(n, pre ++ [t]), by simp, h.imp id fun z => ⟨?_, z.2⟩⟩
    simp at z ⊢; exact .inl z.1
  ·exact ⟨(n, pre ++ [t]), by simp, .inr ⟨by simp [h], h'⟩⟩
theorem appE_empty {L : List NE} {R : Str → Prop} (hd : (L.map (·.1)).Nodup) (h : ∀ e ∈ L, e.2.2 = [] ↔ R e.1) : ∀ e ∈ appE t x L, e.2.2 = [] ↔ R e.1 ∧ e.1 ≠ t := by
 induction L with
 | nil => intro e he; cases he
 | cons e' r ih =>
  intro e he
  simp only [List.map_cons, List.nodup_cons] at hd
  unfold appE at he
  split at he
  ·rename_i hk
   have hk := beq_iff_eq.mp hk
   rcases List.mem_cons.mp he with rfl | he
   ·simp [hk]
   ·rw [h e (.tail _ he)]
    have : e.1 ≠ t := by rw [hk]; rintro z; exact hd.1 (z ▸ List.mem_map_of_mem he)
    simp [this]
  ·rename_i hk
   have hk : ¬ t = e'.1 := by simpa using hk
   rcases List.mem_cons.mp he with rfl | he
   ·rw [h e (.head _)]
    have : e.1 ≠ t := fun z => hk z.symm
    simp [this]
   ·exact ih hd.2 (fun e he => h e (.tail _ he)) e he
theorem appE_len {L : List NE} (h : ∀ e ∈ L, e.2.2.length ≤ m) : ∀ e ∈ appE t x L, e.2.2.length ≤ m + 1 := fun e he => by
 rcases appE_mem he with he | ⟨a, l, rfl, hm⟩
 ·exact Nat.le_succ_of_le (h e he)
 ·have := h _ hm
  simp at this ⊢; exact this
theorem GN.term (hts : ts.Nodup) (G : GN ts (ps ++ [(n, pre)]) m TT NT) (h : t ∈ ts) : GN ts (ps ++ [(n, pre ++ [t])]) (m + 1) (appE t x TT) NT := by
 refine ⟨by rw [appE_keys]; exact G.tk, fun k => ?_, G.nn, G.nd, fun e he => ?_, fun e he => ?_, appE_len G.tl, fun e he => Nat.le_succ_of_le (G.nl e he), by rw [keysOf_last, insK_old (.inl h)]; exact G.ord⟩
 ·rw [G.nk, keys_last]
  constructor
  ·exact .inl
  ·rintro (z | ⟨rfl, z⟩)
   ·exact z
   ·exact absurd h z
 ·rw [appE_empty (R := fun k => ∀ p ∈ ps ++ [(n, pre)], k ∉ p.2) (by rw [G.tk]; exact hts) G.tc e he, last_mem]
 ·rw [G.nc e he, last_mem]
  have hne : e.1 ≠ t := fun z => G.nd e.1 (List.mem_map_of_mem he) (z ▸ h)
  simp [hne]
theorem GN.nonOld (G : GN ts (ps ++ [(n, pre)]) m TT NT) (h : t ∉ ts) (hk : t ∈ NT.map (·.1)) : GN ts (ps ++ [(n, pre ++ [t])]) (m + 1) TT (appE t x NT) := by
 refine ⟨G.tk, fun k => ?_, by rw [appE_keys]; exact G.nn, by rw [appE_keys]; exact G.nd, fun e he => ?_, fun e he => ?_, fun e he => Nat.le_succ_of_le (G.tl e he), appE_len G.nl, by rw [appE_keys, keysOf_last, insK_old (.inr (G.ord ▸ hk))]; exact G.ord⟩
 ·rw [appE_keys, G.nk, keys_last]
  constructor
  ·exact .inl
  ·rintro (z | ⟨rfl, z⟩)
   ·exact z
   ·exact (G.nk _).mp hk
 ·rw [G.tc e he, last_mem]
  have hne : e.1 ≠ t := fun z => h (by rw [← G.tk, ← z]; exact List.mem_map_of_mem he)
  simp [hne]
 ·rw [appE_empty (R := fun k => ∀ p ∈ ps ++ [(n, pre)], k ∉ p.2) G.nn G.nc e he, last_mem]
theorem GN.nonNew {a : Addr} (G : GN ts (ps ++ [(n, pre)]) m TT NT) (h : t ∉ ts) (hk : t ∉ NT.map (·.1)) : GN ts (ps ++ [(n, pre ++ [t])]) (m + 1) TT (appE t x (NT ++ [(t, a, [])])) := by
 have hno : ∀ p ∈ ps ++ [(n, pre)], t ∉ p.2 := fun p hp z => hk ((G.nk t).mpr ⟨p, hp, .inr ⟨z, h⟩⟩)
 have hnn : ((NT ++ [((t, a, []) : NE)]).map (·.1)).Nodup := by
  rw [List.map_append, List.nodup_append]
  refine ⟨G.nn, by simp, fun a ha b hb => ?_⟩
  have : b = t := by simpa using hb
  subst this; rintro rfl; exact hk ha
 have hnc : ∀ e ∈ NT ++ [((t, a, []) : NE)], e.2.2 = [] ↔ ∀ p ∈ ps ++ [(n, pre)], e.1 ∉ p.2 := fun e he => by
  rcases List.mem_append.mp he with he | he
  ·exact G.nc e he
  ·rw [List.mem_singleton.mp he]
   simp only [true_iff]
   exact hno
 refine ⟨G.tk, fun k => ?_, by rw [appE_keys]; exact hnn, ?_, fun e he => ?_, fun e he => ?_, fun e he => Nat.le_succ_of_le (G.tl e he), appE_len fun e he => ?_, by rw [appE_keys, keysOf_last, insK_new h (G.ord ▸ hk), ← G.ord, List.map_append]; rfl⟩
 ·rw [appE_keys, List.map_append, List.mem_append, G.nk, keys_last]
  constructor
  ·rintro (z | z)
   ·exact .inl z
   ·have : k = t := by simpa using z
    exact .inr ⟨this, this ▸ h⟩
  ·rintro (z | ⟨z, _⟩)
   ·exact .inl z
   ·exact .inr (by simp [z])
 ·rw [appE_keys, List.map_append]
  intro k hk
  rcases List.mem_append.mp hk with hk | hk
  ·exact G.nd k hk
  ·have : k = t := by simpa using hk
   rw [this]; exact h
 ·rw [G.tc e he, last_mem]
  have hne : e.1 ≠ t := fun z => h (by rw [← G.tk, ← z]; exact List.mem_map_of_mem he)
  simp [hne]
 ·rw [appE_empty (R := fun k => ∀ p ∈ ps ++ [(n, pre)], k ∉ p.2) hnn hnc e he, last_mem]
 ·rcases List.mem_append.mp he with he | he
  ·exact G.nl e he
  ·rw [List.mem_singleton.mp he]; simp
noncomputable def psD (aP : Addr) (ps : List GPr) : List D := (ps.zipIdx 1).map (prodD aP)
noncomputable def pmD (aP : Addr) (ps : List GPr) : List (Str × D) := (ps.zipIdx 1).map fun q => (mapS q.1, prodD aP q)
variable {aP : Addr} {p : GPr}
theorem zip_snoc : (ps ++ [p]).zipIdx 1 = ps.zipIdx 1 ++ [(p, ps.length + 1)] := by
 rw [List.zipIdx_append]; simp [Nat.add_comm]
theorem psD_snoc : psD aP (ps ++ [p]) = psD aP ps ++ [prodD aP (p, ps.length + 1)] := by
 unfold psD; rw [zip_snoc]; simp
theorem pmD_snoc : pmD aP (ps ++ [p]) = pmD aP ps ++ [(mapS p, prodD aP (p, ps.length + 1))] := by
 unfold pmD; rw [zip_snoc]; simp
theorem pmD_none (h : ∀ q ∈ ps, mapS q ≠ mapS p) : (pmD aP ps).lookup (mapS p) = none := by
 have gen : ∀ (ps : List GPr) (k : Nat), (∀ q ∈ ps, mapS q ≠ mapS p) → ((ps.zipIdx k).map fun q => (mapS q.1, prodD aP q)).lookup (mapS p) = none := by
  intro ps
  induction ps with
  | nil => intro k _; rfl
  | cons q r ih =>
   intro k h
   simp only [List.zipIdx_cons, List.map_cons, List.lookup_cons]
   have : (mapS p == mapS q) = false := by simpa using fun z : mapS p = mapS q => h q (.head _) z.symm
   rw [this]
   exact ih _ fun q hq => h q (.tail _ hq)
 exact gen ps 1 h
theorem GP.old (G : GP aP ps PN) (h : p.1 ∈ PN.map (·.1)) : GP aP (ps ++ [p]) (appE p.1 (prodD aP (p, ps.length + 1)) PN) := by
 refine ⟨fun k => ?_, by rw [appE_keys]; exact G.pn, ?_⟩
 ·rw [appE_keys, G.pk]
  constructor
  ·rintro ⟨q, hq, e⟩; exact ⟨q, List.mem_append_left _ hq, e⟩
  ·rintro ⟨q, hq, e⟩
   rcases List.mem_append.mp hq with hq | hq
   ·exact ⟨q, hq, e⟩
   ·rw [List.mem_singleton.mp hq] at e
    rw [e]; exact (G.pk _).mp h
 ·have hd := G.pn
  have hc := G.pc
  have key : ∀ n : Str, (((ps ++ [p]).zipIdx 1).filter fun q => q.1.1 == n).map (prodD aP) = ((ps.zipIdx 1).filter fun q => q.1.1 == n).map (prodD aP) ++ (if (p.1 == n) = true then [prodD aP (p, ps.length + 1)] else []) := by
   intro n
   rw [zip_snoc, List.filter_append, List.map_append]
   congr 1
   simp only [List.filter_cons, List.filter_nil]
   split <;> rfl
  clear h G
  generalize prodD aP (p, ps.length + 1) = pd at key ⊢
  induction PN with
  | nil => intro e he; cases he
  | cons e' r ih =>
   intro e he
   simp only [List.map_cons, List.nodup_cons] at hd
   unfold appE at he
   split at he
   ·rename_i hk
    rcases List.mem_cons.mp he with rfl | he
    ·dsimp only
     rw [key, hc e' (.head _), if_pos hk]
    ·rw [key, hc e (.tail _ he), if_neg]
     ·simp
     ·intro z
      exact hd.1 (by rw [← beq_iff_eq.mp hk, beq_iff_eq.mp z]; exact List.mem_map_of_mem he)
   ·rename_i hk
    rcases List.mem_cons.mp he with rfl | he
    ·rw [key, hc e (.head _), if_neg hk]; simp
    ·exact ih hd.2 (fun e he => hc e (.tail _ he)) e he
theorem GP.new {a : Addr} (G : GP aP ps PN) (h : p.1 ∉ PN.map (·.1)) : GP aP (ps ++ [p]) (PN ++ [(p.1, a, [prodD aP (p, ps.length + 1)])]) := by
 refine ⟨fun k => ?_, ?_, fun e he => ?_⟩
 ·rw [List.map_append, List.mem_append, G.pk]
  constructor
  ·rintro (⟨q, hq, e⟩ | e)
   ·exact ⟨q, List.mem_append_left _ hq, e⟩
   ·exact ⟨p, by simp, by simpa using e⟩
  ·rintro ⟨q, hq, e⟩
   rcases List.mem_append.mp hq with hq | hq
   ·exact .inl ⟨q, hq, e⟩
   ·rw [List.mem_singleton.mp hq] at e
    exact .inr (by simp [e])
 ·rw [List.map_append, List.nodup_append]
  refine ⟨G.pn, by simp, fun a ha b hb => ?_⟩
  have : b = p.1 := by simpa using hb
  subst this; rintro rfl; exact h ha
 ·have key : ∀ n : Str, (((ps ++ [p]).zipIdx 1).filter fun q => q.1.1 == n).map (prodD aP) = ((ps.zipIdx 1).filter fun q => q.1.1 == n).map (prodD aP) ++ (if (p.1 == n) = true then [prodD aP (p, ps.length + 1)] else []) := by
   intro n
   rw [zip_snoc, List.filter_append, List.map_append]
   congr 1
   simp only [List.filter_cons, List.filter_nil]
   split <;> rfl
  rw [key]
  rcases List.mem_append.mp he with he | he
  ·rw [G.pc e he, if_neg]
   ·simp
   ·intro z
    exact h (by rw [beq_iff_eq.mp z]; exact List.mem_map_of_mem he)
  ·rw [List.mem_singleton.mp he]
   dsimp only
   rw [if_pos (by simp)]
   have : ((ps.zipIdx 1).filter fun q => q.1.1 == p.1) = [] := by
    rw [List.filter_eq_nil_iff]
    rintro ⟨q, i⟩ hq z
    have hm : q ∈ ps := by
     have := List.mem_map_of_mem (f := (·.1)) hq
     simpa using this
    exact h ((G.pk _).mpr ⟨q, hm, (beq_iff_eq.mp z).symm⟩)
   rw [this]; rfl
end
section
noncomputable def bodyL : Nat → List Nat → List Nat
 | _, [] => []
 | 0, c :: r => 39 :: c :: 39 :: bodyL 1 r
 | k + 1, c :: r => 44 :: 32 :: 39 :: c :: 39 :: bodyL (k + 2) r
theorem repr_sym : ∀ c ∈ symCodes, reprText (symS c) = ⟨#[39, c, 39]⟩ := by decide +kernel
theorem cps_list_append (x y : Str) : (x ++ y).cps.toList = x.cps.toList ++ y.cps.toList := by rw [PySem.Str.cps_append]; simp
theorem commaS : (Str.ofString ", ").cps.toList = [44, 32] := by decide +kernel
theorem emptyS : (Str.ofString "").cps.toList = [] := by decide +kernel
theorem textFrom_list : ∀ (cs : List Nat) (k : Nat) (acc : Str), (∀ c ∈ cs, c ∈ symCodes) → (textFrom k acc (cs.map fun c => reprText (symS c))).cps.toList = acc.cps.toList ++ bodyL k cs
 | [], k, acc, _ => by cases k <;> simp [textFrom, bodyL]
 | c :: r, 0, acc, h => by
  simp only [List.map_cons, textFrom]
  rw [textFrom_list r 1 _ fun x hx => h x (.tail _ hx), repr_sym c (h c (.head _)), cps_list_append, cps_list_append]
  simp [bodyL, emptyS]
 | c :: r, k + 1, acc, h => by
  simp only [List.map_cons, textFrom]
  rw [textFrom_list r (k + 2) _ fun x hx => h x (.tail _ hx), repr_sym c (h c (.head _)), cps_list_append, cps_list_append]
  simp [bodyL, commaS]
theorem shownAll_map (cs : List Nat) : PyData.shownAll (D.pyAll (cs.map fun c => D.str (symS c))) = cs.map fun c => reprText (symS c) := by
 induction cs with
 | nil => simp [D.pyAll, PyData.shownAll]
 | cons c r ih => simp only [List.map_cons, D.pyAll, PyData.shownAll, ih]; simp [D.py, PyData.shown]
theorem shownS_list {cs : List Nat} (h : ∀ c ∈ cs, c ∈ symCodes) : (shownS (cs.map symS)).cps.toList = 91 :: (bodyL 0 cs ++ [93]) := by
 have e : shownS (cs.map symS) = listText (cs.map fun c => reprText (symS c)) := by
  show (PyData.list (D.pyAll ((cs.map symS).map D.str))).shown = _
  rw [List.map_map, ← shownAll_map]
  simp only [PyData.shown]; rfl
 rw [e]
 unfold listText
 rw [cps_list_append, textFrom_list cs 0 _ h]
 have h1 : (Str.ofString "[").cps.toList = [91] := by decide +kernel
 have h2 : (Str.ofString "]").cps.toList = [93] := by decide +kernel
 rw [h1, h2]; rfl
theorem bodyL_len : ∀ (cs : List Nat) (k : Nat), (bodyL k cs).length ≤ 5 * cs.length
 | [], k => by cases k <;> simp [bodyL]
 | c :: r, 0 => by have := bodyL_len r 1; simp [bodyL]; lia
 | c :: r, k + 1 => by have := bodyL_len r (k + 2); simp [bodyL]; lia
theorem bodyL_inj : ∀ {cs ds : List Nat} {k : Nat}, bodyL k cs = bodyL k ds → cs = ds
 | [], [], _, _ => rfl
 | [], d :: r, 0, h => by simp [bodyL] at h
 | [], d :: r, k + 1, h => by simp [bodyL] at h
 | c :: r, [], 0, h => by simp [bodyL] at h
 | c :: r, [], k + 1, h => by simp [bodyL] at h
 | c :: r, d :: r', 0, h => by
  simp only [bodyL, List.cons.injEq, true_and] at h
  rw [h.1, bodyL_inj h.2]
 | c :: r, d :: r', k + 1, h => by
  simp only [bodyL, List.cons.injEq, true_and] at h
  rw [h.1, bodyL_inj h.2]
theorem shownS_len {cs : List Nat} (h : ∀ c ∈ cs, c ∈ symCodes) : (shownS (cs.map symS)).length ≤ 5 * cs.length + 2 := by
 have h1 := congrArg List.length (shownS_list h)
 have h2 := bodyL_len cs 0
 simp only [List.length_cons, List.length_append, List.length_nil, Array.length_toList] at h1
 show (shownS (cs.map symS)).cps.size ≤ _
 lia
noncomputable abbrev CPr := Nat × List Nat
noncomputable def gpr (q : CPr) : GPr := (symS q.1, q.2.map symS)
noncomputable def CPr.ok (q : CPr) : Prop := q.1 ∈ symCodes ∧ ∀ c ∈ q.2, c ∈ symCodes
theorem symS_inj {a b : Nat} (h : symS a = symS b) : a = b := by
 unfold symS at h
 simpa using h
theorem mapS_inj {p q : CPr} (hp : p.ok) (hq : q.ok) (h : mapS (gpr p) = mapS (gpr q)) : p = q := by
 have h1 := congrArg (fun s : Str => s.cps.toList) h
 simp only [mapS, gpr, cps_list_append] at h1
 rw [shownS_list hp.2, shownS_list hq.2] at h1
 simp only [symS, List.cons_append, List.nil_append] at h1
 obtain ⟨h2, h3⟩ := List.cons.inj h1
 have h4 := List.append_cancel_left h3
 simp only [List.nil_append, List.cons.injEq, true_and] at h4
 have h5 := List.append_cancel_right h4
 have h6 := bodyL_inj h5
 obtain ⟨a, b⟩ := p
 obtain ⟨c, d⟩ := q
 dsimp only at h2 h6
 rw [h2, h6]
theorem sym_strOk : ∀ c ∈ symCodes, PyData.strOk (symS c) = true := by decide +kernel
theorem sym_len (c : Nat) : (symS c).length = 1 := rfl
end
section
variable {w : World} {mg mb : Str → Option Value} {fr : List Env} {A : Around} {env : Env} {σ : Sg} {P : D → Sg → Prop} {Q : Fl → Sg → Prop}
theorem deqSy (a b : Nat) : deq (sD a) (sD b) = decide (a = b) := by
 show (symS a == symS b) = decide (a = b)
 by_cases h : a = b
 ·subst h; simp
 ·rw [decide_eq_false h]
  exact beq_eq_false_iff_ne.mpr fun z => h (by injection z with z; injection z with z; injection z)
theorem anySy (l : List Nat) (c : Nat) : ((l.map sD).any fun y => deq y (sD c)) = decide (c ∈ l) := by
 induction l with
 | nil => rfl
 | cons y r ih =>
  rw [List.map_cons, List.any_cons, ih, deqSy]
  simp only [List.mem_cons, Bool.decide_or, eq_comm]
theorem sym_okd : ∀ c ∈ symCodes, PyData.strOk (symS c) = true := by decide +kernel
theorem okSy (n : Nat) {c : Nat} (h : c ∈ symCodes) : okd n (sD c) = true := by cases n <;> exact sym_okd c h
theorem okSys (n : Nat) {l : List Nat} (h : ∀ c ∈ l, c ∈ symCodes) : (l.map sD).all (okd n) = true := by
 rw [List.all_map]; exact List.all_eq_true.mpr fun c hc => okSy n (h c hc)
noncomputable def qD (q : CPr) : D := .tup [sD q.1, rowD q.2]
noncomputable def qsD (l : List CPr) : D := .list (l.map qD)
noncomputable def closT (known : List Nat) (q : CPr) : List Nat := if (!decide (q.1 ∈ known) && q.2.all fun s => decide (s ∈ known)) = true then known ++ [q.1] else known
noncomputable def clos1 (l : List CPr) (known : List Nat) : List Nat := l.foldl closT known
theorem closT_len (known : List Nat) (q : CPr) : (closT known q).length ≤ known.length + 1 := by unfold closT; split <;> simp
theorem clos1_len (l : List CPr) : ∀ (known : List Nat), (clos1 l known).length ≤ known.length + l.length := by
 induction l with
 | nil => intro k; simp [clos1]
 | cons q r ih =>
  intro k
  have h1 := ih (closT k q)
  have h2 := closT_len k q
  simp only [clos1, List.foldl_cons, List.length_cons] at h1 ⊢
  lia
theorem closT_ok {known : List Nat} {q : CPr} (h : ∀ c ∈ known, c ∈ symCodes) (hq : q.1 ∈ symCodes) : ∀ c ∈ closT known q, c ∈ symCodes := fun c hc => by
 unfold closT at hc
 split at hc
 ·rcases List.mem_append.mp hc with hc | hc
  ·exact h c hc
  ·rw [List.mem_singleton.mp hc]; exact hq
 ·exact h c hc
theorem clos1_ok : ∀ {l : List CPr} {known : List Nat}, (∀ c ∈ known, c ∈ symCodes) → (∀ q ∈ l, q.1 ∈ symCodes) → ∀ c ∈ clos1 l known, c ∈ symCodes
 | [], _, h, _ => h
 | q :: r, k, h, hl => clos1_ok (l := r) (closT_ok h (hl q (.head _))) fun x hx => hl x (.tail _ hx)
noncomputable def closN (l : List CPr) : Nat → List Nat → List Nat
 | 0, k => k
 | n + 1, k => clos1 l (closN l n k)
theorem closN_ok {l : List CPr} {known : List Nat} (h : ∀ c ∈ known, c ∈ symCodes) (hl : ∀ q ∈ l, q.1 ∈ symCodes) : ∀ n, ∀ c ∈ closN l n known, c ∈ symCodes
 | 0 => h
 | n + 1 => clos1_ok (closN_ok h hl n) hl
theorem closN_len (l : List CPr) (known : List Nat) : ∀ n, (closN l n known).length ≤ known.length + n * l.length
 | 0 => by simp [closN]
 | n + 1 => by
  have h1 := clos1_len l (closN l n known)
  have h2 := closN_len l known n
  rw [Nat.succ_mul]
  simp only [closN]
  lia
theorem filter_all {α : Type} (l : List α) : l.filter (fun _ => true) = l := List.filter_eq_self.mpr fun _ _ => rfl
structure Rows (l : List CPr) : Prop where
 ok : ∀ q ∈ l, q.ok
 len : ∀ q ∈ l, q.2.length ≤ 20
 few : l.length ≤ 20
set_option maxHeartbeats 2000000
theorem closed_ok {host : List CPr} {known : List Nat} {k : Nat} (R : ARoom (k + 1) A) (H : Rows host) (hk : ∀ c ∈ known, c ∈ symCodes) (hkl : known.length ≤ 20) (p : P (rowD (closN host 2 known)) σ) :
  OpL (X3 w mg mb fr) A env σ (fun vs => call (.ref 269) vs) [qsD host, rowD known] P := by
 refine fn_call (dbs := [("host", qsD host), ("known", rowD known)]) ⟨⟨_, _, _, rfl⟩, rfl, rfl, rfl, rfl, rfl, rfl, rfl, rfl, rfl, rfl, rfl, rfl⟩ R.room ?_ rfl rfl ?_
 ·intro s b vs T hb r
  obtain ⟨v1, v2, rfl, r1, r2⟩ := r.i_two
  exact ⟨_, BindsTo.of_eq rfl, .cons r1 (.cons r2 .nil)⟩
 ·intro L
  have hsl' := hsl
  have R' : ∀ e, ARoom k (A.deeper e) := fun e => R.deeper
  refine exs_let ?_; intro X' A' e' q'
  refine exs_cons (ex_forL (List.range 2) (fun i => .int (i : Nat)) (fun pre => [("known", rowD (closN host pre.length known)), ("host", qsD host)]) (fun pre => σ.ω)
   (src_of (ev_callT (ev_blt rfl (by boot_fast) (by decide) rfl ⟨rfl, trl_cons (ev_int (trl_nil (ol_range (n := 2) ⟨itb_rng R.hd (by decide), .cons rfl (.cons rfl .nil), rfl⟩))) rfl⟩ rfl) rfl rfl rfl)) ?_ (exs_nil ?_) (fun _ => rfl))
  ·intro pre x post e
   have hpre : pre.length < 2 := by have := congrArg List.length e; simp at this; exact mid_lt this
   refine asg_name rfl ?_
   refine exs_cons (ex_forL host qD (fun q => [("known", rowD (clos1 q (closN host pre.length known))), ("host", qsD host)]) (fun q => σ.ω)
    (src_of (ev_var rfl rfl ⟨itb_list R.hd, .cons rfl (.cons rfl .nil), rfl⟩ rfl rfl)) ?_ (exs_nil (exs_nil ⟨.cons ?_ (.cons rfl .nil), rfl⟩)) (fun _ => rfl))
   ·intro q r post' e'
    have hrm : r ∈ host := by rw [e']; simp
    have hqm : ∀ x ∈ q, x.1 ∈ symCodes := fun x hx => (H.ok x (by rw [e']; simp [hx])).1
    have hlen : (clos1 q (closN host pre.length known)).length ≤ 100 := by
     have h1 := clos1_len q (closN host pre.length known)
     have h2 := closN_len host known pre.length
     have h3 : pre.length * host.length ≤ 1 * host.length := Nat.mul_le_mul_right _ (by lia)
     have h4 : q.length ≤ host.length := by rw [e']; simp
     have := H.few
     lia
    have hok : ∀ c ∈ clos1 q (closN host pre.length known), c ∈ symCodes := clos1_ok (closN_ok hk (fun q hq => (H.ok q hq).1) _) hqm
    have hstep : clos1 (q ++ [r]) (closN host pre.length known) = closT (clos1 q (closN host pre.length known)) r := by simp [clos1]
    rw [hstep]
    generalize clos1 q (closN host pre.length known) = kn at hlen hok ⊢
    have hro := H.ok r hrm
    have hrl := H.len r hrm
    unfold rowD qD
    refine asg_tup2 R.hd rfl rfl ?_
    try dsimp only
    walk_at "m"
    refine op_notin (R' _) .data (okSy 0 hro.1) (okSys 0 hok) (by decide) (ob_bool (ite_b (fun h1 => ?_) (fun h1 => ?_)))
    ·rw [anySy] at h1
     walk_at "m"
     refine ev_callB (ev_blt rfl (by boot_fast) (by decide) rfl ⟨rfl, ?_⟩ rfl) rfl rfl rfl
     refine trl_cons (ev_lc (c := fun _ => true) r.2 sD (fun s => .bool (decide (s ∈ kn))) (by rfl) (by exact le_s hrl rfl) (fun _ => rfl) ?_ ?_ ?_) rfl
     ·refine src_of ?_
      walk_at "m"
      exact ⟨itb_list R.hd, rfl, rfl⟩
     ·intro cl Ca acc pre s post hsp
      refine asg_name rfl (ts_nil ⟨rfl, rfl, fun _ => ?_⟩)
      walk_at "m"
      refine op_in (R' _) .data (okSy 0 (hro.2 s (by rw [hsp]; simp))) (okSys 0 hok) (by decide) ⟨?_, rfl⟩
      rw [anySy]
     ·rw [filter_all]
      walk_at "m"
      refine ol_all (bs := r.2.map fun s => decide (s ∈ kn)) R.hd (by rw [List.map_map]; exact .data) (ob_bool (ite_b (fun h2 => ?_) (fun h2 => ?_)))
      ·refine te_and_nil (ite_t rfl ?_)
       walk_at "m"
       refine ev_list ?_
       walk_at "m"
       refine op_addl .data .data ?_ ?_
       ·simp; exact le_s (Nat.add_le_add_right hlen _) rfl
       walk_at "m"
       have h3 : (r.2.all fun s => decide (s ∈ kn)) = true := by simpa [List.all_map] using h2
       have e : closT kn r = kn ++ [r.1] := by simp only [closT, h1, h3, Bool.and_self, if_true]
       exact ⟨.cons (by rw [e, rowD, List.map_append]; rfl) (.cons rfl .nil), rfl⟩
      ·refine ite_f rfl ?_
       walk_at "m"
       have h3 : (r.2.all fun s => decide (s ∈ kn)) = false := by
        cases q : (r.2.all fun s => decide (s ∈ kn)) with
        | false => rfl
        | true => rw [← h2]; simp only [List.all_map]; exact q ▸ rfl
       have e : closT kn r = kn := by simp only [closT, h3, Bool.and_false, Bool.false_eq_true, if_false]
       exact ⟨.cons (by rw [e]; rfl) (.cons rfl .nil), rfl⟩
    ·rw [anySy] at h1
     refine ite_f rfl ?_
     walk_at "m"
     have e : closT kn r = kn := by simp only [closT, h1, Bool.false_and, Bool.false_eq_true, if_false]
     exact ⟨.cons (by rw [e]; rfl) (.cons rfl .nil), rfl⟩
   ·simp [closN]
  ·walk_at "m"
   exact p
end
section
inductive EA03 (H1 H2 H3 : Prop) : Prop
 | mk (h1 : H1) (h2 : H2) (h3 : H3)
inductive EA13 {α : Type} (H1 H2 H3 : α → Prop) : Prop
 | mk (a : α) (h1 : H1 a) (h2 : H2 a) (h3 : H3 a)
inductive EA14 {α : Type} (H1 H2 H3 H4 : α → Prop) : Prop
 | mk (a : α) (h1 : H1 a) (h2 : H2 a) (h3 : H3 a) (h4 : H4 a)
inductive EA15 {α : Type} (H1 H2 H3 H4 H5 : α → Prop) : Prop
 | mk (a : α) (h1 : H1 a) (h2 : H2 a) (h3 : H3 a) (h4 : H4 a) (h5 : H5 a)
inductive EA24 {α β : Type} (H1 H2 H3 H4 : α → β → Prop) : Prop
 | mk (a : α) (b : β) (h1 : H1 a b) (h2 : H2 a b) (h3 : H3 a b) (h4 : H4 a b)
inductive EA25 {α β : Type} (H1 H2 H3 H4 H5 : α → β → Prop) : Prop
 | mk (a : α) (b : β) (h1 : H1 a b) (h2 : H2 a b) (h3 : H3 a b) (h4 : H4 a b) (h5 : H5 a b)
inductive EA26 {α β : Type} (H1 H2 H3 H4 H5 H6 : α → β → Prop) : Prop
 | mk (a : α) (b : β) (h1 : H1 a b) (h2 : H2 a b) (h3 : H3 a b) (h4 : H4 a b) (h5 : H5 a b) (h6 : H6 a b)
inductive EA27 {α β : Type} (H1 H2 H3 H4 H5 H6 H7 : α → β → Prop) : Prop
 | mk (a : α) (b : β) (h1 : H1 a b) (h2 : H2 a b) (h3 : H3 a b) (h4 : H4 a b) (h5 : H5 a b) (h6 : H6 a b) (h7 : H7 a b)
inductive EA34 {α β γ : Type} (H1 H2 H3 H4 : α → β → γ → Prop) : Prop
 | mk (a : α) (b : β) (c : γ) (h1 : H1 a b c) (h2 : H2 a b c) (h3 : H3 a b c) (h4 : H4 a b c)
theorem pinA {α : Type} {x : α} {p l r : List α} : (p ++ ((l ++ [x]) ++ r)).Perm (x :: (p ++ (l ++ r))) := by
 have h := List.perm_middle (a := x) (l₁ := p ++ l) (l₂ := r)
 simpa using h
theorem pinB {α : Type} {x : α} {p l₁ l r : List α} : (p ++ (l₁ ++ ((l ++ [x]) ++ r))).Perm (x :: (p ++ (l₁ ++ (l ++ r)))) := by
 have h := List.perm_middle (a := x) (l₁ := p ++ (l₁ ++ l)) (l₂ := r)
 simpa using h
end
section
variable {X : Cx} {A : Around} {env : Env} {σ : Sg} {P : D → Sg → Prop} {Q : Fl → Sg → Prop} {α β : Type}
section
variable {target iter iter2 : Expr} {ifs : List Expr} {scope : Scope} {pos : Pos} {y : Str} {p2 p3 : Pos}
noncomputable abbrev QI2 (X : Cx) (A : Around) (cenv : Env) (iter2 t2 : Expr) (acc : Addr) (out : List D) (ω : Om) (c : Bool) (m : List D) : Bool → Sg → Prop := fun b σ₂ =>
 b = c ∧ σ₂.ω = (acc, .lst out) :: ω ∧ (c = true → Src X A cenv σ₂ iter2 t2 (fun _ => some m) (fun σ₃ => σ₃.ω = (acc, .lst out) :: ω))
theorem preL2 (l : List α) (f : α → D) (c : α → Bool) (m : α → List D) (hl : ((l.filter c).flatMap m).length ≤ sizeLine)
  (hs2 : ∀ e x, foldedSetIterable iter2 e x = pure x) (hloc : ∀ cl Ca, isLoc (compEnvC scope cl Ca env) y = true)
  (hval : ∀ cl Ca, isVar ((compEnvC scope cl Ca env).kindOf y) = true) (hy1 : (y == ("__debug__" : Str)) = false) (hy2 : (y == ("__classdict__" : Str)) = false)
  (hsrc : Src X A env σ iter target (fun _ => some (l.map f)) (fun σ₁ => σ₁.ρ = σ.ρ ∧ σ₁.ω = σ.ω))
  (step : ∀ cl Ca acc pre x post, l = pre ++ x :: post → Asg X A (compEnvC scope cl Ca env) ⟨pick (freesOf scope) σ.ρ, (acc, .lst ((pre.filter c).flatMap m)) :: σ.ω⟩ target (f x) (fun σ₁ =>
   TsB X A (compEnvC scope cl Ca env) σ₁ ifs (QI2 X A (compEnvC scope cl Ca env) iter2 (.Name y p2) acc ((pre.filter c).flatMap m) σ.ω (c x) (m x))))
  (fin : ∀ acc, P (.raw (.ref acc)) ⟨σ.ρ, (acc, .lst ((l.filter c).flatMap m)) :: σ.ω⟩) :
  CompPreG .lst [] X A env σ (emI (.ListComp (.Name y p3) [⟨target, iter, ifs, 0⟩, ⟨.Name y p2, iter2, [], 0⟩] scope pos) 1 iter2) target iter ifs scope P (fun _ => some (l.map f)) l.length (fun i out ω => i ≤ l.length ∧ (out = ((l.take i).filter c).flatMap m ∧ ω = σ.ω)) := by
 refine preG l f (fun pre out ω => out = (pre.filter c).flatMap m ∧ ω = σ.ω) ?_ ?_ ?_
 ·exact fun s b S => wpAny_mono (hsrc s b S) (fun x s₁ h₁ => wpAny_mono h₁ (by
   rintro it s₂ ⟨σ₁, b₁, own, J, g1, g2, g3, g4, g5, g6, g7⟩
   exact ⟨σ₁, b₁, own, J, g1, g2, g3, g4, g5, g6, g7.1, rfl, g7.2⟩) fun _ _ x => x) fun _ _ x => x
 ·rintro cl Ca acc pre x post out ω e ⟨rfl, rfl⟩
  refine Asg.mono (step cl Ca acc pre x post e) fun σ₁ h => TrB.mono h ?_
  rintro b σ₂ ⟨rfl, h2, h3⟩
  cases hc : c x with
  | false =>
   rw [QIt, if_neg (by simp)]
   exact ⟨_, h2, by simp [hc], rfl⟩
  | true =>
   rw [QIt, if_pos rfl]
   have hlen : ∀ i, ((pre.filter c).flatMap m ++ (m x).take i).length ≤ sizeLine := fun i => by
    refine Nat.le_trans ?_ hl
    rw [e, List.filter_append, List.flatMap_append, List.filter_cons, if_pos hc, List.flatMap_cons]
    simp only [List.length_append, List.length_take]
    lia
   refine tru_i loop_1 start_1 (fun i σ' => i ≤ (m x).length ∧ σ'.ω = (acc, .lst ((pre.filter c).flatMap m ++ (m x).take i)) :: σ.ω) (fun _ => some (m x)) (m x).length ?_ ?_ ?_ ?_ (hs2 _)
   ·exact fun s b S => wpAny_mono (h3 hc s b S) (fun x s₁ h₁ => wpAny_mono h₁ (by
     rintro it s₂ ⟨σ₁, b₁, own, J, g1, g2, g3, g4, g5, g6, g7⟩
     exact ⟨σ₁, b₁, own, J, g1, g2, g3, g4, g5, g6, Nat.zero_le _, by rw [List.take_zero, List.append_nil]; exact g7⟩) fun _ _ x => x) fun _ _ x => x
   ·exact fun i σ' _ => ⟨_, rfl, Nat.le_refl _⟩
   ·rintro i σ' ds d ⟨hi, hω⟩ e2 hd
    obtain rfl := Option.some.inj e2
    have hlt := (List.getElem?_eq_some_iff.mp hd).1
    refine asg_name (hloc _ _) (ts_nil ?_)
    rw [if_pos rfl]
    refine tru_l (ev_var (List.lookup_cons_self) (hval _ _) ⟨_, _, hω, hlen i, hlt, ?_⟩ hy1 hy2)
    rw [List.append_assoc, ← take_at hd]
   ·rintro i σ' ds ⟨hi, hω⟩ e2 hd
    obtain rfl := Option.some.inj e2
    have : i = (m x).length := Nat.le_antisymm hi (by simpa using hd)
    subst this
    rw [List.take_length] at hω
    exact ⟨_, _, hω, by simp [hc], rfl⟩
 ·rintro acc out ω ⟨rfl, rfl⟩
  exact fin acc
theorem ev_lc2 (l : List α) (f : α → D) (c : α → Bool) (m : α → List D) (hok : compOk scope env = true) (hl : ((l.filter c).flatMap m).length ≤ sizeLine) (hs : ∀ x, foldedSetIterable iter env x = pure x)
  (hs2 : ∀ e x, foldedSetIterable iter2 e x = pure x) (hloc : ∀ cl Ca, isLoc (compEnvC scope cl Ca env) y = true)
  (hval : ∀ cl Ca, isVar ((compEnvC scope cl Ca env).kindOf y) = true) (hy1 : (y == ("__debug__" : Str)) = false) (hy2 : (y == ("__classdict__" : Str)) = false)
  (hsrc : Src X A env σ iter target (fun _ => some (l.map f)) (fun σ₁ => σ₁.ρ = σ.ρ ∧ σ₁.ω = σ.ω))
  (step : ∀ cl Ca acc pre x post, l = pre ++ x :: post → Asg X A (compEnvC scope cl Ca env) ⟨pick (freesOf scope) σ.ρ, (acc, .lst ((pre.filter c).flatMap m)) :: σ.ω⟩ target (f x) (fun σ₁ =>
   TsB X A (compEnvC scope cl Ca env) σ₁ ifs (QI2 X A (compEnvC scope cl Ca env) iter2 (.Name y p2) acc ((pre.filter c).flatMap m) σ.ω (c x) (m x))))
  (p : P (.list ((l.filter c).flatMap m)) σ) : Ev X A env σ (.ListComp (.Name y p3) [⟨target, iter, ifs, 0⟩, ⟨.Name y p2, iter2, [], 0⟩] scope pos) P :=
 tr_freeze (ev_compG (e := .ListComp (.Name y p3) [⟨target, iter, ifs, 0⟩, ⟨.Name y p2, iter2, [], 0⟩] scope pos) hok loop_0 start_l new_l (preL2 l f c m hl hs2 hloc hval hy1 hy2 hsrc step fun acc => ⟨acc, _, _, rfl, rfl, p⟩) hs rfl rfl)
theorem ex_lc2 {x : Str} {pos' spos : Pos} (l : List α) (f : α → D) (c : α → Bool) (m : α → List D) (hok : compOk scope env = true) (hl : ((l.filter c).flatMap m).length ≤ sizeLine) (hs : ∀ x, foldedSetIterable iter env x = pure x)
  (hs2 : ∀ e x, foldedSetIterable iter2 e x = pure x) (hloc : ∀ cl Ca, isLoc (compEnvC scope cl Ca env) y = true)
  (hval : ∀ cl Ca, isVar ((compEnvC scope cl Ca env).kindOf y) = true) (hy1 : (y == ("__debug__" : Str)) = false) (hy2 : (y == ("__classdict__" : Str)) = false) (hk : isLoc env x = true)
  (hsw : swapsWith (.ListComp (.Name y p3) [⟨target, iter, ifs, 0⟩, ⟨.Name y p2, iter2, [], 0⟩] scope pos) (some (.Name x pos')) spos.line env = pure true)
  (hsrc : Src X A env σ iter target (fun _ => some (l.map f)) (fun σ₁ => σ₁.ρ = σ.ρ ∧ σ₁.ω = σ.ω))
  (step : ∀ cl Ca acc pre x post, l = pre ++ x :: post → Asg X A (compEnvC scope cl Ca env) ⟨pick (freesOf scope) σ.ρ, (acc, .lst ((pre.filter c).flatMap m)) :: σ.ω⟩ target (f x) (fun σ₁ =>
   TsB X A (compEnvC scope cl Ca env) σ₁ ifs (QI2 X A (compEnvC scope cl Ca env) iter2 (.Name y p2) acc ((pre.filter c).flatMap m) σ.ω (c x) (m x))))
  (p : Q .next ⟨(x, .list ((l.filter c).flatMap m)) :: σ.ρ, σ.ω⟩) : Ex X A env σ (.Assign [.Name x pos'] (.ListComp (.Name y p3) [⟨target, iter, ifs, 0⟩, ⟨.Name y p2, iter2, [], 0⟩] scope pos) spos) Q :=
 trF_fz (y := x) (ex_assign_compG (e := .ListComp (.Name y p3) [⟨target, iter, ifs, 0⟩, ⟨.Name y p2, iter2, [], 0⟩] scope pos) hok loop_0 start_l new_l (preL2 l f c m hl hs2 hloc hval hy1 hy2 hsrc step fun acc => ⟨_, _, rfl, rfl, ⟨acc, _, _, rfl, rfl, p⟩⟩) hs hk (exec_Assign_Name_used _ _ _ _ hsw) rfl)
end
end
section
variable {X : Cx} {A : Around} {env : Env} {σ : Sg} {P : D → Sg → Prop} {Q : Fl → Sg → Prop}
inductive PoK (X : Cx) (env : Env) (σ : Sg) (s : Shared) (b : Heap) (PL : List (Str × D) → Sg → Prop) (vs : List (Value × Value)) (s' : Shared) : Prop
 | mk (kds : List (Str × D)) (kvs : List (Str × Value)) (σ' : Sg) (b' : Heap) (E : Evo X env σ σ' s b s' b') (S : St X env σ' b' s') (c : Carries X.kd vs kvs) (r : RpKv X b' kvs kds) (p : PL kds σ')
noncomputable def TrK (X : Cx) (A : Around) (env : Env) (σ : Sg) (ps : List (Sem Value × Sem Value)) (PL : List (Str × D) → Sg → Prop) : Prop := ∀ s b, St X env σ b s → wpAny X.M A (evalPairs ps) (PoK X env σ s b PL) Never s
theorem tk_nil {PL : List (Str × D) → Sg → Prop} (p : PL [] σ) : TrK X A env σ [] PL := fun s b S => evalPairs_nil ⟨[], [], σ, b, Evo.refl .., S, trivial, .nil, p⟩
inductive QKey (X : Cx) (A : Around) (env : Env) (v : Sem Value) (rest : List (Sem Value × Sem Value)) (PL : List (Str × D) → Sg → Prop) (kd : D) (σ₁ : Sg) : Prop
 | mk (k : Str) (e : kd = .str k) (h : Tr X A env σ₁ v (fun d σ₂ => TrK X A env σ₂ rest (fun kds σ₃ => PL ((k, d) :: kds) σ₃)))
theorem tk_cons {PL : List (Str × D) → Sg → Prop} {k v : Sem Value} {rest : List (Sem Value × Sem Value)} (h : Tr X A env σ k (QKey X A env v rest PL)) : TrK X A env σ ((k, v) :: rest) PL := fun s b S => by
 refine evalPairs_cons (wpAny_mono (h s b S) ?_ fun _ _ x => x)
 rintro kv s₁ ⟨kd, σ₁, b₁, E₁, S₁, r₁, x, rfl, h₁⟩
 refine wpAny_mono (h₁ s₁ b₁ S₁) ?_ fun _ _ x => x
 rintro vv s₂ ⟨d, σ₂, b₂, E₂, S₂, r₂, h₂⟩
 refine wpAny_mono (h₂ s₂ b₂ S₂) ?_ fun _ _ x => x
 rintro vs s₃ ⟨kds, kvs, σ₃, b₃, E₃, S₃, c, r, p⟩
 obtain ⟨_, rfl⟩ := r₁.i_str
 exact ⟨(x, d) :: kds, (x, vv) :: kvs, σ₃, b₃, (E₁.trans E₂).trans E₃, S₃, ⟨kdIs x _, rfl, c⟩, .cons (r₂.mono E₃.ext.le) r, p⟩
noncomputable def dpairs (env : Env) (pos : Pos) : List (Option Expr) → List Expr → List (Sem Value × Sem Value)
 | some k :: ks, v :: vs => (eval k env, do let x ← eval v env; standAt pos; pure x) :: dpairs env pos ks vs
 | _, _ => []
theorem dshape {pos : Pos} : ∀ (ks : List (Option Expr)) (vs : List Expr), (ks.all fun k => k.isSome) = true →
  (evalEachOpt ks env).zip ((evalEach vs env).map fun v => do let x ← v; standAt pos; pure x) = (dpairs env pos ks vs).map fun p => (some p.1, p.2)
 | [], _, _ => rfl
 | none :: _, _, h => by simp at h
 | some k :: ks, [], _ => by simp [dpairs, evalEach]
 | some k :: ks, v :: vs, h => by
  simp only [List.all_cons, Option.isSome_some, Bool.true_and] at h
  have ih := dshape (pos := pos) ks vs h
  simp only [evalEachOpt, evalEach, List.map_cons, List.zip_cons_cons, dpairs] at ih ⊢
  rw [ih]; rfl
inductive QKeyE (X : Cx) (A : Around) (env : Env) (pos : Pos) (v : Expr) (ks : List (Option Expr)) (vs : List Expr) (PL : List (Str × D) → Sg → Prop) (kd : D) (σ₁ : Sg) : Prop
 | mk (k : Str) (e : kd = .str k) (h : Ev X A env σ₁ v (fun d σ₂ => TrK X A env σ₂ (dpairs env pos ks vs) (fun kds σ₃ => PL ((k, d) :: kds) σ₃)))
theorem tk_e {PL : List (Str × D) → Sg → Prop} {k v : Expr} {ks : List (Option Expr)} {vs : List Expr} {pos : Pos} (h : Ev X A env σ k (QKeyE X A env pos v ks vs PL)) : TrK X A env σ (dpairs env pos (some k :: ks) (v :: vs)) PL :=
 tk_cons (Tr.mono h fun kd σ₁ ⟨k, e, h⟩ => ⟨k, e, fun s b S => wpAny_bind (wpAny_mono (h s b S) (fun v s' q => wpAny_bind (wpAny_standAt (wpAny_pure q))) fun _ _ x => x)⟩)
theorem stored_new {acc : List (Str × Value)} {k : Str} {v : Value} (h : k ∉ acc.map (·.1)) : stored acc k v = acc ++ [(k, v)] := by
 unfold stored
 rw [if_neg]
 intro z
 obtain ⟨p, hp, e⟩ := List.any_eq_true.mp z
 exact h (by simp at e; rw [← e]; exact List.mem_map_of_mem hp)
theorem merged_new : ∀ {kvs acc : List (Str × Value)}, ((acc ++ kvs).map (·.1)).Nodup → merged acc kvs = acc ++ kvs
 | [], acc, _ => by simp [merged]
 | (k, v) :: r, acc, h => by
  have h1 : k ∉ acc.map (·.1) := by
   rw [List.map_append, List.nodup_append] at h
   exact fun z => h.2.2 k z k (by simp) rfl
  have h2 := merged_new (kvs := r) (acc := acc ++ [(k, v)]) (by rw [List.append_assoc]; exact h)
  simp only [merged, List.foldl_cons] at h2 ⊢
  rw [stored_new h1, h2, List.append_assoc]; rfl
inductive QDk (P : D → Sg → Prop) (a : Addr) (kds : List (Str × D)) (σ' : Sg) : Prop
 | mk (ω' : Om) (n : nodupS (kds.map (·.1)) = true) (e : σ'.ω = (a, .dct []) :: ω') (p : P (.raw (.ref a)) ⟨σ'.ρ, (a, .dct kds) :: ω'⟩)
theorem ev_dictK {k v : Expr} {ks : List (Option Expr)} {vs : List Expr} {pos : Pos} (hk : (ks.all fun k => k.isSome) = true) (hlen : ks.length ≤ 10)
  (h : ∀ a, TrK X A env ⟨σ.ρ, (a, .dct []) :: σ.ω⟩ (dpairs env pos (some k :: ks) (v :: vs)) (QDk P a)) : Ev X A env σ (.Dict (some k :: ks) (v :: vs) pos) P := fun s b S => by
 have hl : ∀ (ks : List (Option Expr)) (vs : List Expr), (dpairs env pos ks vs).length ≤ ks.length := fun ks => by
  induction ks with
  | nil => intro vs; simp [dpairs]
  | cons k ks ih =>
   intro vs
   cases k with
   | none => simp [dpairs]
   | some k => cases vs with
    | nil => simp [dpairs]
    | cons v vs => have := ih vs; simp only [dpairs, List.length_cons]; lia
 refine wpAny_Dict_pairs (knd := X.kd) (dshape _ _ (by simpa using hk)) (by simp [dpairs]) (by have := hl (some k :: ks) (v :: vs); simp only [List.length_cons] at this; exact le_c (Nat.le_trans this (Nat.add_le_add_right hlen _)) rfl) ?_
 obtain ⟨S₁, E₁⟩ := S.allocC emptyDict (.dct []) (cell_new S)
 refine wpAny_mono (h _ _ b S₁) ?_ fun _ _ x => x
 rintro vs s₂ ⟨kds, kvs, ⟨ρ₂, ω₂⟩, b₂, E₂, S₂, c, r, ω', hn, e, p⟩
 dsimp only at e p; subst e
 refine hide ?_; intro g; obtain ⟨n, kvs0, ep0, g0, r0⟩ := S₂.hp.cell _ (.head _); dsimp only [g]
 obtain rfl := r0.i_nil
 refine ⟨kvs, c, g0.dictOf, fun h' hm hs => ?_⟩
 have hk : merged [] kvs = kvs := merged_new (by rw [List.nil_append, r.keys]; exact nodup_of hn)
 rw [hk] at hm
 obtain ⟨ep', hm'⟩ := Heap.DictOf.dictAt hm
 obtain ⟨S₃, E₃⟩ := S₂.setCell (c' := .dct kds) .head hs ⟨n, kvs, ep', hm', r⟩ (s₂.toks + vs.length)
 exact ⟨_, _, b₂, (E₁.trans E₂).trans E₃, S₃, .raw _, p⟩
end
section
open Classical in
noncomputable def seqC (X : Cx) (d : D) (l : List D) (σ : Sg) : Option (List D) := if Lst X σ d l then some l else none
section
variable {X : Cx} {A : Around} {env : Env} {σ : Sg} {P : D → Sg → Prop} {Q : Fl → Sg → Prop}
theorem seqC_of {d : D} {l : List D} (h : Lst X σ d l) : seqC X d l σ = some l := by unfold seqC; rw [if_pos h]
theorem of_seqC {d : D} {l ds : List D} (h : seqC X d l σ = some ds) : Lst X σ d l ∧ ds = l := by
 unfold seqC at h
 split at h
 ·rename_i q; obtain rfl := Option.some.inj h; exact ⟨q, rfl⟩
 ·exact nso h
theorem itb_lst {target : Expr} {d : D} {l : List D} (hh : A.handled = none) (h : Lst X σ d l) : Itb X A env σ target d (seqC X d l) := fun s b v S r => by
 obtain ⟨a, vs, n, rfl, g, ra⟩ := h.at S r
 refine wpAny_pyIter_list (isList_of g) ⟨[s.heap.objs.size], fun i h => h.IsListIter s.heap.objs.size a i, _, s.toks, rfl, le_push _ _, fun x hx => by rw [List.mem_singleton.mp hx]; exact fresh_none _, ?_, ⟨_, Heap.get?_push_size _ rfl, rfl, rfl⟩⟩
 exact itr_list hh fun env σ s' b' ds' S' hb e => by
  obtain ⟨hl, rfl⟩ := of_seqC e
  refine hide ?_; intro g; obtain ⟨a', vs', n', e', g', ra'⟩ := hl.at S' (r.mono hb); dsimp only [g]
  cases e'
  exact ⟨vs', isList_of g', ra'⟩
theorem ex_forC {α : Type} {target iter : Expr} {body orelse : List Stmt} {pos : Pos} (d : D) (l : List α) (f : α → D) (Inv : List α → Sg → Prop) (hh : A.handled = none)
  (hiter : Ev X A env σ iter (fun d' σ₁ => d' = d ∧ Inv [] σ₁))
  (hseq : ∀ pre σ, Inv pre σ → Lst X σ d (l.map f))
  (step : ∀ pre x post σ, l = pre ++ x :: post → Inv pre σ → Asg X A env σ target (f x) (fun σ' => Exs X A env σ' body (TurnP Q (Inv (pre ++ [x])))))
  (stop : ∀ σ, Inv l σ → Exs X A env σ orelse Q)
  (hs : ∀ x, foldedSetIterable iter env x = pure x) : Ex X A env σ (.For target iter body orelse pos) Q :=
 ex_forS l f (seqC X d (l.map f)) Inv (src_of (Tr.mono hiter fun d' σ₁ ⟨e, i⟩ => by subst e; exact ⟨itb_lst hh (hseq _ _ i), i⟩)) (fun pre σ i => seqC_of (hseq pre σ i)) step stop hs
end
theorem Lst.to {X X' : Cx} {σ σ' : Sg} {d : D} {l : List D} (h : Lst X σ d l) (hω : ∀ p ∈ σ.ω, p ∈ σ'.ω) : Lst X' σ' d l := by
 rcases h with h | ⟨a, h, h'⟩
 ·exact .inl h
 ·exact .inr ⟨a, h, hω _ h'⟩
theorem Dct.to {X X' : Cx} {σ σ' : Sg} {d : D} {l : List (Str × D)} (h : Dct X σ d l) (hω : ∀ p ∈ σ.ω, p ∈ σ'.ω) : Dct X' σ' d l := by
 rcases h with h | ⟨a, h, h'⟩
 ·exact .inl h
 ·exact .inr ⟨a, h, hω _ h'⟩
noncomputable def epsS : Str := "<empty>"
noncomputable def addF (a : List Str) (f : Str) : List Str := if (f == epsS) = true then a else if (a.any fun y => y == f) = true then a else a ++ [f]
noncomputable def firstG (lk : Str → List Str) : List Str → List Str → List Str
 | a, [] => a ++ [epsS]
 | a, x :: r => if ((lk x).any fun y => y == epsS) = true then firstG lk ((lk x).foldl addF a) r else (lk x).foldl addF a
noncomputable def firstF (lk : Str → List Str) (ss : List Str) : List Str := firstG lk [] ss
theorem any_eq {l : List Str} {x : Str} : (l.any fun y => y == x) = true ↔ x ∈ l := by
 rw [List.any_eq_true]
 constructor
 ·rintro ⟨y, hy, e⟩; rw [← beq_iff_eq.mp e]; exact hy
 ·intro h; exact ⟨x, h, by simp⟩
theorem mem_addF {a : List Str} {f x : Str} : x ∈ addF a f ↔ x ∈ a ∨ (x = f ∧ f ≠ epsS) := by
 unfold addF
 split
 ·rename_i h
  have := beq_iff_eq.mp h
  constructor
  ·exact .inl
  ·rintro (h | ⟨_, h⟩)
   ·exact h
   ·exact absurd this h
 ·rename_i h
  have h : f ≠ epsS := by simpa using h
  split
  ·rename_i h'
   have := any_eq.mp h'
   constructor
   ·exact .inl
   ·rintro (h | ⟨rfl, _⟩)
    ·exact h
    ·exact this
  ·simp [h]
theorem mem_foldF {x : Str} {l : List Str} : ∀ {a : List Str}, x ∈ l.foldl addF a ↔ x ∈ a ∨ (x ∈ l ∧ x ≠ epsS) := by
 induction l with
 | nil => intro a; simp
 | cons f l ih =>
  intro a
  rw [List.foldl_cons, ih, mem_addF]
  constructor
  ·rintro ((h | ⟨rfl, h⟩) | ⟨h, h'⟩)
   ·exact .inl h
   ·exact .inr ⟨.head _, h⟩
   ·exact .inr ⟨.tail _ h, h'⟩
  ·rintro (h | ⟨h, h'⟩)
   ·exact .inl (.inl h)
   ·rcases List.mem_cons.mp h with rfl | h
    ·exact .inl (.inr ⟨rfl, h'⟩)
    ·exact .inr ⟨h, h'⟩
noncomputable def Opens (lk : Str → List Str) (x : Str) : List Str → Prop
 | [] => False
 | y :: r => x ∈ lk y ∨ (epsS ∈ lk y ∧ Opens lk x r)
theorem mem_firstG {lk : Str → List Str} {x : Str} {ss : List Str} : ∀ {a : List Str}, epsS ∉ a → (x ∈ firstG lk a ss ↔ x ∈ a ∨ (x ≠ epsS ∧ Opens lk x ss) ∨ (x = epsS ∧ ∀ y ∈ ss, epsS ∈ lk y)) := by
 induction ss with
 | nil => intro a _; simp [firstG, Opens]
 | cons y r ih =>
  intro a ha
  unfold firstG
  split
  ·rename_i h
   have h := any_eq.mp h
   rw [ih (by rw [mem_foldF]; simp [ha]), mem_foldF]
   simp only [Opens, List.mem_cons, forall_eq_or_imp, h, true_and]
   constructor
   ·rintro ((h | ⟨h, h'⟩) | ⟨h, h'⟩ | ⟨h, h'⟩)
    ·exact .inl h
    ·exact .inr (.inl ⟨h', .inl h⟩)
    ·exact .inr (.inl ⟨h, .inr h'⟩)
    ·exact .inr (.inr ⟨h, h'⟩)
   ·rintro (h | ⟨h, h' | h'⟩ | ⟨h, h'⟩)
    ·exact .inl (.inl h)
    ·exact .inl (.inr ⟨h', h⟩)
    ·exact .inr (.inl ⟨h, h'⟩)
    ·exact .inr (.inr ⟨h, h'⟩)
  ·rename_i h
   have h : epsS ∉ lk y := fun z => h (any_eq.mpr z)
   rw [mem_foldF]
   simp only [Opens, List.mem_cons, forall_eq_or_imp, h, false_and, or_false, and_false]
   constructor
   ·rintro (h | ⟨h, h'⟩)
    ·exact .inl h
    ·exact .inr ⟨h', h⟩
   ·rintro (h | ⟨h, h'⟩)
    ·exact .inl h
    ·exact .inr ⟨h', h⟩
theorem mem_firstF {lk : Str → List Str} {x : Str} {ss : List Str} : x ∈ firstF lk ss ↔ (x ≠ epsS ∧ Opens lk x ss) ∨ (x = epsS ∧ ∀ y ∈ ss, epsS ∈ lk y) := by
 unfold firstF
 rw [mem_firstG (by simp)]
 simp
theorem addF_len (a : List Str) (f : Str) : (addF a f).length ≤ a.length + 1 := by
 unfold addF; split
 ·lia
 ·split <;> simp
theorem foldF_len (l : List Str) : ∀ (a : List Str), (l.foldl addF a).length ≤ a.length + l.length := by
 induction l with
 | nil => intro a; simp
 | cons f l ih =>
  intro a
  have h1 := ih (addF a f)
  have h2 := addF_len a f
  simp only [List.foldl_cons, List.length_cons]; lia
noncomputable def gathF (lk : Str → List Str) (pre : List Str) : List Str := pre.foldl (fun a x => (lk x).foldl addF a) []
theorem gathF_snoc (lk : Str → List Str) (pre : List Str) (x : Str) : gathF lk (pre ++ [x]) = (lk x).foldl addF (gathF lk pre) := by simp [gathF]
theorem gathF_len {lk : Str → List Str} {m : Nat} : ∀ {pre : List Str}, (∀ x ∈ pre, (lk x).length ≤ m) → (gathF lk pre).length ≤ m * pre.length := by
 intro pre
 have gen : ∀ (pre a : List Str), (∀ x ∈ pre, (lk x).length ≤ m) → (pre.foldl (fun a x => (lk x).foldl addF a) a).length ≤ a.length + m * pre.length := by
  intro pre
  induction pre with
  | nil => intro a _; simp
  | cons x r ih =>
   intro a h
   have h1 := ih ((lk x).foldl addF a) fun y hy => h y (.tail _ hy)
   have h2 := foldF_len (lk x) a
   have h3 := h x (.head _)
   simp only [List.foldl_cons, List.length_cons, Nat.mul_succ]; lia
 intro h
 have := gen pre [] h
 simpa [gathF] using this
theorem gathF_mem {lk : Str → List Str} {s : Str} : ∀ {pre : List Str}, s ∈ gathF lk pre → ∃ x ∈ pre, s ∈ lk x := by
 intro pre
 have gen : ∀ (pre a : List Str), s ∈ pre.foldl (fun a x => (lk x).foldl addF a) a → s ∈ a ∨ ∃ x ∈ pre, s ∈ lk x := by
  intro pre
  induction pre with
  | nil => intro a h; exact .inl h
  | cons x r ih =>
   intro a h
   rcases ih _ h with h | ⟨y, hy, h⟩
   ·rcases mem_foldF.mp h with h | ⟨h, _⟩
    ·exact .inl h
    ·exact .inr ⟨x, .head _, h⟩
   ·exact .inr ⟨y, .tail _ hy, h⟩
 intro h
 rcases gen pre [] h with h | h
 ·cases h
 ·exact h
theorem firstG_pre {lk : Str → List Str} {a : List Str} : ∀ {pre post : List Str}, (∀ y ∈ pre, ((lk y).any fun z => z == epsS) = true) → firstG lk a (pre ++ post) = firstG lk (pre.foldl (fun a x => (lk x).foldl addF a) a) post
 | [], post, _ => rfl
 | y :: r, post, h => by
  show firstG lk a (y :: (r ++ post)) = _
  rw [firstG, if_pos (h y (.head _)), firstG_pre fun z hz => h z (.tail _ hz)]; rfl
end
section
noncomputable abbrev FE := Str × Addr × List Str
noncomputable def dF (e : FE) : Str × D := (e.1, .raw (.ref e.2.1))
noncomputable def cF (e : FE) : Addr × C := (e.2.1, .lst (e.2.2.map .str))
noncomputable def appF (k s : Str) : List FE → List FE
 | [] => []
 | e :: r => if (k == e.1) = true then (e.1, e.2.1, e.2.2 ++ [s]) :: r else e :: appF k s r
noncomputable def lkF : List FE → Str → List Str
 | [], x => [x]
 | e :: r, x => if (x == e.1) = true then e.2.2 else lkF r x
noncomputable def totF (L : List FE) : Nat := (L.map fun e => e.2.2.length).sum
theorem appF_keys (k s : Str) (L : List FE) : (appF k s L).map (·.1) = L.map (·.1) := by
 induction L with
 | nil => exact rfl
 | cons e r ih =>
  unfold appF; split
  ·rfl
  ·simp [ih]
theorem appF_dF (k s : Str) (L : List FE) : (appF k s L).map dF = L.map dF := by
 induction L with
 | nil => exact rfl
 | cons e r ih =>
  unfold appF; split
  ·rfl
  ·simp [ih]
theorem appF_tot {k s : Str} : ∀ {L : List FE}, k ∈ L.map (·.1) → totF (appF k s L) = totF L + 1
 | [], h => by cases h
 | e :: r, h => by
  unfold appF; split
  ·simp [totF]; lia
  ·rename_i hk
   have hk : ¬ k = e.1 := by simpa using hk
   simp only [List.map_cons, List.mem_cons, hk, false_or] at h
   have := appF_tot (s := s) h
   simp only [totF, List.map_cons, List.sum_cons] at this ⊢
   lia
theorem lkF_app {k s x : Str} {L : List FE} : k ∈ L.map (·.1) → lkF (appF k s L) x = if (x == k) = true then lkF L x ++ [s] else lkF L x := by
 induction L with
 | nil => intro h; cases h
 | cons e r ih =>
  intro h
  unfold appF; split
  ·rename_i hk
   have hk := beq_iff_eq.mp hk
   simp only [lkF, ← hk]
   split <;> rfl
  ·rename_i hk
   have hk : ¬ k = e.1 := by simpa using hk
   simp only [List.map_cons, List.mem_cons, hk, false_or] at h
   simp only [lkF]
   by_cases hx : x = e.1
   ·have h1 : (x == e.1) = true := by simpa using hx
    have h2 : (x == k) = false := by simpa using fun z : x = k => hk (z ▸ hx)
    simp [h1, h2]
   ·have h1 : (x == e.1) = false := by simpa using hx
    rw [h1]
    simp only [Bool.false_eq_true, if_false]
    exact ih h
theorem lkF_none {x : Str} {L : List FE} : x ∉ L.map (·.1) → lkF L x = [x] := by
 induction L with
 | nil => intro _; exact rfl
 | cons e r ih =>
  intro h
  simp only [List.map_cons, List.mem_cons, not_or] at h
  have : (x == e.1) = false := by simpa using h.1
  simp only [lkF, this, Bool.false_eq_true, if_false]
  exact ih h.2
theorem appF_upd {k s : Str} (r : Om) : ∀ {L : List FE}, k ∈ L.map (·.1) → ∃ a, (L.map dF).lookup k = some (.raw (.ref a)) ∧ (k, a, lkF L k) ∈ L ∧ Upd a (.lst ((lkF L k).map .str)) (.lst ((lkF L k).map .str ++ [.str s])) (L.map cF ++ r) ((appF k s L).map cF ++ r)
 | [], h => by cases h
 | e :: t, h => by
  obtain ⟨n, a, l⟩ := e
  by_cases hk : k = n
  ·subst hk
   refine ⟨a, by simp [dF, List.lookup_cons], by simp [lkF], ?_⟩
   simp only [appF, lkF, beq_self_eq_true, if_true, List.map_cons, cF, List.cons_append, List.map_append, List.map_nil]
   exact .head
  ·have hk' : (k == n) = false := by simpa using hk
   simp only [List.map_cons, List.mem_cons, hk, false_or] at h
   refine hide ?_; intro g; obtain ⟨a', h1, h2, h3⟩ := appF_upd (s := s) r (L := t) h; dsimp only [g]
   refine ⟨a', by simp only [List.map_cons, dF, List.lookup_cons, hk']; exact h1, by simp only [lkF, hk', Bool.false_eq_true, if_false]; exact .tail _ h2, ?_⟩
   simp only [appF, lkF, hk', Bool.false_eq_true, if_false, List.map_cons, List.cons_append]
   exact .tail h3
theorem dF_none {k : Str} {L : List FE} : k ∉ L.map (·.1) → (L.map dF).lookup k = none := by
 induction L with
 | nil => intro _; exact rfl
 | cons e r ih =>
  intro h
  simp only [List.map_cons, List.mem_cons, not_or] at h
  simp only [List.map_cons, dF, List.lookup_cons]
  have : (k == e.1) = false := by simpa using h.1
  rw [this]; exact ih h.2
theorem lookup_app_none {k : Str} {d : List (Str × D)} {l : List (Str × D)} : k ∉ l.map (·.1) → (l ++ d).lookup k = d.lookup k := by
 induction l with
 | nil => intro _; exact rfl
 | cons e r ih =>
  intro h
  simp only [List.map_cons, List.mem_cons, not_or] at h
  obtain ⟨n, x⟩ := e
  simp only [List.cons_append, List.lookup_cons]
  have : (k == n) = false := by simpa using h.1
  rw [this]; exact ih h.2
theorem lookup_none_of {k : Str} {l : List (Str × D)} : k ∉ l.map (·.1) → l.lookup k = none := by
 induction l with
 | nil => intro _; exact rfl
 | cons e r ih =>
  intro h
  simp only [List.map_cons, List.mem_cons, not_or] at h
  obtain ⟨n, x⟩ := e
  simp only [List.lookup_cons]
  have : (k == n) = false := by simpa using h.1
  rw [this]; exact ih h.2
noncomputable def tD (t : Str) : Str × D := (t, .list [.str t])
theorem tD_lookup {k : Str} {d : List (Str × D)} {l : List Str} : k ∈ l → (l.map tD ++ d).lookup k = some (.list [.str k]) := by
 induction l with
 | nil => intro h; cases h
 | cons t r ih =>
  intro h
  simp only [List.map_cons, List.cons_append, tD, List.lookup_cons]
  by_cases hk : k = t
  ·subst hk; simp
  ·have : (k == t) = false := by simpa using hk
   rw [this]
   rcases List.mem_cons.mp h with h | h
   ·exact absurd h hk
   ·exact ih h
theorem tD_keys (l : List Str) : (l.map tD).map (·.1) = l := by simp [tD, Function.comp_def]
noncomputable def FD (ts : List Str) (FN : List FE) : List (Str × D) := (ts ++ [("$end" : Str)]).map tD ++ FN.map dF
noncomputable def selfF (pl pn pm te no fi fo us st : D) : List (Str × D) := [("Productions", pl), ("Prodnames", pn), ("Prodmap", pm), ("Terminals", te), ("Nonterminals", no), ("First", fi), ("Follow", fo), ("Precedence", .dct []), ("UsedPrecedence", us), ("Start", st)]
structure FGood (ns : List Str) (Snd : Str → Str → Prop) (FN : List FE) : Prop where
 keys : FN.map (·.1) = ns
 nd : ∀ e ∈ FN, e.2.2.Nodup
 sound : ∀ e ∈ FN, ∀ f ∈ e.2.2, Snd e.1 f
theorem lkF_mem {L : List FE} {k : Str} (h : k ∈ L.map (·.1)) : ∃ a, (k, a, lkF L k) ∈ L := by
 obtain ⟨a, _, h2, _⟩ := appF_upd (s := k) [] h
 exact ⟨a, h2⟩
variable {ns : List Str} {Snd : Str → Str → Prop} {FN : List FE}
theorem FGood.snd (G : FGood ns Snd FN) {n f : Str} (hn : n ∈ ns) (h : f ∈ lkF FN n) : Snd n f := by
 obtain ⟨a, ha⟩ := lkF_mem (L := FN) (k := n) (by rw [G.keys]; exact hn)
 exact G.sound _ ha f h
theorem FGood.nodup (G : FGood ns Snd FN) {n : Str} (hn : n ∈ ns) : (lkF FN n).Nodup := by
 obtain ⟨a, ha⟩ := lkF_mem (L := FN) (k := n) (by rw [G.keys]; exact hn)
 exact G.nd _ ha
theorem nodup_len : ∀ {l U : List Str}, l.Nodup → (∀ x ∈ l, x ∈ U) → l.length ≤ U.length
 | [], _, _, _ => Nat.zero_le _
 | x :: r, U, hn, hs => by
  have hn := List.nodup_cons.mp hn
  have hx := hs x (.head _)
  have h1 := nodup_len (l := r) (U := U.erase x) hn.2 (fun y hy => (List.mem_erase_of_ne (fun e : y = x => hn.1 (by rw [← e]; exact hy))).mpr (hs y (.tail _ hy)))
  have h2 := List.length_erase_of_mem hx
  have h3 := List.length_pos_of_mem hx
  simp only [List.length_cons]; lia
theorem FGood.len (G : FGood ns Snd FN) {U : List Str} (hU : ∀ n f, Snd n f → f ∈ U) {n : Str} (hn : n ∈ ns) : (lkF FN n).length ≤ U.length :=
 nodup_len (G.nodup hn) fun f hf => hU n f (G.snd hn hf)
theorem FGood.tot (G : FGood ns Snd FN) {U : List Str} (hU : ∀ n f, Snd n f → f ∈ U) : totF FN ≤ U.length * ns.length := by
 have h1 := G.nd
 have h2 := G.sound
 rw [← G.keys]
 clear G
 induction FN with
 | nil => simp [totF]
 | cons e r ih =>
  have h3 := ih (fun e he => h1 e (.tail _ he)) (fun e he => h2 e (.tail _ he))
  have h4 := nodup_len (h1 e (.head _)) fun f hf => hU _ f (h2 e (.head _) f hf)
  simp only [totF, List.map_cons, List.sum_cons, List.length_cons, List.length_map, Nat.mul_succ] at h3 ⊢
  lia
theorem FGood.app (G : FGood ns Snd FN) {n f : Str} (hn : n ∈ ns) (hf : f ∉ lkF FN n) (hs : Snd n f) : FGood ns Snd (appF n f FN) := by
 refine ⟨by rw [appF_keys]; exact G.keys, ?_, ?_⟩
 ·have h1 := G.nd
  have hk : n ∈ FN.map (·.1) := by rw [G.keys]; exact hn
  clear G hn hs
  induction FN with
  | nil => intro e he; cases he
  | cons e' r ih =>
   intro e he
   unfold appF at he
   simp only [lkF] at hf
   split at he
   ·rename_i hk'
    rw [if_pos hk'] at hf
    rcases List.mem_cons.mp he with rfl | he
    ·dsimp only
     rw [List.nodup_append]
     refine ⟨h1 e' (.head _), by simp, fun a ha b hb => ?_⟩
     have : b = f := by simpa using hb
     subst this; rintro rfl; exact hf ha
    ·exact h1 e (.tail _ he)
   ·rename_i hk'
    rw [if_neg hk'] at hf
    have hk'' : ¬ n = e'.1 := by simpa using hk'
    simp only [List.map_cons, List.mem_cons, hk'', false_or] at hk
    rcases List.mem_cons.mp he with rfl | he
    ·exact h1 e (.head _)
    ·exact ih hf (fun e he => h1 e (.tail _ he)) hk e he
 ·have h2 := G.sound
  clear G hn hf
  induction FN with
  | nil => intro e he; cases he
  | cons e' r ih =>
   intro e he
   unfold appF at he
   split at he
   ·rename_i hk'
    have hk' := beq_iff_eq.mp hk'
    rcases List.mem_cons.mp he with rfl | he
    ·intro g hg
     rcases List.mem_append.mp hg with hg | hg
     ·exact h2 e' (.head _) g hg
     ·rw [List.mem_singleton.mp hg]
      dsimp only
      rw [← hk']; exact hs
    ·exact h2 e (.tail _ he)
   ·rcases List.mem_cons.mp he with rfl | he
    ·exact h2 e (.head _)
    ·exact ih (fun e he => h2 e (.tail _ he)) e he
end
section
variable {X : Cx} {A : Around} {env : Env} {σ : Sg} {P : D → Sg → Prop} {Q : Fl → Sg → Prop} {α β : Type}
theorem trF_freezeDn {t : Sem Flow} {ρ ρ' : List (Str × D)} {a : Addr} {kds : List (Str × D)} {ω' : Om} (hρ : ∀ x d, ρ'.lookup x = some d → ρ.lookup x = some d ∨ (ρ.lookup x = some (.raw (.ref a)) ∧ d = .dct kds))
  (h : TrF X A env ⟨ρ', ω'⟩ t Q) : TrF X A env ⟨ρ, (a, .dct kds) :: ω'⟩ t Q := by
 refine trF_refreeze [a] (fun x hx => by rw [List.mem_singleton.mp hx]; simp) (fun hn => ?_) (fun x d e => ?_) h
 ·simp only [List.map_cons, List.nodup_cons] at hn
  exact ⟨fun p hp => ⟨fun z => hn.1 (by rw [← List.mem_singleton.mp z]; exact List.mem_map_of_mem hp), p.2, .tail _ hp, RetC.same _⟩, hn.2⟩
 ·rcases hρ x d e with h | ⟨h, rfl⟩
  ·exact ⟨d, h, .same d⟩
  ·exact ⟨_, h, .dct (.head _) (.head _) (.same _)⟩
inductive QFd (P : D → Sg → Prop) (d : D) (σ₁ : Sg) : Prop
 | mk (a : Addr) (kds : List (Str × D)) (ω' : Om) (e : d = .raw (.ref a)) (e2 : σ₁.ω = (a, .dct kds) :: ω') (p : P (.dct kds) ⟨σ₁.ρ, ω'⟩)
theorem fzD {ω' : Om} {a : Addr} {kds : List (Str × D)} (hn : (((a, C.dct kds) :: ω').map (·.1)).Nodup) : (∀ p ∈ ω', p.1 ∉ [a] ∧ ∃ c, (p.1, c) ∈ (a, C.dct kds) :: ω' ∧ RetC X ((a, C.dct kds) :: ω') [a] c p.2) ∧ (ω'.map (·.1)).Nodup := by
 simp only [List.map_cons, List.nodup_cons] at hn
 exact ⟨fun p hp => ⟨fun z => hn.1 (by rw [← List.mem_singleton.mp z]; exact List.mem_map_of_mem hp), p.2, .tail _ hp, RetC.same _⟩, hn.2⟩
theorem tr_fzD {t : Sem Value} (h : Tr X A env σ t (QFd P)) : Tr X A env σ t P :=
 tr_refreeze (Tr.mono h fun d σ₁ ⟨a, kds, ω', e, e2, p⟩ => ⟨[a], .dct kds, ω', fun x hx => by rw [e2, List.mem_singleton.mp hx]; simp, fun hn => by rw [e2] at hn ⊢; exact fzD hn, by rw [e, e2]; exact .dct (.head _) (.head _) (.same _), p⟩)
inductive QFzD (y : Str) (Q : Fl → Sg → Prop) (d : D) (σ₁ : Sg) : Prop
 | mk (a : Addr) (kds : List (Str × D)) (ω' : Om) (e : d = .raw (.ref a)) (e2 : σ₁.ω = (a, .dct kds) :: ω') (q : Q .next ⟨(y, .dct kds) :: σ₁.ρ, ω'⟩)
theorem trF_fzD {t : Sem Flow} {y : Str} (h : TrF X A env σ t (fun fl σ₁ => ∃ d ρ, fl = .next ∧ σ₁.ρ = (y, d) :: ρ ∧ QFzD y Q d ⟨ρ, σ₁.ω⟩)) : TrF X A env σ t Q := fun s b S => by
 refine wpAny_mono (h s b S) ?_ (fun _ _ x => x)
 rintro v s₁ ⟨fl, ⟨ρ₁, ω₁⟩, b₁, E₁, S₁, r₁, d, ρ, rfl, e1, ⟨a, kds, ω', rfl, e2, q⟩⟩
 dsimp only at e1 e2 q; subst e1; subst e2
 obtain ⟨hn1, hn2⟩ := fzD (X := X) S₁.hp.nod
 obtain ⟨b₂, l₂, S₂, E₂, r₂⟩ := S₁.refreeze (ρ' := (y, .dct kds) :: ρ) [a] (fun x hx => by rw [List.mem_singleton.mp hx]; simp) hn1 hn2 (fun x d e => by
  rw [List.lookup_cons] at e ⊢
  cases h : x == y with
  | true => rw [h] at e; obtain rfl := Option.some.inj e; exact ⟨_, rfl, .dct (.head _) (.head _) (.same _)⟩
  | false => rw [h] at e; exact ⟨d, e, .same d⟩)
 refine ⟨.next, _, b₂, E₁.trans E₂, S₂, ?_, q⟩
 cases v <;> first | exact r₁ | trivial
section
variable {kx vx target iter : Expr} {ifs : List Expr} {scope : Scope} {pos : Pos}
noncomputable abbrev QId (X : Cx) (A : Around) (cenv : Env) (kx vx : Expr) (acc : Addr) (out : List (Str × D)) (ω : Om) (k : Str) (r : D) : Bool → Sg → Prop := fun b σ₂ =>
 b = true ∧ Ev X A cenv σ₂ kx (fun kr σ₃ => kr = .str k ∧ Ev X A cenv σ₃ vx (fun d σ₄ => d = r ∧ σ₄.ω = (acc, .dct out) :: ω))
theorem preD (l : List α) (f : α → D) (g : α → Str × D) (hl : l.length ≤ sizeLine) (hn : (l.map fun x => (g x).1).Nodup)
  (hsrc : Src X A env σ iter target (fun _ => some (l.map f)) (fun σ₁ => σ₁.ρ = σ.ρ ∧ σ₁.ω = σ.ω))
  (step : ∀ cl Ca acc pre x post, l = pre ++ x :: post → Asg X A (compEnvC scope cl Ca env) ⟨pick (freesOf scope) σ.ρ, (acc, .dct (pre.map g)) :: σ.ω⟩ target (f x) (fun σ₁ =>
   TsB X A (compEnvC scope cl Ca env) σ₁ ifs (QId X A (compEnvC scope cl Ca env) kx vx acc (pre.map g) σ.ω (g x).1 (g x).2)))
  (fin : ∀ acc, P (.raw (.ref acc)) ⟨σ.ρ, (acc, .dct (l.map g)) :: σ.ω⟩) :
  CompPreG .dct [] X A env σ (emD kx vx) target iter ifs scope P (fun _ => some (l.map f)) l.length (fun i out ω => i ≤ l.length ∧ (out = (l.take i).map g ∧ ω = σ.ω)) := by
 refine preG l f (fun pre out ω => out = pre.map g ∧ ω = σ.ω) ?_ ?_ ?_
 ·exact fun s b S => wpAny_mono (hsrc s b S) (fun x s₁ h₁ => wpAny_mono h₁ (by
   rintro it s₂ ⟨σ₁, b₁, own, J, g1, g2, g3, g4, g5, g6, g7⟩
   exact ⟨σ₁, b₁, own, J, g1, g2, g3, g4, g5, g6, g7.1, rfl, g7.2⟩) fun _ _ x => x) fun _ _ x => x
 ·rintro cl Ca acc pre x post out ω e ⟨rfl, rfl⟩
  refine Asg.mono (step cl Ca acc pre x post e) fun σ₁ h => TrB.mono h ?_
  rintro b σ₂ ⟨rfl, h2⟩
  rw [QIt, if_pos rfl]
  refine tru_d (Tr.mono h2 ?_)
  rintro kr σ₃ ⟨rfl, h3⟩
  refine Tr.mono h3 ?_
  rintro d σ₄ ⟨rfl, h4⟩
  refine ⟨_, _, _, rfl, h4, ?_, ⟨_, _, rfl, ?_, rfl⟩⟩
  ·refine Nat.le_trans ?_ hl
   rw [List.length_map, e, List.length_append]
   exact Nat.le_add_right _ _
  ·rw [List.map_append, put_new (lookup_none_of ?_)]; rfl
   rw [e, List.map_append, List.nodup_append] at hn
   intro z
   rw [List.map_map] at z
   exact hn.2.2 _ z _ (.head _) rfl
 ·rintro acc out ω ⟨rfl, rfl⟩
  exact fin acc
theorem ev_dc (l : List α) (f : α → D) (g : α → Str × D) (hok : compOk scope env = true) (hl : l.length ≤ sizeLine) (hn : (l.map fun x => (g x).1).Nodup) (hs : ∀ x, foldedSetIterable iter env x = pure x)
  (hsrc : Src X A env σ iter target (fun _ => some (l.map f)) (fun σ₁ => σ₁.ρ = σ.ρ ∧ σ₁.ω = σ.ω))
  (step : ∀ cl Ca acc pre x post, l = pre ++ x :: post → Asg X A (compEnvC scope cl Ca env) ⟨pick (freesOf scope) σ.ρ, (acc, .dct (pre.map g)) :: σ.ω⟩ target (f x) (fun σ₁ =>
   TsB X A (compEnvC scope cl Ca env) σ₁ ifs (QId X A (compEnvC scope cl Ca env) kx vx acc (pre.map g) σ.ω (g x).1 (g x).2)))
  (p : P (.dct (l.map g)) σ) : Ev X A env σ (.DictComp kx vx [⟨target, iter, ifs, 0⟩] scope pos) P :=
 tr_fzD (ev_compG (e := .DictComp kx vx [⟨target, iter, ifs, 0⟩] scope pos) hok loop_d start_d new_d (preD l f g hl hn hsrc step fun acc => ⟨acc, _, _, rfl, rfl, p⟩) hs rfl rfl)
theorem ex_dcC {y : Str} {pos' spos : Pos} (l : List α) (f : α → D) (g : α → Str × D) (hok : compOk scope env = true) (hl : l.length ≤ sizeLine) (hn : (l.map fun x => (g x).1).Nodup) (hs : ∀ x, foldedSetIterable iter env x = pure x) (hk : isLoc env y = true)
  (hsw : swapsWith (.DictComp kx vx [⟨target, iter, ifs, 0⟩] scope pos) (some (.Name y pos')) spos.line env = pure true)
  (hsrc : Src X A env σ iter target (fun _ => some (l.map f)) (fun σ₁ => σ₁.ρ = σ.ρ ∧ σ₁.ω = σ.ω))
  (step : ∀ cl Ca acc pre x post, l = pre ++ x :: post → Asg X A (compEnvC scope cl Ca env) ⟨pick (freesOf scope) σ.ρ, (acc, .dct (pre.map g)) :: σ.ω⟩ target (f x) (fun σ₁ =>
   TsB X A (compEnvC scope cl Ca env) σ₁ ifs (QId X A (compEnvC scope cl Ca env) kx vx acc (pre.map g) σ.ω (g x).1 (g x).2)))
  (p : ∀ a, Q .next ⟨(y, .raw (.ref a)) :: σ.ρ, (a, .dct (l.map g)) :: σ.ω⟩) : Ex X A env σ (.Assign [.Name y pos'] (.DictComp kx vx [⟨target, iter, ifs, 0⟩] scope pos) spos) Q :=
 ex_assign_compG (e := .DictComp kx vx [⟨target, iter, ifs, 0⟩] scope pos) hok loop_d start_d new_d (preD l f g hl hn hsrc step fun acc => p acc) hs hk (exec_Assign_Name_used _ _ _ _ hsw) rfl
theorem ex_dc {y : Str} {pos' spos : Pos} (l : List α) (f : α → D) (g : α → Str × D) (hok : compOk scope env = true) (hl : l.length ≤ sizeLine) (hn : (l.map fun x => (g x).1).Nodup) (hs : ∀ x, foldedSetIterable iter env x = pure x) (hk : isLoc env y = true)
  (hsw : swapsWith (.DictComp kx vx [⟨target, iter, ifs, 0⟩] scope pos) (some (.Name y pos')) spos.line env = pure true)
  (hsrc : Src X A env σ iter target (fun _ => some (l.map f)) (fun σ₁ => σ₁.ρ = σ.ρ ∧ σ₁.ω = σ.ω))
  (step : ∀ cl Ca acc pre x post, l = pre ++ x :: post → Asg X A (compEnvC scope cl Ca env) ⟨pick (freesOf scope) σ.ρ, (acc, .dct (pre.map g)) :: σ.ω⟩ target (f x) (fun σ₁ =>
   TsB X A (compEnvC scope cl Ca env) σ₁ ifs (QId X A (compEnvC scope cl Ca env) kx vx acc (pre.map g) σ.ω (g x).1 (g x).2)))
  (p : Q .next ⟨(y, .dct (l.map g)) :: σ.ρ, σ.ω⟩) : Ex X A env σ (.Assign [.Name y pos'] (.DictComp kx vx [⟨target, iter, ifs, 0⟩] scope pos) spos) Q :=
 trF_fzD (y := y) (ex_dcC l f g hok hl hn hs hk hsw hsrc step fun a => ⟨_, _, rfl, rfl, ⟨a, _, _, rfl, rfl, p⟩⟩)
end
end
section
variable {w : World} {mg mb : Str → Option Value} {fr : List Env} {A : Around} {env : Env} {σ : Sg} {P : D → Sg → Prop} {Q : Fl → Sg → Prop}
noncomputable def frontF (van : List Nat) : List Nat → List Nat
 | [] => []
 | s :: r => if s ∈ van then s :: frontF van r else [s]
theorem frontF_pre {van post : List Nat} {pre : List Nat} : (∀ s ∈ pre, s ∈ van) → frontF van (pre ++ post) = pre ++ frontF van post := by
 induction pre with
 | nil => intro _; exact rfl
 | cons s r ih =>
  intro h
  show (if s ∈ van then s :: frontF van (r ++ post) else [s]) = _
  rw [if_pos (h s (.head _)), ih fun x hx => h x (.tail _ hx)]; rfl
theorem frontF_len (van : List Nat) (l : List Nat) : (frontF van l).length ≤ l.length := by
 induction l with
 | nil => exact Nat.le_refl _
 | cons s r ih =>
  have := ih
  unfold frontF
  split <;> simp <;> exact ih
theorem frontF_mem {van : List Nat} {c : Nat} {l : List Nat} : c ∈ frontF van l → c ∈ l := by
 induction l with
 | nil => intro h; exact h
 | cons s r ih =>
  intro h
  unfold frontF at h
  split at h
  ·rcases List.mem_cons.mp h with rfl | h
   ·exact .head _
   ·exact .tail _ (ih h)
  ·rw [List.mem_singleton.mp h]; exact .head _
set_option maxHeartbeats 2000000
theorem front_ok {l van : List Nat} {k : Nat} (R : ARoom (k + 1) A) (hl : ∀ c ∈ l, c ∈ symCodes) (hv : ∀ c ∈ van, c ∈ symCodes) (hz : l.length ≤ 20) (p : P (rowD (frontF van l)) σ) :
  OpL (X3 w mg mb fr) A env σ (fun vs => call (.ref 276) vs) [rowD l, rowD van] P := by
 refine fn_call (dbs := [("symbols", rowD l), ("vanish", rowD van)]) ⟨⟨_, _, _, rfl⟩, rfl, rfl, rfl, rfl, rfl, rfl, rfl, rfl, rfl, rfl, rfl, rfl⟩ R.room ?_ rfl rfl ?_
 ·intro s b vs T hb r
  obtain ⟨v1, v2, rfl, r1, r2⟩ := r.i_two
  exact ⟨_, BindsTo.of_eq rfl, .cons r1 (.cons r2 .nil)⟩
 ·intro L
  have hsl' := hsl
  have R' : ∀ e, ARoom k (A.deeper e) := fun e => R.deeper
  unfold rowD
  try dsimp only
  refine exs_let ?_; intro X' A' e' q'
  walk_at "m"
  refine ev_listC (trl_nil ⟨Nat.le_of_ble_eq_true rfl, fun a => ?_⟩)
  try dsimp only
  let Iv : PI l := fun pre σ' => EA03 (∀ s ∈ pre, s ∈ van) (Sub σ'.ρ [("front", .raw (.ref a)), ("symbols", .list (l.map sD)), ("vanish", .list (van.map sD))]) (σ'.ω = (a, .lst (pre.map sD)) :: σ.ω)
  refine exs_cons (ex_forP l sD Iv ?_ ?_ ?_ (fun _ => rfl))
  ·refine src_of ?_
   walk_at "m"
   exact ⟨itb_list R.hd, by simp, .cons rfl (.cons rfl (.cons rfl .nil)), rfl⟩
  ·rintro pre s post ⟨ρ', ω'⟩ hsp ⟨hp, hsub, hω⟩
   dsimp only at hsub hω
   subst hω
   have hpl : pre.length ≤ 20 := by have := congrArg List.length hsp; simp at this; exact le_c (Nat.le_trans (mid_l this) hz) rfl
   refine Asg.sub hsub (asg_name rfl ?_)
   clear hsub
   try dsimp only
   walk_at "m"
   refine ev_meth (T := "list") (id := "list.append") ?_ F.plainAttrs_list F.slot_list_append F.type_list_append rfl rfl rfl rfl rfl
   walk_at "m"
   refine ⟨isTy_lst (.cell (.head _)), ?_⟩
   walk_at "m"
   refine ol_append .head (by simp; exact le_s hpl rfl) ⟨rfl, ?_⟩
   walk_at "m"
   refine op_notin (n := 0) (R' _) .data (okSy 0 (hl s (by rw [hsp]; simp))) (okSys 0 hv) (by decide) (ob_bool ?_)
   rw [anySy]
   by_cases hs : s ∈ van
   ·refine ite_f (by simp [hs]) (exs_nil (exs_nil ⟨fun x hx => ?_, .cons rfl (.cons rfl (.cons rfl .nil)), by simp⟩))
    rcases List.mem_append.mp hx with hx | hx
    ·exact hp x hx
    ·rw [List.mem_singleton.mp hx]; exact hs
   ·refine ite_t (by simp [hs]) (exs_cons (ex_brk (exs_cons (ex_ret (tr_freeze (ev_var rfl rfl ⟨a, _, _, rfl, rfl, ?_⟩ rfl rfl))))))
    have e : frontF van l = pre ++ [s] := by rw [hsp, frontF_pre hp]; unfold frontF; rw [if_neg hs]
    rw [e, rowD, List.map_append] at p
    exact p
  ·rintro ⟨ρ', ω'⟩ ⟨hp, hsub, hω⟩
   dsimp only at hsub hω
   subst hω
   refine TrF.sub hsub ?_
   clear hsub
   refine exs_nil (exs_cons (ex_ret (tr_freeze (ev_var rfl rfl ⟨a, _, _, rfl, rfl, ?_⟩ rfl rfl))))
   have e : frontF van l = l := by have := frontF_pre (post := []) hp; simpa [frontF] using this
   rw [e, rowD] at p
   exact p
noncomputable def opensOf (van : List Nat) (l : List CPr) (n : Nat) : List Nat := (l.filter fun q => q.1 == n).flatMap fun q => frontF van q.2
noncomputable def let0 (inner : List Str) (c : Nat) : List Str := if c = 97 then ["a"] else if c = 98 then ["b"] else if c = 84 then inner else []
noncomputable def strsD (l : List Str) : D := .list (l.map .str)
noncomputable def letD (f : Nat → List Str) : List (Str × D) := [("a", strsD (f 97)), ("b", strsD (f 98)), ("T", strsD (f 84)), ("S", strsD (f 83)), ("A", strsD (f 65))]
noncomputable def plainOf (f : Nat → List Str) (os : List Nat) : List Str := os.flatMap f
noncomputable def openD (o : Nat → List Nat) : List (Str × D) := [("S", rowD (o 83)), ("A", rowD (o 65))]
noncomputable def let1 (inner : List Str) (o : Nat → List Nat) (c : Nat) : List Str :=
 if c = 83 then plainOf (let0 inner) (o 83) ++ (if 65 ∈ o 83 then plainOf (let0 inner) (o 65) else [])
 else if c = 65 then plainOf (let0 inner) (o 65) ++ (if 83 ∈ o 65 then plainOf (let0 inner) (o 83) else [])
 else let0 inner c
noncomputable def HSTs : List Nat := [83, 65, 84, 97, 98]
structure HostOk (host : List CPr) : Prop where
 rows : Rows host
 lhs : ∀ q ∈ host, q.1 = 83 ∨ q.1 = 65
 rhs : ∀ q ∈ host, ∀ c ∈ q.2, c ∈ HSTs
 len : ∀ q ∈ host, q.2.length ≤ 3
 few : host.length ≤ 7
theorem opensOf_len {van : List Nat} {n : Nat} : ∀ {l : List CPr}, (∀ q ∈ l, q.2.length ≤ 3) → (opensOf van l n).length ≤ 3 * l.length
 | [], _ => by simp [opensOf]
 | q :: r, h => by
  have h1 := opensOf_len (van := van) (n := n) (l := r) fun x hx => h x (.tail _ hx)
  have h2 := frontF_len van q.2
  have h3 := h q (.head _)
  simp only [opensOf, List.filter_cons, List.length_cons] at h1 ⊢
  split
  ·rw [List.flatMap_cons, List.length_append]; lia
  ·lia
theorem opensOf_mem {van : List Nat} {n c : Nat} {l : List CPr} (h : c ∈ opensOf van l n) : ∃ q ∈ l, q.1 = n ∧ c ∈ frontF van q.2 := by
 obtain ⟨q, hq, hc⟩ := List.mem_flatMap.mp h
 rw [List.mem_filter] at hq
 exact ⟨q, hq.1, by simpa using hq.2, hc⟩
theorem opensOf_snoc (van : List Nat) (l : List CPr) (q : CPr) (n : Nat) : opensOf van (l ++ [q]) n = if q.1 = n then opensOf van l n ++ frontF van q.2 else opensOf van l n := by
 unfold opensOf
 rw [List.filter_append, List.flatMap_append, List.filter_cons]
 by_cases h : q.1 = n <;> simp [h]
theorem let_at {inner : List Str} {f : Nat → List Str} : ∀ c ∈ HSTs, (letD f).lookup (symS c) = some (strsD (f c)) := by
 intro c hc
 simp only [HSTs, List.mem_cons, List.not_mem_nil, or_false] at hc
 rcases hc with rfl | rfl | rfl | rfl | rfl <;> kernel_rfl
theorem hst_sym : ∀ c ∈ HSTs, c ∈ symCodes := by decide
theorem flat_len {f : Nat → List Str} {m : Nat} : ∀ {l : List Nat}, (∀ c ∈ l, (f c).length ≤ m) → (l.flatMap f).length ≤ m * l.length
 | [], _ => by simp
 | c :: r, h => by
  have h1 := flat_len (l := r) fun x hx => h x (.tail _ hx)
  have h2 := h c (.head _)
  rw [List.flatMap_cons, List.length_append, List.length_cons, Nat.mul_succ]; lia
theorem open_at (o : Nat → List Nat) {c : Nat} (h : c = 83 ∨ c = 65) : (openD o).lookup (symS c) = some (rowD (o c)) := by rcases h with rfl | rfl <;> kernel_rfl
theorem open_put {o o' : Nat → List Nat} {c : Nat} {d : D} (h : c = 83 ∨ c = 65) (hd : d = rowD (o' c)) (ho : ∀ n, n ≠ c → o' n = o n) : put (openD o) (symS c) d = openD o' := by
 rcases h with rfl | rfl
 ·have e : put (openD o) (symS 83) d = [(("S" : Str), d), ("A", rowD (o 65))] := by kernel_rfl
  rw [e, hd, openD, ho 65 (by decide)]
 ·have e : put (openD o) (symS 65) d = [(("S" : Str), rowD (o 83)), ("A", d)] := by kernel_rfl
  rw [e, hd, openD, ho 83 (by decide)]
theorem let_put {f f' : Nat → List Str} {c : Nat} {d : D} (h : c = 83 ∨ c = 65) (hd : d = strsD (f' c)) (ho : ∀ n, n ≠ c → f' n = f n) : put (letD f) (symS c) d = letD f' := by
 rcases h with rfl | rfl
 ·have e : put (letD f) (symS 83) d = [(("a" : Str), strsD (f 97)), ("b", strsD (f 98)), ("T", strsD (f 84)), ("S", d), ("A", strsD (f 65))] := by kernel_rfl
  rw [e, hd, letD, ho 97 (by decide), ho 98 (by decide), ho 84 (by decide), ho 65 (by decide)]
 ·have e : put (letD f) (symS 65) d = [(("a" : Str), strsD (f 97)), ("b", strsD (f 98)), ("T", strsD (f 84)), ("S", strsD (f 83)), ("A", d)] := by kernel_rfl
  rw [e, hd, letD, ho 97 (by decide), ho 98 (by decide), ho 84 (by decide), ho 83 (by decide)]
theorem ev_cut {X : Cx} {e : Expr} (d : D) (h : Ev X A env σ e (fun d' σ' => d' = d ∧ σ' = σ)) (p : P d σ) : Ev X A env σ e P := Tr.mono h fun d' σ' ⟨h1, h2⟩ => by rw [h1, h2]; exact p
theorem let0_len {inner : List Str} (h : inner.length ≤ 10) (c : Nat) : (let0 inner c).length ≤ 10 := by
 unfold let0
 split
 ·exact Nat.le_of_ble_eq_true rfl
 ·split
  ·exact Nat.le_of_ble_eq_true rfl
  ·split
   ·exact h
   ·exact Nat.zero_le _
set_option maxHeartbeats 4000000
theorem firsts_ok {host : List CPr} {van : List Nat} {inner : List Str} {k : Nat} (R : ARoom (k + 3) A) (H : HostOk host) (hv : ∀ c ∈ van, c ∈ symCodes) (hi : inner.length ≤ 10) (p : P (.dct (letD (let1 inner (opensOf van host)))) σ) :
  OpL (X3 w mg mb fr) A env σ (fun vs => call (.ref 281) vs) [qsD host, rowD van, strsD inner] P := by
 refine fn_call (dbs := [("host", qsD host), ("vanish", rowD van), ("inner", strsD inner)]) ⟨⟨_, _, _, rfl⟩, rfl, rfl, rfl, rfl, rfl, rfl, rfl, rfl, rfl, rfl, rfl, rfl⟩ R.room ?_ rfl rfl ?_
 ·intro s b vs T hb r
  obtain ⟨v1, v2, v3, rfl, r1, r2, r3⟩ := r.i_three
  exact ⟨_, BindsTo.of_eq rfl, .cons r1 (.cons r2 (.cons r3 .nil))⟩
 ·intro L
  have hsl' := hsl
  have R' : ∀ e, ARoom (k + 2) (A.deeper e) := fun e => R.deeper
  try dsimp only
  refine exs_let ?_; intro X' A' e' q'
  walk_at "m"
  with_reducible refine ev_dictK ?ha ?hb ?hc
  case ha => rfl
  case hb => exact Nat.le_of_ble_eq_true rfl
  intro o
  refine tk_e (ev_str ⟨_, rfl, ev_list (trl_nil ⟨Nat.le_of_ble_eq_true rfl, ?_⟩)⟩)
  refine tk_e (ev_str ⟨_, rfl, ev_list (trl_nil ⟨Nat.le_of_ble_eq_true rfl, ?_⟩)⟩)
  refine tk_nil ⟨_, by decide, rfl, ?_⟩
  try dsimp only
  walk_at "m"
  with_reducible refine ev_dictK ?ha2 ?hb2 ?hc2
  case ha2 => rfl
  case hb2 => exact Nat.le_of_ble_eq_true rfl
  intro a
  refine tk_e (ev_str ⟨_, rfl, ev_list (trl_cons (ev_str (trl_nil ⟨Nat.le_of_ble_eq_true rfl, ?_⟩)) rfl)⟩)
  refine tk_e (ev_str ⟨_, rfl, ev_list (trl_cons (ev_str (trl_nil ⟨Nat.le_of_ble_eq_true rfl, ?_⟩)) rfl)⟩)
  refine tk_e (ev_str ⟨_, rfl, ev_var rfl rfl ?_ rfl rfl⟩)
  refine tk_e (ev_str ⟨_, rfl, ev_list (trl_nil ⟨Nat.le_of_ble_eq_true rfl, ?_⟩)⟩)
  refine tk_e (ev_str ⟨_, rfl, ev_list (trl_nil ⟨Nat.le_of_ble_eq_true rfl, ?_⟩)⟩)
  refine tk_nil ⟨_, by kernel_rfl, rfl, ?_⟩
  try dsimp only
  have e0 : [(("a" : Str), D.list [.str "a"]), ("b", .list [.str "b"]), ("T", strsD inner), ("S", .list []), ("A", .list [])] = letD (let0 inner) := by rfl
  rw [e0]
  have e1 : [(("S" : Str), D.list []), ("A", .list [])] = openD (opensOf van []) := rfl
  rw [e1]
  refine exs_cons (ex_forL host qD (fun pre => [("letters", .raw (.ref a)), ("opens", .raw (.ref o)), ("host", qsD host), ("vanish", rowD van), ("inner", strsD inner)]) (fun pre => (a, .dct (letD (let0 inner))) :: (o, .dct (openD (opensOf van pre))) :: σ.ω) ?_ ?_ (exs_nil ?_) (fun _ => rfl))
  ·refine src_of ?_
   walk_at "m"
   exact ⟨itb_list R.hd, .cons rfl (.cons rfl (.cons rfl (.cons rfl (.cons rfl .nil)))), rfl⟩
  ·rintro pre ⟨c, r⟩ post hsp
   have hq : (c, r) ∈ host := by rw [hsp]; simp
   have hpm : ∀ x ∈ pre, x ∈ host := fun x hx => by rw [hsp]; simp [hx]
   have hpl : pre.length ≤ 7 := by have h1 := congrArg List.length hsp; have := H.few; simp at h1; exact le_c (Nat.le_trans (mid_l h1) this) rfl
   have hol : ∀ n, (opensOf van pre n).length ≤ 21 := fun n => by
    have := opensOf_len (van := van) (n := n) (l := pre) fun x hx => H.len x (hpm x hx)
    exact le_c (Nat.le_trans this (Nat.mul_le_mul_left _ hpl)) rfl
   have hrl : r.length ≤ 3 := H.len _ hq
   have hfl := frontF_len van r
   have hr : ∀ x ∈ r, x ∈ symCodes := fun x hx => hst_sym x (H.rhs _ hq x hx)
   unfold qD
   refine asg_tup2 R.hd rfl rfl ?_
   try dsimp only
   have hc : c = 83 ∨ c = 65 := H.lhs _ hq
   have hw : ∀ n, (opensOf van (pre ++ [(c, r)]) n) = if c = n then opensOf van pre n ++ frontF van r else opensOf van pre n := opensOf_snoc van pre (c, r)
   walk_at "m"
   refine ev_sub ?_
   walk_at "m"
   refine op_dget (.cell (.tail _ (.head _))) (open_at _ hc) ?_ (fun _ _ => rfl)
   refine ev_callO (ev_glob (v := .ref 276) rfl (fun _ _ => .raw _) rfl ⟨rfl, ?_⟩ rfl) rfl rfl rfl rfl
   walk_at "m"
   refine front_ok (k := k + 1) (R' _) hr hv (by exact le_c hrl rfl) ?_
   unfold rowD
   have h1 := hol c
   refine op_addl .data .data (by simp only [List.length_append, List.length_map]; exact le_s (Nat.add_le_add h1 (Nat.le_trans hfl hrl)) rfl) ?_
   walk_at "m"
   refine ⟨_, _, _, _, rfl, rfl, .tail .head, Nat.le_of_ble_eq_true rfl, ?_⟩
   rw [open_put (o' := opensOf van (pre ++ [(c, r)])) hc (by rw [hw, if_pos rfl, rowD, List.map_append]) (fun n hn => by rw [hw, if_neg (fun z => hn z.symm)])]
   exact exs_nil ⟨.cons rfl (.cons rfl (.cons rfl (.cons rfl (.cons rfl .nil)))), rfl⟩
  have hol : ∀ n, (opensOf van host n).length ≤ 21 := fun n => by
   have := opensOf_len (van := van) (n := n) (l := host) H.len
   have := H.few
   lia
  have hom : ∀ n, ∀ c ∈ opensOf van host n, c ∈ HSTs := fun n c hc => by
   obtain ⟨q, hq, _, h⟩ := opensOf_mem hc
   exact H.rhs q hq c (frontF_mem h)
  generalize opensOf van host = os at hol hom p ⊢
  refine trF_perm (ω' := (o, .dct (openD os)) :: (a, .dct (letD (let0 inner))) :: σ.ω) (List.Perm.swap ..) (trF_freezeDn (ρ' := [("letters", .raw (.ref a)), ("opens", .dct (openD os)), ("host", qsD host), ("vanish", rowD van), ("inner", strsD inner)]) (fun x d h => ?_) ?_)
  ·simp only [List.lookup_cons] at h ⊢
   split at h
   ·exact .inl h
   ·split at h
    ·obtain rfl := Option.some.inj h; exact .inr ⟨rfl, rfl⟩
    ·exact .inl h
  have hlp : ∀ n, ((os n).flatMap fun s => (let0 inner s).map D.str).length ≤ 210 := fun n => by
   have e : ((os n).flatMap fun s => (let0 inner s).map D.str) = (plainOf (let0 inner) (os n)).map D.str := by rw [plainOf, List.map_flatMap]
   rw [e, List.length_map]
   have := flat_len (f := let0 inner) (l := os n) fun c _ => let0_len hi c
   have := hol n
   unfold plainOf
   lia
  refine exs_cons (ex_dc [83, 65] sD (fun n => (symS n, .list ((os n).flatMap fun s => (let0 inner s).map .str))) (by rfl) (Nat.le_of_ble_eq_true rfl) (by simp [symS]) (fun _ => rfl) rfl rfl ?_ ?_ ?_)
  ·refine src_of ?_
   walk_at "m"
   exact ⟨itb_dct R.hd, rfl, rfl⟩
  ·intro cl Ca acc pre n post hsp
   have hn : n = 83 ∨ n = 65 := by
    have : n ∈ [83, 65] := by rw [hsp]; simp
    simpa using this
   refine asg_name rfl (ts_nil ⟨rfl, ?_⟩)
   walk_at "m"
   refine ⟨rfl, ev_lc2 (os n) sD (fun _ => true) (fun s => (let0 inner s).map .str) (by rfl) (by rw [filter_all]; have := hlp n; exact le_s this rfl) (fun _ => rfl) (fun _ _ => rfl) (fun _ _ => rfl) (fun _ _ => rfl) rfl rfl ?_ ?_ ?_⟩
   ·refine src_of (ev_sub ?_)
    walk_at "m"
    refine op_dget .data (open_at _ hn) ⟨itb_list R.hd, rfl, rfl⟩ (fun _ _ => rfl)
   ·intro cl2 Ca2 acc2 pre2 s post2 hsp2
    refine asg_name rfl (ts_nil ⟨rfl, rfl, fun _ => src_of (ev_sub ?_)⟩)
    walk_at "m"
    exact op_dget (.cell (.tail _ (.tail _ (.head _)))) (let_at (inner := inner) s (hom n s (by rw [hsp2]; simp))) ⟨itb_list R.hd, rfl⟩ (fun _ _ => rfl)
   ·rw [filter_all]; exact ⟨rfl, rfl⟩
  have ep : ([83, 65].map fun n => (symS n, D.list ((os n).flatMap fun s => (let0 inner s).map .str))) = [(("S" : Str), strsD (plainOf (let0 inner) (os 83))), ("A", strsD (plainOf (let0 inner) (os 65)))] := by
   simp only [List.map_cons, List.map_nil, strsD, plainOf, List.map_flatMap]
   rfl
  rw [ep]
  have hpl : ∀ n, (plainOf (let0 inner) (os n)).length ≤ 210 := fun n => by
   have := flat_len (f := let0 inner) (l := os n) fun c _ => let0_len hi c
   have := hol n
   unfold plainOf
   lia
  have hps : (((letD (let0 inner)).length : Nat)) ≤ 5 := Nat.le_refl _
  let f1 : Nat → List Str := fun c => if c = 83 then plainOf (let0 inner) (os 83) ++ (if 65 ∈ os 83 then plainOf (let0 inner) (os 65) else []) else let0 inner c
  walk_at "m"
  refine ev_sub ?_
  walk_at "m"
  refine op_dget (x := strsD (plainOf (let0 inner) (os 83))) .data rfl ?_ (fun _ _ => rfl)
  refine ev_cut (strsD (if 65 ∈ os 83 then plainOf (let0 inner) (os 65) else [])) ?_ ?_
  ·walk_at "m"
   refine ev_sub ?_
   walk_at "m"
   refine op_dget (x := rowD (os 83)) .data rfl ?_ (fun _ _ => rfl)
   refine op_in (n := 0) (x := sD 65) (R' _) .data (okSy 0 (by decide)) (okSys 0 fun c hc => hst_sym c (hom 83 c hc)) (by decide) (ob_bool ?_)
   rw [anySy]
   by_cases h : 65 ∈ os 83
   ·refine ite_t (by simp [h]) ?_
    rw [if_pos h]
    refine ev_sub ?_
    walk_at "m"
    exact op_dget (x := strsD (plainOf (let0 inner) (os 65))) .data rfl ⟨rfl, rfl⟩ (fun _ _ => rfl)
   ·refine ite_f (by simp [h]) ?_
    rw [if_neg h]
    exact ev_list (trl_nil ⟨Nat.le_of_ble_eq_true rfl, rfl, rfl⟩)
  unfold strsD
  refine op_addl .data .data ?_ ?_
  ·have := hpl 83; have := hpl 65
   split <;> simp <;> lia
  rw [← List.map_append]
  walk_at "m"
  refine ⟨_, _, _, _, rfl, rfl, .head, Nat.le_of_ble_eq_true rfl, ?_⟩
  have e3 : put (letD (let0 inner)) ("S" : Str) (.list ((plainOf (let0 inner) (os 83) ++ (if 65 ∈ os 83 then plainOf (let0 inner) (os 65) else [])).map .str)) = letD f1 := let_put (c := 83) (.inl rfl) rfl fun n hn => if_neg hn
  rw [e3]
  walk_at "m"
  refine ev_sub ?_
  walk_at "m"
  refine op_dget (x := strsD (plainOf (let0 inner) (os 65))) .data rfl ?_ (fun _ _ => rfl)
  refine ev_cut (strsD (if 83 ∈ os 65 then plainOf (let0 inner) (os 83) else [])) ?_ ?_
  ·walk_at "m"
   refine ev_sub ?_
   walk_at "m"
   refine op_dget (x := rowD (os 65)) .data rfl ?_ (fun _ _ => rfl)
   refine op_in (n := 0) (x := sD 83) (R' _) .data (okSy 0 (by decide)) (okSys 0 fun c hc => hst_sym c (hom 65 c hc)) (by decide) (ob_bool ?_)
   rw [anySy]
   by_cases h : 83 ∈ os 65
   ·refine ite_t (by simp [h]) ?_
    rw [if_pos h]
    refine ev_sub ?_
    walk_at "m"
    exact op_dget (x := strsD (plainOf (let0 inner) (os 83))) .data rfl ⟨rfl, rfl⟩ (fun _ _ => rfl)
   ·refine ite_f (by simp [h]) ?_
    rw [if_neg h]
    exact ev_list (trl_nil ⟨Nat.le_of_ble_eq_true rfl, rfl, rfl⟩)
  unfold strsD
  refine op_addl .data .data ?_ ?_
  ·have := hpl 83; have := hpl 65
   split <;> simp <;> lia
  rw [← List.map_append]
  walk_at "m"
  refine ⟨_, _, _, _, rfl, rfl, .head, Nat.le_of_ble_eq_true rfl, ?_⟩
  have e4 : put (letD f1) ("A" : Str) (.list ((plainOf (let0 inner) (os 65) ++ (if 83 ∈ os 65 then plainOf (let0 inner) (os 83) else [])).map .str)) = letD (let1 inner os) := let_put (c := 65) (.inr rfl) rfl fun n hn => by
   show (if n = 83 then _ else if n = 65 then _ else _) = if n = 83 then _ else _
   rw [if_neg hn]
  rw [e4]
  exact exs_cons (ex_ret (tr_fzD (ev_var rfl rfl ⟨a, _, _, rfl, rfl, p⟩ rfl rfl)))
noncomputable abbrev Occ : Type := Nat × Nat × List Nat
noncomputable def occ (n : Nat) (l : List Nat) (p : Nat × Nat) : Occ := (n, p.1, l.drop (p.2 + 1))
noncomputable def occR (q : CPr) : List Occ := q.2.zipIdx.map (occ q.1 q.2)
noncomputable def occs (host : List CPr) : List Occ := host.flatMap occR
noncomputable def atS (n : Nat) (o : Occ) : Bool := o.2.1 == n
noncomputable def endS (van : List Nat) (n : Nat) (o : Occ) : Bool := o.2.1 == n && o.2.2.all fun s => decide (s ∈ van)
noncomputable def behind (van : List Nat) (f : Nat → List Str) (o : Occ) : List Str := (frontF van o.2.2).flatMap f
noncomputable def base0 (n : Nat) : List Str := if n = 83 then ["$end"] else []
noncomputable def baseOf (van : List Nat) (f : Nat → List Str) (os : List Occ) (n : Nat) : List Str := base0 n ++ (os.filter (atS n)).flatMap (behind van f)
noncomputable def endsOf (van : List Nat) (os : List Occ) (n : Nat) : List Nat := (os.filter (endS van n)).map (·.1)
noncomputable def threeD (f : Nat → D) : List (Str × D) := [("S", f 83), ("A", f 65), ("T", f 84)]
noncomputable def Three (c : Nat) : Prop := c = 83 ∨ c = 65 ∨ c = 84
theorem three_at (f : Nat → D) {c : Nat} (h : Three c) : (threeD f).lookup (symS c) = some (f c) := by rcases h with rfl | rfl | rfl <;> kernel_rfl
theorem three_no (f : Nat → D) : ∀ c ∈ HSTs, ¬ Three c → (threeD f).lookup (symS c) = none := by
 intro c hc h
 simp only [HSTs, List.mem_cons, List.not_mem_nil, or_false] at hc
 rcases hc with rfl | rfl | rfl | rfl | rfl
 ·exact absurd (.inl rfl) h
 ·exact absurd (.inr (.inl rfl)) h
 ·exact absurd (.inr (.inr rfl)) h
 ·kernel_rfl
 ·kernel_rfl
theorem three_put {f f' : Nat → D} {c : Nat} {d : D} (h : Three c) (hd : d = f' c) (ho : ∀ n, n ≠ c → f' n = f n) : put (threeD f) (symS c) d = threeD f' := by
 rcases h with rfl | rfl | rfl
 ·have e : put (threeD f) (symS 83) d = [(("S" : Str), d), ("A", f 65), ("T", f 84)] := by kernel_rfl
  rw [e, hd, threeD, ho 65 (by decide), ho 84 (by decide)]
 ·have e : put (threeD f) (symS 65) d = [(("S" : Str), f 83), ("A", d), ("T", f 84)] := by kernel_rfl
  rw [e, hd, threeD, ho 83 (by decide), ho 84 (by decide)]
 ·have e : put (threeD f) (symS 84) d = [(("S" : Str), f 83), ("A", f 65), ("T", d)] := by kernel_rfl
  rw [e, hd, threeD, ho 83 (by decide), ho 65 (by decide)]
theorem three_congr {f g : Nat → D} (h : ∀ n, Three n → f n = g n) : threeD f = threeD g := by rw [threeD, threeD, h 83 (.inl rfl), h 65 (.inr (.inl rfl)), h 84 (.inr (.inr rfl))]
noncomputable def folS (b : Nat → List Str) (e : Nat → List Nat) : List Str := b 83 ++ (if 65 ∈ e 83 then b 65 else [])
noncomputable def folA (b : Nat → List Str) (e : Nat → List Nat) : List Str := b 65 ++ (if 83 ∈ e 65 then b 83 else [])
noncomputable def fol2 (b : Nat → List Str) (e : Nat → List Nat) (n : Nat) : List Str := if n = 83 then folS b e else folA b e
noncomputable def folOf (b : Nat → List Str) (e : Nat → List Nat) (n : Nat) : List Str := if n = 84 then b 84 ++ (e 84).flatMap (fol2 b e) else fol2 b e n
theorem base_snoc (van : List Nat) (f : Nat → List Str) (os : List Occ) (o : Occ) (n : Nat) : baseOf van f (os ++ [o]) n = if o.2.1 = n then baseOf van f os n ++ behind van f o else baseOf van f os n := by
 unfold baseOf
 rw [List.filter_append, List.flatMap_append]
 by_cases h : o.2.1 = n <;> simp [atS, h]
theorem ends_snoc (van : List Nat) (os : List Occ) (o : Occ) (n : Nat) : endsOf van (os ++ [o]) n = if o.2.1 = n ∧ (o.2.2.all fun s => decide (s ∈ van)) = true then endsOf van os n ++ [o.1] else endsOf van os n := by
 unfold endsOf
 rw [List.filter_append, List.map_append]
 by_cases h : o.2.1 = n
 ·cases h2 : (o.2.2.all fun s => decide (s ∈ van)) <;> simp [endS, h, h2]
 ·simp [endS, h]
theorem behind_len {van : List Nat} {f : Nat → List Str} {o : Occ} (hf : ∀ c, (f c).length ≤ 500) (h : o.2.2.length ≤ 3) : (behind van f o).length ≤ 1500 := by
 have h1 := flat_len (f := f) (l := frontF van o.2.2) fun c _ => hf c
 have h2 := frontF_len van o.2.2
 unfold behind
 exact le_c (Nat.le_trans h1 (Nat.mul_le_mul_left _ (Nat.le_trans h2 h))) rfl
theorem base_len {van : List Nat} {f : Nat → List Str} {n : Nat} (hf : ∀ c, (f c).length ≤ 500) : ∀ {os : List Occ}, (∀ o ∈ os, o.2.2.length ≤ 3) → (baseOf van f os n).length ≤ 1 + 1500 * os.length := fun {os} h => by
 have h0 : (base0 n).length ≤ 1 := by unfold base0; split <;> simp
 have h1 : ((os.filter (atS n)).flatMap (behind van f)).length ≤ 1500 * os.length := by
  clear h0
  induction os with
  | nil => simp
  | cons o r ih =>
   have h2 := ih fun x hx => h x (.tail _ hx)
   have h3 := behind_len (van := van) hf (h o (.head _))
   simp only [List.filter_cons, List.length_cons]
   split
   ·rw [List.flatMap_cons, List.length_append]; lia
   ·lia
 unfold baseOf
 rw [List.length_append]; lia
theorem ends_len {van : List Nat} {n : Nat} (os : List Occ) : (endsOf van os n).length ≤ os.length := by
 unfold endsOf; rw [List.length_map]; exact List.length_filter_le ..
theorem occs_len {host : List CPr} (h : ∀ q ∈ host, q.2.length ≤ 3) : (occs host).length ≤ 3 * host.length := by
 induction host with
 | nil => simp [occs]
 | cons q r ih =>
  have h1 := ih fun x hx => h x (.tail _ hx)
  have h2 := h q (.head _)
  simp only [occs, List.flatMap_cons, List.length_append, List.length_cons] at h1 ⊢
  have : (occR q).length = q.2.length := by simp [occR]
  lia
theorem occ_mem {host : List CPr} {o : Occ} (h : o ∈ occs host) : ∃ q ∈ host, ∃ i c, q.2[i]? = some c ∧ o = (q.1, c, q.2.drop (i + 1)) := by
 obtain ⟨q, hq, ho⟩ := List.mem_flatMap.mp h
 obtain ⟨⟨c, i⟩, hp, rfl⟩ := List.mem_map.mp ho
 exact ⟨q, hq, i, c, by simpa [List.mk_mem_zipIdx_iff_getElem?] using hp, rfl⟩
theorem occ_len {host : List CPr} (h : ∀ q ∈ host, q.2.length ≤ 3) : ∀ o ∈ occs host, o.2.2.length ≤ 3 := fun o ho => by
 obtain ⟨q, hq, i, c, _, rfl⟩ := occ_mem ho
 have := h q hq
 simp; lia
set_option maxHeartbeats 4000000
theorem follows_ok {host : List CPr} {van : List Nat} {f : Nat → List Str} {k : Nat} (R : ARoom (k + 3) A) (H : HostOk host) (hv : ∀ c ∈ van, c ∈ symCodes) (hf : ∀ c, (f c).length ≤ 500)
  (p : P (.dct (threeD fun n => strsD (folOf (baseOf van f (occs host)) (endsOf van (occs host)) n))) σ) :
  OpL (X3 w mg mb fr) A env σ (fun vs => call (.ref 286) vs) [qsD host, rowD van, .dct (letD f)] P := by
 refine fn_call (dbs := [("host", qsD host), ("vanish", rowD van), ("letters", .dct (letD f))]) ⟨⟨_, _, _, rfl⟩, rfl, rfl, rfl, rfl, rfl, rfl, rfl, rfl, rfl, rfl, rfl, rfl⟩ R.room ?_ rfl rfl ?_
 ·intro s b vs T hb r
  obtain ⟨v1, v2, v3, rfl, r1, r2, r3⟩ := r.i_three
  exact ⟨_, BindsTo.of_eq rfl, .cons r1 (.cons r2 (.cons r3 .nil))⟩
 ·intro L
  have hsl' := hsl
  have R' : ∀ e, ARoom (k + 2) (A.deeper e) := fun e => R.deeper
  try dsimp only
  refine exs_let ?_; intro X' A' e' q'
  walk_at "m"
  with_reducible refine ev_dictK ?ha ?hb ?hc
  case ha => rfl
  case hb => exact Nat.le_of_ble_eq_true rfl
  intro a
  refine tk_e (ev_str ⟨_, rfl, ev_list (trl_cons (ev_str (trl_nil ⟨Nat.le_of_ble_eq_true rfl, ?_⟩)) rfl)⟩)
  refine tk_e (ev_str ⟨_, rfl, ev_list (trl_nil ⟨Nat.le_of_ble_eq_true rfl, ?_⟩)⟩)
  refine tk_e (ev_str ⟨_, rfl, ev_list (trl_nil ⟨Nat.le_of_ble_eq_true rfl, ?_⟩)⟩)
  refine tk_nil ⟨_, by kernel_rfl, rfl, ?_⟩
  try dsimp only
  walk_at "m"
  with_reducible refine ev_dictK ?ha2 ?hb2 ?hc2
  case ha2 => rfl
  case hb2 => exact Nat.le_of_ble_eq_true rfl
  intro o
  refine tk_e (ev_str ⟨_, rfl, ev_list (trl_nil ⟨Nat.le_of_ble_eq_true rfl, ?_⟩)⟩)
  refine tk_e (ev_str ⟨_, rfl, ev_list (trl_nil ⟨Nat.le_of_ble_eq_true rfl, ?_⟩)⟩)
  refine tk_e (ev_str ⟨_, rfl, ev_list (trl_nil ⟨Nat.le_of_ble_eq_true rfl, ?_⟩)⟩)
  refine tk_nil ⟨_, by kernel_rfl, rfl, ?_⟩
  try dsimp only
  have e0 : [(("S" : Str), D.list [.str "$end"]), ("A", .list []), ("T", .list [])] = threeD (fun n => strsD (baseOf van f [] n)) := by rfl
  have e1 : [(("S" : Str), D.list []), ("A", .list []), ("T", .list [])] = threeD (fun n => rowD (endsOf van [] n)) := rfl
  rw [e0, e1]
  let ρ0 : List (Str × D) := [("ends", .raw (.ref o)), ("base", .raw (.ref a)), ("host", qsD host), ("vanish", rowD van), ("letters", .dct (letD f))]
  let ω0 : List Occ → Om := fun os => (o, .dct (threeD (fun n => rowD (endsOf van os n)))) :: (a, .dct (threeD (fun n => strsD (baseOf van f os n)))) :: σ.ω
  refine exs_cons (ex_forL host qD (fun _ => ρ0) (fun pre => ω0 (occs pre)) ?_ ?_ (exs_nil ?_) (fun _ => rfl))
  ·refine src_of ?_
   walk_at "m"
   exact ⟨itb_list R.hd, .cons rfl (.cons rfl (.cons rfl (.cons rfl (.cons rfl .nil)))), rfl⟩
  ·rintro pre ⟨n, r⟩ post hsp
   have hq : (n, r) ∈ host := by rw [hsp]; simp
   have hpm : ∀ x ∈ pre, x ∈ host := fun x hx => by rw [hsp]; simp [hx]
   have hpl : pre.length ≤ 7 := by have h1 := congrArg List.length hsp; have := H.few; simp at h1; exact le_c (Nat.le_trans (mid_l h1) this) rfl
   have hrl : r.length ≤ 3 := H.len _ hq
   have hr : ∀ x ∈ r, x ∈ HSTs := fun x hx => H.rhs _ hq x hx
   have ho1 := occs_len (host := pre) fun x hx => H.len x (hpm x hx)
   have ho2 := occ_len (host := pre) fun x hx => H.len x (hpm x hx)
   have hoc : occs (pre ++ [(n, r)]) = occs pre ++ r.zipIdx.map (occ n r) := by simp [occs, occR]
   rw [hoc]
   generalize occs pre = os at ho1 ho2 ⊢
   unfold qD rowD
   refine asg_tup2 R.hd rfl rfl ?_
   try dsimp only
   refine exs_cons (ex_forL r.zipIdx (fun p => .tup [.int (p.2 : Nat), sD p.1]) (fun _ => ("symbols", .list (r.map sD)) :: ("name", sD n) :: ρ0) (fun pre2 => ω0 (os ++ pre2.map (occ n r))) ?_ ?_ (exs_nil (exs_nil ?_)) (fun _ => rfl))
   ·rw [← enumD_map]
    refine src_enum R.hd (ev_blt rfl (by boot_fast) (by decide) rfl ⟨rfl, ?_⟩ rfl) rfl rfl
    walk_at "m"
    exact ⟨rfl, .cons rfl (.cons rfl (.cons rfl (.cons rfl (.cons rfl (.cons rfl (.cons rfl .nil)))))), by simp⟩
   ·rintro pre2 ⟨s, i⟩ post2 hsp2
    obtain ⟨hi, hi2⟩ := zipIdx_split hsp2
    have hs : s ∈ r := by
     have h1 : (s, i) ∈ r.zipIdx := by rw [hsp2]; simp
     exact List.fst_mem_of_mem_zipIdx h1
    have hp2 : pre2.length ≤ 3 := by exact Nat.le_trans (Nat.le_of_eq hi.symm) (Nat.le_trans (Nat.le_of_lt hi2) hrl)
    have hl1 : (os ++ pre2.map (occ n r)).length ≤ 24 := by simp; exact le_c (Nat.add_le_add (Nat.le_trans ho1 (Nat.mul_le_mul_left _ hpl)) hp2) rfl
    have hl2 : ∀ x ∈ os ++ pre2.map (occ n r), x.2.2.length ≤ 3 := fun x hx => by
     rcases List.mem_append.mp hx with hx | hx
     ·exact ho2 x hx
     ·obtain ⟨y, _, rfl⟩ := List.mem_map.mp hx
      simp [occ]; lia
    rw [List.map_append, ← List.append_assoc, List.map_cons, List.map_nil]
    generalize os ++ pre2.map (occ n r) = os2 at hl1 hl2 ⊢
    have hrH : ∀ x ∈ r.drop (i + 1), x ∈ HSTs := fun x hx => hr x (List.mem_of_mem_drop hx)
    have hrl2 : (r.drop (i + 1)).length ≤ 3 := by simp; lia
    have hb := base_snoc van f os2 (occ n r (s, i))
    have he := ends_snoc van os2 (occ n r (s, i))
    refine asg_tup2 R.hd rfl rfl ?_
    show Exs _ _ _ ⟨[("s", sD s), ("place", .int (i : Nat)), ("symbols", .list (r.map sD)), ("name", sD n), ("ends", .raw (.ref o)), ("base", .raw (.ref a)), ("host", qsD host), ("vanish", rowD van), ("letters", .dct (letD f))], (o, .dct (threeD (fun n => rowD (endsOf van os2 n)))) :: (a, .dct (threeD (fun n => strsD (baseOf van f os2 n)))) :: σ.ω⟩ _ _
    walk_at "m"
    refine op_din (.cell (.head _)) (ob_bool ?_)
    by_cases h3 : Three s
    ·rw [three_at _ h3]
     refine ite_t rfl ?_
     walk_at "m"
     refine ev_slice_fromA ?_ rfl
     walk_at "m"
     refine op_add ⟨r.map sD, i + 1, rfl, by simp; exact hi2, by simp; exact le_s hrl rfl, .data, ?_⟩
     rw [← List.map_drop]
     have hocc : occ n r (s, i) = (n, s, r.drop (i + 1)) := rfl
     rw [hocc] at hb he
     rw [hocc]
     generalize r.drop (i + 1) = rest at hrH hrl2 hb he ⊢
     have hrest : ∀ x ∈ rest, x ∈ symCodes := fun x hx => hst_sym x (hrH x hx)
     walk_at "m"
     refine ev_sub ?_
     walk_at "m"
     refine op_dget (.cell (.tail _ (.head _))) (three_at _ h3) ?_ (fun _ _ => rfl)
     have hfl := frontF_len van rest
     have hbl := behind_len (van := van) (f := f) (o := (n, s, rest)) hf hrl2
     have hbb : (List.flatMap (fun c => (f c).map D.str) (frontF van rest)) = (behind van f (n, s, rest)).map .str := by rw [behind, List.map_flatMap]
     refine ev_lc2 (frontF van rest) sD (fun _ => true) (fun c => (f c).map .str) (by rfl) (by rw [filter_all, hbb, List.length_map]; exact le_s hbl rfl) (fun _ => rfl) (fun _ _ => rfl) (fun _ _ => rfl) (fun _ _ => rfl) rfl rfl ?_ ?_ ?_
     ·refine src_of ?_
      refine ev_callO (ev_glob (v := .ref 276) rfl (fun _ _ => .raw _) rfl ⟨rfl, ?_⟩ rfl) rfl rfl rfl rfl
      walk_at "m"
      exact front_ok (k := k + 1) (R' _) hrest hv (by exact le_c hrl2 rfl) ⟨itb_list R.hd, rfl, rfl⟩
     ·intro cl Ca acc pre3 c post3 hsp3
      refine asg_name rfl (ts_nil ⟨rfl, rfl, fun _ => src_of (ev_sub ?_)⟩)
      walk_at "m"
      exact op_dget .data (let_at (inner := []) c (hrH c (frontF_mem (l := rest) (by rw [hsp3]; simp)))) ⟨itb_list R.hd, rfl⟩ (fun _ _ => rfl)
     ·rw [filter_all, hbb]
      unfold strsD
      refine op_addl .data .data (by have := base_len (van := van) (n := s) hf hl2; simp; lia) ?_
      rw [← List.map_append]
      walk_at "m"
      refine ⟨_, _, _, _, rfl, rfl, .tail .head, Nat.le_of_ble_eq_true rfl, ?_⟩
      rw [three_put (f' := fun m => .list ((baseOf van f (os2 ++ [(n, s, rest)]) m).map .str)) h3 (by rw [hb, if_pos rfl]) (fun m hm => by rw [hb, if_neg fun z => hm z.symm])]
      walk_at "m"
      refine ev_callB (ev_blt rfl (by boot_fast) (by decide) rfl ⟨rfl, ?_⟩ rfl) rfl rfl rfl
      refine trl_cons (ev_lc (c := fun _ => true) rest sD (fun s => .bool (decide (s ∈ van))) (by rfl) (by exact le_s hrl2 rfl) (fun _ => rfl) ?_ ?_ ?_) rfl
      ·refine src_of ?_
       walk_at "m"
       exact ⟨itb_list R.hd, rfl, rfl⟩
      ·intro cl Ca acc pre s post hsp
       refine asg_name rfl (ts_nil ⟨rfl, rfl, fun _ => ?_⟩)
       walk_at "m"
       refine op_in (n := 0) (R' _) .data (okSy 0 (hrest s (by rw [hsp]; simp))) (okSys 0 hv) (by decide) ⟨?_, rfl⟩
       rw [anySy]
      ·rw [filter_all]
       walk_at "m"
       refine ol_all (bs := rest.map fun s => decide (s ∈ van)) R.hd (by rw [List.map_map]; exact .data) (ob_bool ?_)
       have hall : ((rest.map fun s => decide (s ∈ van)).all id) = rest.all fun s => decide (s ∈ van) := by rw [List.all_map]; rfl
       rw [hall]
       have hsub : Sub [("rest", D.list (rest.map sD)), ("s", sD s), ("place", D.int (i : Nat)), ("symbols", D.list (r.map sD)), ("name", sD n), ("ends", D.raw (.ref o)), ("base", D.raw (.ref a)), ("host", qsD host), ("vanish", rowD van), ("letters", D.dct (letD f))] (("symbols", .list (r.map sD)) :: ("name", sD n) :: ρ0) := .cons rfl (.cons rfl (.cons rfl (.cons rfl (.cons rfl (.cons rfl (.cons rfl .nil))))))
       cases hA : rest.all fun s => decide (s ∈ van) with
       | false =>
        refine ite_f rfl (exs_nil (exs_nil (exs_nil ⟨hsub, ?_⟩)))
        have : ∀ m, endsOf van (os2 ++ [(n, s, rest)]) m = endsOf van os2 m := fun m => by rw [he, if_neg (fun z => by rw [hA] at z; cases z.2)]
        simp only [ω0, this, strsD]
       | true =>
        refine ite_t rfl ?_
        walk_at "m"
        refine ev_sub ?_
        walk_at "m"
        refine op_dget (.cell (.head _)) (three_at _ h3) ?_ (fun _ _ => rfl)
        refine ev_list ?_
        walk_at "m"
        unfold rowD
        refine op_addl .data .data (by have := ends_len (van := van) (n := s) os2; simp; exact le_s (Nat.add_le_add_right (Nat.le_trans this hl1) _) rfl) ?_
        walk_at "m"
        refine ⟨_, _, _, _, rfl, rfl, .head, Nat.le_of_ble_eq_true rfl, ?_⟩
        rw [three_put (f' := fun m => .list ((endsOf van (os2 ++ [(n, s, rest)]) m).map sD)) h3 (by rw [he, if_pos ⟨rfl, hA⟩, List.map_append]; rfl) (fun m hm => by rw [he, if_neg fun z => hm z.1.symm])]
        exact exs_nil (exs_nil (exs_nil ⟨hsub, rfl⟩))
    ·rw [three_no _ s (hr s hs) h3]
     refine ite_f rfl (exs_nil (exs_nil ⟨.cons rfl (.cons rfl (.cons rfl (.cons rfl (.cons rfl (.cons rfl (.cons rfl .nil)))))), ?_⟩))
     have hn : ∀ m, Three m → s ≠ m := fun m hm z => h3 (z ▸ hm)
     have e2 : threeD (fun m => rowD (endsOf van (os2 ++ [occ n r (s, i)]) m)) = threeD (fun m => rowD (endsOf van os2 m)) := three_congr fun m hm => congrArg rowD ((he m).trans (if_neg fun z => hn m hm z.1))
     have e3 : threeD (fun m => strsD (baseOf van f (os2 ++ [occ n r (s, i)]) m)) = threeD (fun m => strsD (baseOf van f os2 m)) := three_congr fun m hm => congrArg strsD ((hb m).trans (if_neg fun z => hn m hm z))
     simp only [ω0, e2, e3]
   ·exact ⟨.cons rfl (.cons rfl (.cons rfl (.cons rfl (.cons rfl .nil)))), rfl⟩
  have hb : ∀ n, (baseOf van f (occs host) n).length ≤ 40000 := fun n => by
   have h1 := base_len (van := van) (n := n) hf (occ_len H.len)
   have h2 := occs_len H.len
   have h3 := H.few
   lia
  have he : ∀ n, (endsOf van (occs host) n).length ≤ 24 := fun n => by
   have h1 := ends_len (van := van) (n := n) (occs host)
   have h2 := occs_len H.len
   have h3 := H.few
   exact le_c (Nat.le_trans h1 (Nat.le_trans h2 (Nat.mul_le_mul_left _ h3))) rfl
  have hm : ∀ n, ∀ c ∈ endsOf van (occs host) n, c = 83 ∨ c = 65 := fun n c hc => by
   obtain ⟨x, hx, rfl⟩ := List.mem_map.mp hc
   obtain ⟨q, hq, i, c, _, rfl⟩ := occ_mem (List.mem_filter.mp hx).1
   exact H.lhs q hq
  show QSeq _ _ _ _ _ _ ⟨ρ0, (o, .dct (threeD (fun n => rowD (endsOf van (occs host) n)))) :: (a, .dct (threeD (fun n => strsD (baseOf van f (occs host) n)))) :: σ.ω⟩
  generalize baseOf van f (occs host) = b at hb p ⊢
  generalize endsOf van (occs host) = e at he hm p ⊢
  have hsy : ∀ n, ∀ c ∈ e n, c ∈ symCodes := fun n c hc => by rcases hm n c hc with rfl | rfl <;> decide
  have hS : (folS b e).length ≤ 80000 := by
   have := hb 83; have := hb 65
   unfold folS; rw [List.length_append]; split <;> simp <;> lia
  have hA : (folA b e).length ≤ 80000 := by
   have := hb 83; have := hb 65
   unfold folA; rw [List.length_append]; split <;> simp <;> lia
  try dsimp only
  walk_at "m"
  refine ev_dictC fun h => ?_
  try dsimp only
  walk_at "m"
  refine ev_sub ?_
  walk_at "m"
  refine op_dget (x := strsD (b 83)) (.cell (by walk_at "mem")) rfl ?_ (fun _ _ => rfl)
  refine ev_cut (strsD (if 65 ∈ e 83 then b 65 else [])) ?_ ?_
  ·walk_at "m"
   refine ev_sub ?_
   walk_at "m"
   refine op_dget (x := rowD (e 83)) (.cell (by walk_at "mem")) rfl ?_ (fun _ _ => rfl)
   refine op_in (n := 0) (x := sD 65) (R' _) .data (okSy 0 (by decide)) (okSys 0 (hsy 83)) (by decide) (ob_bool ?_)
   rw [anySy]
   by_cases h : 65 ∈ e 83
   ·refine ite_t (by simp [h]) ?_
    rw [if_pos h]
    refine ev_sub ?_
    walk_at "m"
    exact op_dget (x := strsD (b 65)) (.cell (by walk_at "mem")) rfl ⟨rfl, rfl⟩ (fun _ _ => rfl)
   ·refine ite_f (by simp [h]) ?_
    rw [if_neg h]
    exact ev_list (trl_nil ⟨Nat.le_of_ble_eq_true rfl, rfl, rfl⟩)
  unfold strsD
  refine op_addl .data .data (by have := hb 83; have := hb 65; split <;> simp <;> lia) ?_
  rw [← List.map_append]
  walk_at "m"
  refine ⟨_, _, _, _, rfl, rfl, .head, Nat.zero_le _, ?_⟩
  have e3 : put [] ("S" : Str) (.list ((b 83 ++ (if 65 ∈ e 83 then b 65 else [])).map .str)) = [(("S" : Str), strsD (folS b e))] := by kernel_rfl
  rw [e3]
  walk_at "m"
  refine ev_sub ?_
  walk_at "m"
  refine op_dget (x := strsD (b 65)) (.cell (by walk_at "mem")) rfl ?_ (fun _ _ => rfl)
  refine ev_cut (strsD (if 83 ∈ e 65 then b 83 else [])) ?_ ?_
  ·walk_at "m"
   refine ev_sub ?_
   walk_at "m"
   refine op_dget (x := rowD (e 65)) (.cell (by walk_at "mem")) rfl ?_ (fun _ _ => rfl)
   refine op_in (n := 0) (x := sD 83) (R' _) .data (okSy 0 (by decide)) (okSys 0 (hsy 65)) (by decide) (ob_bool ?_)
   rw [anySy]
   by_cases h : 83 ∈ e 65
   ·refine ite_t (by simp [h]) ?_
    rw [if_pos h]
    refine ev_sub ?_
    walk_at "m"
    exact op_dget (x := strsD (b 83)) (.cell (by walk_at "mem")) rfl ⟨rfl, rfl⟩ (fun _ _ => rfl)
   ·refine ite_f (by simp [h]) ?_
    rw [if_neg h]
    exact ev_list (trl_nil ⟨Nat.le_of_ble_eq_true rfl, rfl, rfl⟩)
  unfold strsD
  refine op_addl .data .data (by have := hb 83; have := hb 65; split <;> simp <;> lia) ?_
  rw [← List.map_append]
  walk_at "m"
  refine ⟨_, _, _, _, rfl, rfl, .head, Nat.le_of_ble_eq_true rfl, ?_⟩
  have e4 : put [(("S" : Str), D.list ((folS b e).map .str))] ("A" : Str) (.list ((b 65 ++ (if 83 ∈ e 65 then b 83 else [])).map .str)) = [(("S" : Str), strsD (folS b e)), ("A", strsD (folA b e))] := by kernel_rfl
  rw [e4]
  walk_at "m"
  refine ev_sub ?_
  walk_at "m"
  refine op_dget (x := strsD (b 84)) (.cell (by walk_at "mem")) rfl ?_ (fun _ _ => rfl)
  have h2 : ∀ n, (fol2 b e n).length ≤ 80000 := fun n => by unfold fol2; split <;> assumption
  have hfl : ((e 84).flatMap fun n => (fol2 b e n).map D.str) = ((e 84).flatMap (fol2 b e)).map .str := by rw [List.map_flatMap]
  have hfn : ((e 84).flatMap (fol2 b e)).length ≤ 80000 * 24 := Nat.le_trans (flat_len fun n _ => h2 n) (Nat.mul_le_mul_left _ (he 84))
  refine ev_lc2 (e 84) sD (fun _ => true) (fun n => (fol2 b e n).map .str) (by rfl) (by rw [filter_all, hfl, List.length_map]; exact le_s (Nat.le_trans hfn (Nat.mul_le_mul_left _ (Nat.le_refl _))) rfl) (fun _ => rfl) (fun _ _ => rfl) (fun _ _ => rfl) (fun _ _ => rfl) rfl rfl ?_ ?_ ?_
  ·refine src_of (ev_sub ?_)
   walk_at "m"
   exact op_dget (x := rowD (e 84)) (.cell (by walk_at "mem")) rfl ⟨itb_list R.hd, rfl, rfl⟩ (fun _ _ => rfl)
  ·intro cl Ca acc pre n post hsp
   refine asg_name rfl (ts_nil ⟨rfl, rfl, fun _ => src_of (ev_sub ?_)⟩)
   walk_at "m"
   refine op_dget (x := strsD (fol2 b e n)) (.cell (.tail _ (.head _))) ?_ ⟨itb_list R.hd, rfl⟩ (fun _ _ => rfl)
   rcases hm 84 n (by rw [hsp]; simp) with rfl | rfl <;> kernel_rfl
  ·rw [filter_all, hfl]
   unfold strsD
   refine op_addl .data .data (by have := hb 84; simp only [List.length_append, List.length_map]; exact le_s (Nat.add_le_add this (Nat.le_trans hfn (Nat.mul_le_mul_left _ (Nat.le_refl _)))) rfl) ?_
   rw [← List.map_append]
   walk_at "m"
   refine ⟨_, _, _, _, rfl, rfl, .head, Nat.le_of_ble_eq_true rfl, ?_⟩
   have e5 : put [(("S" : Str), D.list ((folS b e).map .str)), ("A", D.list ((folA b e).map .str))] ("T" : Str) (.list ((b 84 ++ (e 84).flatMap (fol2 b e)).map .str)) = threeD (fun n => strsD (folOf b e n)) := by kernel_rfl
   rw [e5]
   exact exs_cons (ex_ret (tr_drop (tr_fzD (ev_var rfl rfl ⟨h, _, _, rfl, rfl, σ.ω, .cons _ (.cons _ (.refl _)), p⟩ rfl rfl))))
noncomputable abbrev aProd : Addr := 100
noncomputable def prodArgs (sh : Bool) (n : Int) (p : Str × List Str) : List D := match sh with
 | true => [.int n, .str p.1, .list (p.2.map .str)]
 | false => [.int n, .str p.1, .list (p.2.map .str), .tup [.str "right", .int 0], .none, .str "", .int 0]
set_option maxHeartbeats 2000000 in
theorem prodInit_ok {sh : Bool} {n : Int} {p : Str × List Str} {a : Addr} {k : Nat} {ω : Om} (R : ARoom (k + 1) A) (hw : σ.ω = (a, .dct []) :: ω) (hz : p.2.length ≤ 1000) (hs : ∀ s ∈ p.2, s.length ≤ 100 ∧ PyData.strOk s = true) (hn : p.1.length ≤ 100)
  (pp : ∀ u, P .none ⟨σ.ρ, (u, .lst ((usymsF p.2).map .str)) :: (a, .dct (prodB (.raw (.ref u)) n p)) :: ω⟩) :
  OpC (X3 w mg mb fr) A env σ 62 (.obj aProd a :: prodArgs sh n p) P := by
 refine fn_callC (dbs := [("self", .obj aProd a), ("number", .int n), ("name", .str p.1), ("prod", .list (p.2.map .str)), ("precedence", .tup [.str "right", .int 0]), ("func", .none), ("file", .str ""), ("line", .int 0)]) ⟨⟨_, _, _, rfl⟩, rfl, rfl, rfl, rfl, rfl, rfl, rfl, rfl, rfl, rfl, rfl, rfl⟩ R.room ?_ rfl rfl ?_
 ·intro s b vs T hb r
  obtain ⟨v1, _, rfl, r1, r⟩ := r.inv
  cases sh with
  | false =>
   obtain ⟨v2, _, rfl, r2, r⟩ := r.inv
   obtain ⟨v3, _, rfl, r3, r⟩ := r.inv
   obtain ⟨v4, _, rfl, r4, r⟩ := r.inv
   obtain ⟨v5, _, rfl, r5, r⟩ := r.inv
   obtain ⟨v6, _, rfl, r6, r⟩ := r.inv
   obtain ⟨v7, _, rfl, r7, r⟩ := r.inv
   obtain ⟨v8, _, rfl, r8, r⟩ := r.inv
   obtain rfl := r.inv0
   exact ⟨_, binds_K (T.inK.keeps hb) rfl rfl rfl rfl rfl, .cons r1 (.cons r2 (.cons r3 (.cons r4 (.cons r5 (.cons r6 (.cons r7 (.cons r8 .nil)))))))⟩
  | true =>
   obtain ⟨v2, v3, v4, rfl, r2, r3, r4⟩ := r.i_three
   exact ⟨_, binds_K (T.inK.keeps hb) rfl rfl rfl rfl rfl, .cons r1 (.cons r2 (.cons r3 (.cons r4 (.cons (.tup (T.inK 54 _ rfl) (.cons (.str ..) (.cons (.int ..) .nil))) (.cons .none (.cons (.str ..) (.cons (.int ..) .nil)))))))⟩
 ·intro L
  rw [hw]
  try dsimp only
  refine exs_let ?_; intro X' A' e' q'
  have R' : ∀ e, ARoom k (A.deeper e) := fun e => R.deeper
  have hsl' := hsl
  walk_at "m"
  refine ev_callT (ev_blt rfl (by boot_fast) (by decide) rfl ⟨rfl, ?_⟩ rfl) rfl rfl rfl
  walk_at "m"
  refine ol_tupOf .data (by simp; exact le_s hz rfl) ?_
  walk_at "m"
  refine ev_callB (ev_blt rfl (by boot_fast) (by decide) rfl ⟨rfl, ?_⟩ rfl) rfl rfl rfl
  walk_at "m"
  refine ol_lenT (by simp; exact le_s hz rfl) ?_
  walk_at "m"
  refine ev_listC (trl_nil ⟨Nat.le_of_ble_eq_true rfl, fun u => ?_⟩)
  try dsimp only
  walk_at "m"
  refine ex_forL p.2 D.str (fun pre => [("self", .obj aProd a), ("number", .int n), ("name", .str p.1), ("prod", .list (p.2.map .str))])
   (fun pre => (u, .lst ((usymsF pre).map .str)) :: (a, .dct [("name", .str p.1), ("prod", .tup (p.2.map .str)), ("number", .int n), ("func", .none), ("callable", .none), ("file", .str ""), ("line", .int 0), ("prec", .tup [.str "right", .int 0]), ("len", .int (p.2.map D.str).length), ("usyms", .raw (.ref u))]) :: ω) ?_ ?_ ?_ (fun _ => rfl)
  ·refine src_of ?_
   walk_at "m"
   exact ⟨itb_tup R.hd, .cons rfl (.cons rfl (.cons rfl (.cons rfl .nil))), rfl⟩
  ·intro pre s post e
   have hs' := hs s (by rw [e]; simp)
   have hpre : (usymsF pre).length ≤ 1000 := by
    have h1 := usymsF_len pre
    have h2 := congrArg List.length e
    simp at h2; exact le_c (Nat.le_trans h1 (Nat.le_trans (mid_l h2) hz)) rfl
   have hst : usymsF (pre ++ [s]) = usymT (usymsF pre) s := by simp [usymsF]
   have hus : ∀ x ∈ usymsF pre, PyData.strOk x = true := fun x hx => (hs x (by rw [e]; simp [usymsF_mem x hx])).2
   rw [hst]
   generalize usymsF pre = us at hpre hus ⊢
   refine asg_name rfl ?_
   try dsimp only
   walk_at "m"
   refine op_notin (n := 0) (R' _) (.cell (by walk_at "mem")) hs'.2 (ok_strs hus 0) (by decide) (ob_bool (ite_b (fun h1 => ?_) (fun h1 => ?_)))
   ·rw [any_str] at h1
    have h2 : usymT us s = us ++ [s] := by unfold usymT; rw [if_neg]; intro z; rw [z] at h1; exact fet h1
    rw [h2]
    walk_at "m"
    refine ev_meth (T := "list") (id := "list.append") ?_ F.plainAttrs_list F.slot_list_append F.type_list_append rfl rfl rfl rfl rfl
    walk_at "m"
    refine ⟨isTy_lst (.cell (by walk_at "mem")), ?_⟩
    walk_at "m"
    refine ol_append .head (by simp; exact le_s hpre rfl) ⟨rfl, ?_⟩
    walk_at "m"
    exact ⟨.cons rfl (.cons rfl (.cons rfl (.cons rfl .nil))), by simp⟩
   ·rw [any_str] at h1
    have h2 : usymT us s = us := by unfold usymT; rw [if_pos]; simpa using h1
    rw [h2]
    walk_at "m"
    exact ⟨.cons rfl (.cons rfl (.cons rfl (.cons rfl .nil))), rfl⟩
  ·walk_at "m"
   refine ev_list (trl_nil ⟨Nat.le_of_ble_eq_true rfl, ?_⟩)
   walk_at "m"
   have hpp := pp u
   refine ob_tup (by simp; exact le_s hz rfl) (ite_b (fun h1 => ?_) (fun h1 => ?_))
   ·have hstr : prodStr p = p.1 ++ PySem.Str.ofString " -> " ++ Txt.join (PySem.Str.ofString " ") p.2 := by
     unfold prodStr; rw [if_neg]; simpa using h1
    walk_at "m"
    refine ev_joined (trj_cons (ev_fmt_str ?_) rfl)
    walk_at "m"
    refine ⟨_, rfl, by exact le_s hn rfl, _, rfl, ?_, trj_cons (ev_str ⟨_, rfl, ?_, trj_cons (ev_fmt_str ?_) rfl⟩) rfl⟩
    ·rw [empty_app']; exact le_s hn rfl
    ·rw [empty_app', PySem.Str.length_append]
     have : (PySem.Str.ofString " -> ").length = 4 := by decide +kernel
     exact le_s (Nat.add_le_add hn (Nat.le_of_eq this)) rfl
    ·refine ev_meth (T := "str") (id := "str.join") (ev_str ⟨isTy_str, ?_⟩) F.plainAttrs_str F.slot_str_join F.type_str_join rfl rfl rfl rfl rfl
     walk_at "m"
     have hj := join_len hz hs
     refine ol_join hj.1 ⟨_, rfl, by exact le_s hj.2 rfl, _, rfl, ?_, trj_nil ⟨?_, ?_⟩⟩
     ·rw [empty_app', PySem.Str.length_append, PySem.Str.length_append]
      have : (PySem.Str.ofString " -> ").length = 4 := by decide +kernel
      exact le_s (Nat.add_le_add (Nat.add_le_add hn (Nat.le_of_eq this)) hj.2) rfl
     ·rw [empty_app', PySem.Str.length_append, PySem.Str.length_append]
      have : (PySem.Str.ofString " -> ").length = 4 := by decide +kernel
      exact le_s (Nat.add_le_add (Nat.add_le_add hn (Nat.le_of_eq this)) hj.2) rfl
     ·rw [empty_app']
      walk_at "m"
      rw [← hstr]
      exact hpp
   ·have hstr : prodStr p = p.1 ++ PySem.Str.ofString " -> <empty>" := by
     unfold prodStr; rw [if_pos]; simpa using h1
    rw [← (by decide +kernel : fmtE = PySem.Str.ofString "%s -> <empty>")]
    walk_at "m"
    refine op_pct_e (by exact le_c hn rfl) ?_
    walk_at "m"
    rw [← hstr]
    exact hpp
noncomputable def identS : Str := "abcdefghijklmnopqrstuvwxyzABCDEFGHIJKLMNOPQRSTUVWXYZ0123456789_-"
theorem ident_occ : ∀ c ∈ symCodes, (Builtin.Str.occurrences identS (symS c) 0 identS.length 1).isEmpty = false := by decide +kernel
theorem sym_ascii : ∀ c ∈ symCodes, (symS c).cps.all (· < 128) = true := by decide +kernel
theorem ident_ok {c : Nat} {k : Nat} (R : ARoom (k + 1) A) (hc : c ∈ symCodes) (p : P (.bool true) σ) : OpL (X3 w mg mb fr) A env σ (fun vs => call (.ref 39) vs) [.str (symS c)] P := by
 refine fn_call (dbs := [("s", .str (symS c))]) ⟨⟨_, _, _, rfl⟩, rfl, rfl, rfl, rfl, rfl, rfl, rfl, rfl, rfl, rfl, rfl, rfl⟩ R.room ?_ rfl rfl ?_
 ·intro s b vs T hb r
  obtain ⟨v1, rfl, r1⟩ := r.i_one
  exact ⟨_, BindsTo.of_eq rfl, .cons r1 .nil⟩
 ·intro L
  try dsimp only
  refine exs_let ?_; intro X' A' e' q'
  walk_at "m"
  refine ev_and ?_
  walk_at "m"
  refine ev_callB (ev_blt rfl (by boot_fast) (by decide) rfl ⟨rfl, ?_⟩ rfl) rfl rfl rfl
  walk_at "m"
  refine ol_lenS (Nat.le_of_ble_eq_true rfl) ?_
  walk_at "m"
  refine op_gt ?_
  refine ob_bool (ite_t rfl (ev_one ?_))
  refine ev_callB (ev_blt rfl (by boot_fast) (by decide) rfl ⟨rfl, trl_cons (ev_lc [c] (fun c => .str (symS c)) (fun _ => true) (fun _ => .bool true) (by rfl) (Nat.le_of_ble_eq_true rfl) (fun _ => rfl) ?_ ?_ ?_) rfl⟩ rfl) rfl rfl rfl
  ·refine src_of ?_
   walk_at "m"
   exact ⟨itb_str R.hd (sym_ascii c hc), rfl, rfl⟩
  ·intro cl C acc pre s post e
   have hs : s = c := by
    have h1 : s ∈ [c] := by rw [e]; simp
    simpa using h1
   subst hs
   refine asg_name rfl (ts_nil ⟨rfl, rfl, fun _ => ?_⟩)
   refine ev_cmp ?_ rfl
   walk_at "m"
   refine ev_glob (d := .str identS) rfl (fun b T => .str ..) rfl ?_ rfl
   refine op_instr ?_
   rw [ident_occ s hc]
   exact ⟨rfl, rfl⟩
  ·exact trl_nil (ol_all (bs := [true]) R.hd .data p)
theorem right_ok {ss : List Str} {t : Addr} {kds : List (Str × D)} {k : Nat} (R : ARoom (k + 1) A) (hz : ss.length ≤ 1000) (ht : (t, C.dct kds) ∈ σ.ω) (p : ∀ s, P (.str s) σ) (p0 : P .none σ) :
  OpL (X3 w mg mb fr) A env σ (fun vs => call (.ref 111) vs) [.list (ss.map .str), .raw (.ref t)] P := by
 refine fn_call (dbs := [("symbols", .list (ss.map .str)), ("terminals", .raw (.ref t))]) ⟨⟨_, _, _, rfl⟩, rfl, rfl, rfl, rfl, rfl, rfl, rfl, rfl, rfl, rfl, rfl, rfl⟩ R.room ?_ rfl rfl ?_
 ·intro s b vs T hb r
  obtain ⟨v1, v2, rfl, r1, r2⟩ := r.i_two
  exact ⟨_, BindsTo.of_eq rfl, .cons r1 (.cons r2 .nil)⟩
 ·intro L
  try dsimp only
  refine exs_let ?_; intro X' A' e' q'
  have hsl' := hsl
  walk_at "m"
  refine ev_callB (ev_blt rfl (by boot_fast) (by decide) rfl ⟨rfl, ?_⟩ rfl) rfl rfl rfl
  walk_at "m"
  refine ol_len .data (by simp; exact le_s hz rfl) ?_
  walk_at "m"
  refine op_sub ?_
  walk_at "m"
  let Iv1 : Nat → Sg → Prop := fun n σ' => n ≤ ss.length ∧ Sub σ'.ρ [("i", .int ((n : Int) - 1)), ("symbols", .list (ss.map .str)), ("terminals", .raw (.ref t))] ∧ σ'.ω = σ.ω
  refine ex_while Iv1 ss.length ⟨Nat.le_refl _, ?_, rfl⟩ ?_
  ·exact .cons (by simp [List.lookup_cons]) (.cons rfl (.cons rfl .nil))
  ·rintro n ⟨ρ', ω'⟩ ⟨hn, hsub, hω⟩
   dsimp only at hsub hω
   subst hω
   refine TrB.sub hsub ?_
   walk_at "m"
   refine op_ge (ob_bool (ite_b (fun h1 => ?_) (fun h1 => ?_)))
   ·have hn1 : 1 ≤ n := by
     have : (1 : Int) ≤ n := by simpa using h1
     lia
    have hi : ((n : Int) - 1).toNat < ss.length := by lia
    have hx : (ss.map D.str)[((n : Int) - 1).toNat]? = some (.str (ss[((n : Int) - 1).toNat])) := by simp [hi]
    walk_at "m"
    refine ev_sub ?_
    walk_at "m"
    refine op_item .data (by lia) hx (by simp; exact le_s hz rfl) ?_ (fun _ _ => rfl)
    walk_at "m"
    refine op_din (.cell ht) (ob_bool (ite_b (fun h2 => ?_) (fun h2 => ?_)))
    ·walk_at "m"
     refine ev_sub ?_
     walk_at "m"
     exact op_item .data (by lia) hx (by simp; exact le_s hz rfl) (p _) (fun _ _ => rfl)
    ·walk_at "m"
     refine ex_aug_sub (m := 1) rfl rfl ?_
     walk_at "m"
     refine ⟨rfl, ?_⟩
     walk_at "m"
     refine ⟨n - 1, by lia, by lia, ?_, rfl⟩
     refine .cons ?_ (.cons rfl (.cons rfl .nil))
     simp [List.lookup_cons]; lia
   ·walk_at "m"
    exact p0
theorem prod_call {sh : Bool} {n : Int} {p : GPr} {k : Nat} (R : ARoom (k + 2) A) (hz : p.2.length ≤ 1000) (hs : ∀ s ∈ p.2, s.length ≤ 100 ∧ PyData.strOk s = true) (hn : p.1.length ≤ 100) (pp : P (.inst aProd (prodA n p)) σ) :
  OpL (X3 w mg mb fr) A env σ (fun vs => call (.ref aProd) vs) (prodArgs sh n p) P := by
 refine ol_refreeze (cls_call (fI := 62) rfl rfl rfl fun a A' h1 h2 h3 h4 => ?_)
 refine prodInit_ok (R.made h1 h2 h3 h4) rfl hz hs hn fun u => ⟨rfl, [u, a], .inst aProd (prodA n p), σ.ω, ?_, ?_, ?_, pp⟩
 ·intro x hx
  rcases List.mem_cons.mp hx with rfl | hx
  ·simp
  ·rw [List.mem_singleton.mp hx]; simp
 ·intro hnd
  simp only [List.map_cons, List.nodup_cons, List.mem_cons, not_or] at hnd
  refine ⟨fun q hq => ⟨?_, q.2, .tail _ (.tail _ hq), RetC.same _⟩, hnd.2.2⟩
  have hm := List.mem_map_of_mem (f := (·.1)) hq
  intro z
  rcases List.mem_cons.mp z with z | z
  ·exact hnd.1.2 (z ▸ hm)
  ·rw [List.mem_singleton] at z; exact hnd.2.1 (z ▸ hm)
 ·refine Ret.inst (ds := prodB (.raw (.ref u)) n p) (.tail _ (.head _)) (by simp) ?_
  refine .cons (.same _) (.cons (.same _) (.cons (.same _) (.cons (.same _) (.cons (.same _) (.cons (.same _) (.cons (.same _) (.cons (.same _) (.cons (.same _) (.cons (.lst (.head _) (by simp) (RetAll.same _)) (.cons (.same _) (.cons (.same _) (.cons (.same _) .nil))))))))))))
noncomputable abbrev aGr : Addr := 246
theorem perm_turn {α : Type} (d pr pn pm te no fi fo e : α) (T W : List α) : (d :: pr :: pn :: pm :: te :: no :: fi :: fo :: ((T ++ [e]) ++ W)).Perm (fo :: fi :: no :: e :: (T.reverse ++ te :: pm :: pn :: pr :: d :: W)) := by
 have h := ((List.perm_append_comm (l₁ := [no, fi, fo]) (l₂ := T ++ [e])).append_left [d, pr, pn, pm, te]).trans (List.reverse_perm _).symm
 have h2 := h.append_right W
 simpa using h2
theorem gram_call {ts : List Str} {k : Nat} (R : ARoom (k + 2) A) (hz : ts.length ≤ 1000) (hn : ts.Nodup) (he : ("error" : Str) ∉ ts)
  (pp : ∀ g TT, TT.map (·.1) = ts ++ [("error" : Str)] → (∀ e ∈ TT, e.2.2 = []) → P (.obj aGr g.d) ⟨σ.ρ, ωG g [.none] [] TT [] [] σ.ω⟩) :
  OpL (X3 w mg mb fr) A env σ (fun vs => call (.ref aGr) vs) [.list (ts.map .str)] P := by
 refine ol_perm (cls_call (fI := 137) rfl rfl rfl fun d A' h1 h2 h3 h4 => ?_)
 have R1 : ARoom (k + 1) A' := R.made h1 h2 h3 h4
 refine fn_callC (dbs := [("self", .obj aGr d), ("terminals", .list (ts.map .str))]) ⟨⟨_, _, _, rfl⟩, rfl, rfl, rfl, rfl, rfl, rfl, rfl, rfl, rfl, rfl, rfl, rfl⟩ R1.room ?_ rfl rfl ?_
 ·intro s b vs T hb r
  obtain ⟨v1, v2, rfl, r1, r2⟩ := r.i_two
  exact ⟨_, BindsTo.of_eq rfl, .cons r1 (.cons r2 .nil)⟩
 ·intro L
  have hsl' := hsl
  try dsimp only
  refine exs_let ?_; intro X' A' e' q'
  walk_at "m"
  refine ev_listC ?_
  walk_at "m"
  intro pr
  try dsimp only
  walk_at "m"
  refine ev_dictC fun pn => ?_
  try dsimp only
  walk_at "m"
  refine ev_dictC fun pm => ?_
  try dsimp only
  walk_at "m"
  refine ev_dictC fun te => ?_
  try dsimp only
  walk_at "m"
  let Iv1 : PI ts := fun pre σ' => ∃ TT : List NE, TT.map (·.1) = pre ∧ (∀ e ∈ TT, e.2.2 = []) ∧ Sub σ'.ρ [("self", .obj aGr d), ("terminals", .list (ts.map .str))] ∧
   σ'.ω = TT.reverse.map cE ++ ((te, .dct (TT.map dE)) :: (pm, .dct []) :: (pn, .dct []) :: (pr, .lst [.none]) :: (d, .dct [("Productions", .raw (.ref pr)), ("Prodnames", .raw (.ref pn)), ("Prodmap", .raw (.ref pm)), ("Terminals", .raw (.ref te))]) :: σ.ω)
  refine ex_forP ts D.str Iv1 ?_ ?_ ?_ (fun _ => rfl)
  ·refine src_of ?_
   walk_at "m"
   exact ⟨itb_list R1.hd, [], rfl, by simp, .cons rfl (.cons rfl .nil), rfl⟩
  ·rintro pre x post ⟨ρ', ω'⟩ hsp ⟨TT, hk, he', hsub, hω⟩
   dsimp only at hsub hω
   subst hω
   refine Asg.sub hsub ?_
   refine asg_name rfl ?_
   try dsimp only
   walk_at "m"
   refine ev_listC (trl_nil ⟨Nat.le_of_ble_eq_true rfl, fun a => ?_⟩)
   try dsimp only
   walk_at "m"
   have hx : x ∉ TT.map (·.1) := by
    rw [hk]; intro z
    rw [hsp] at hn
    exact (List.nodup_append.mp hn).2.2 x z x (.head _) rfl
   refine ⟨_, _, _, _, rfl, rfl, .tail (Upd.skip _ .head), ?_, ?_⟩
   ·have : (TT.map (·.1)).length ≤ ts.length := by rw [hk, hsp]; simp
    simp at this ⊢; exact le_s (Nat.le_trans this hz) rfl
   ·rw [put_new (dE_none hx)]
    walk_at "m"
    refine ⟨TT ++ [(x, a, [])], by simp [hk], ?_, .cons rfl (.cons rfl .nil), by simp [cE, dE]⟩
    intro e he2
    rcases List.mem_append.mp he2 with he2 | he2
    ·exact he' e he2
    ·rw [List.mem_singleton.mp he2]
  ·rintro ⟨ρ', ω'⟩ ⟨TT, hk, he', hsub, hω⟩
   dsimp only at hsub hω
   subst hω
   refine TrF.sub hsub ?_
   walk_at "m"
   refine ev_listC (trl_nil ⟨Nat.le_of_ble_eq_true rfl, fun er => ?_⟩)
   try dsimp only
   walk_at "m"
   have hx : ("error" : Str) ∉ TT.map (·.1) := by rw [hk]; exact he
   refine ⟨_, _, _, _, rfl, rfl, .tail (Upd.skip _ .head), ?_, ?_⟩
   ·have : (TT.map (·.1)).length ≤ ts.length := by rw [hk]; simp
    simp at this ⊢; exact le_s (Nat.le_trans this hz) rfl
   rw [put_new (dE_none hx)]
   try dsimp only
   walk_at "m"
   refine ev_dictC fun no => ?_
   try dsimp only
   walk_at "m"
   refine ev_dictC fun fi => ?_
   try dsimp only
   walk_at "m"
   refine ev_dictC fun fo => ?_
   try dsimp only
   walk_at "m"
   refine ev_dict0 ?_
   walk_at "m"
   refine ev_callT0 (ev_blt rfl (by boot_fast) (by decide) rfl ⟨rfl, ol_set0 fun us => ?_⟩ rfl) rfl
   walk_at "m"
   refine ⟨rfl, _, ?_, pp ⟨d, pr, pn, pm, te, no, fi, fo, us, .none⟩ (TT ++ [(("error" : Str), er, [])]) (by simp [hk]) ?_⟩
   ·simp only [ωG, selfD, List.map_append, List.map_cons, List.map_nil, List.map_reverse, dE, cE, List.append_nil, List.nil_append]
    exact perm_turn _ _ _ _ _ _ _ _ _ _ _
   ·intro e he2
    rcases List.mem_append.mp he2 with he2 | he2
    ·exact he' e he2
    ·rw [List.mem_singleton.mp he2]
theorem exs_cut {X : Cx} {st : Stmt} {rest : List Stmt} (I : Sg → Prop) (h1 : Ex X A env σ st (fun f σ' => f = .next ∧ I σ')) (h2 : ∀ σ', I σ' → Exs X A env σ' rest Q) : Exs X A env σ (st :: rest) Q :=
 exs_cons (TrF.mono h1 fun f σ' ⟨hf, hi⟩ => by subst hf; exact h2 σ' hi)
theorem quote_occ : ∀ c ∈ symCodes, (Builtin.Str.occurrences ("'\"" : Str) (symS c) 0 ("'\"" : Str).length 1).isEmpty = true := by decide +kernel
theorem not_prec : ∀ c ∈ symCodes, (symS c == ("%prec" : Str)) = false := by decide +kernel
theorem not_error : ∀ c ∈ symCodes, (symS c == ("error" : Str)) = false := by decide +kernel
theorem precOk : PyData.strOk ("%prec" : Str) = true := by decide +kernel
theorem errorOk : PyData.strOk ("error" : Str) = true := by decide +kernel
set_option maxHeartbeats 4000000
theorem perm_pull {α : Type} (c : α) (L T N P W : List α) : (L ++ (T ++ (N ++ ((P ++ [c]) ++ W)))).Perm (c :: (L ++ (T ++ (N ++ (P ++ W))))) := by
 rw [List.append_assoc]
 exact ((((List.perm_middle (a := c) (l₁ := P) (l₂ := W)).append_left N).trans List.perm_middle |>.append_left T).trans List.perm_middle |>.append_left L).trans List.perm_middle
theorem addp_ok {g : GA} {ts : List Str} {qs : List CPr} {q : CPr} {TT NT PN : List NE} {ω : Om} {k : Nat} (R : ARoom (k + 4) A) (FR : A.frames = some fr) (hts : ts.Nodup)
  (hw : σ.ω = ωG g (.none :: psD aProd (qs.map gpr)) (pmD aProd (qs.map gpr)) TT NT PN ω) (G : GN ts (qs.map gpr) (20 * qs.length) TT NT) (GQ : GP aProd (qs.map gpr) PN)
  (hq : q.ok) (hqs : ∀ x ∈ qs, x.ok) (hnt : symS q.1 ∉ ts) (hlen : q.2.length ≤ 20) (hl2 : qs.length ≤ 1000) (hl3 : ts.length ≤ 1000) (hl4 : NT.length ≤ 1000) (hl5 : PN.length ≤ 1000) (hnew : q ∉ qs)
  (pp : ∀ TT' NT' PN', GN ts ((qs ++ [q]).map gpr) (20 * (qs ++ [q]).length) TT' NT' → GP aProd ((qs ++ [q]).map gpr) PN' → P .none ⟨σ.ρ, ωG g (.none :: psD aProd ((qs ++ [q]).map gpr)) (pmD aProd ((qs ++ [q]).map gpr)) TT' NT' PN' ω⟩) :
  OpL (X3 w mg mb fr) A env σ (fun vs => call (.ref 166) vs) [.obj aGr g.d, .str (symS q.1), .list ((q.2.map symS).map .str)] P := by
 refine ol_perm ?_
 refine fn_call (dbs := [("self", .obj aGr g.d), ("prodname", .str (symS q.1)), ("syms", .list ((q.2.map symS).map .str)), ("func", .none), ("file", .str ""), ("line", .int 0)]) ⟨⟨_, _, _, rfl⟩, rfl, rfl, rfl, rfl, rfl, rfl, rfl, rfl, rfl, rfl, rfl, rfl⟩ R.room ?_ rfl rfl ?_
 ·intro s b vs T hb r
  refine hide ?_; intro g; obtain ⟨v1, v2, v3, rfl, r1, r2, r3⟩ := r.i_three; dsimp only [g]
  exact ⟨_, binds_K (T.inK.keeps hb) rfl rfl rfl rfl rfl, .cons r1 (.cons r2 (.cons r3 (.cons .none (.cons (.str ..) (.cons (.int ..) .nil)))))⟩
 ·intro L
  have hsl' := hsl
  have R' : ∀ e, ARoom (k + 3) (A.deeper e) := fun e => R.deeper
  try dsimp only
  refine exs_let ?_; intro X' A' e' q'
  rw [hw]
  unfold ωG
  have hk : ∀ c ∈ q.2, c ∈ symCodes := hq.2
  walk_at "m"
  refine op_din (.cell (by walk_at "mem")) (ob_bool (ite_f (by rw [dE_isSome, G.tk]; simpa using hnt) ?_))
  walk_at "m"
  refine op_eq (n := 0) (R' _) (sym_strOk _ hq.1) errorOk (by decide) (ob_bool (ite_f (not_error _ hq.1) ?_))
  walk_at "m"
  refine ev_callO (ev_glob (v := .ref 39) rfl (fun _ _ => .raw _) rfl ⟨rfl, ?_⟩ rfl) rfl rfl rfl rfl
  walk_at "m"
  refine ident_ok (R' _) hq.1 (ob_bool (ite_f rfl ?_))
  walk_at "m"
  refine ex_forL (q.2.map symS).zipIdx (fun p => .tup [.int (p.2 : Nat), .str p.1]) (fun pre => [("self", .obj aGr g.d), ("prodname", .str (symS q.1)), ("syms", .list ((q.2.map symS).map .str)), ("func", .none), ("file", .str ""), ("line", .int 0)]) (fun _ => ωG g (.none :: psD aProd (qs.map gpr)) (pmD aProd (qs.map gpr)) TT NT PN ω) ?_ ?_ ?_ (fun _ => rfl)
  ·rw [← enumD_map]
   exact src_enum R.hd (ev_blt rfl (by boot_fast) (by decide) rfl ⟨rfl, ev_var rfl rfl ⟨rfl, .cons rfl (.cons rfl (.cons rfl (.cons rfl (.cons rfl (.cons rfl .nil))))), rfl⟩ rfl rfl⟩ rfl) rfl rfl
  ·rintro pre ⟨s, i⟩ post e
   obtain ⟨c, hc, rfl⟩ : ∃ c ∈ q.2, symS c = s := by
    have h1 : (s, i) ∈ (q.2.map symS).zipIdx := by rw [e]; simp
    have h2 := List.mem_map_of_mem (f := (·.1)) h1
    simpa using h2
   refine asg_tup2 R.hd rfl rfl ?_
   try dsimp only
   walk_at "m"
   refine ev_sub ?_
   walk_at "m"
   refine op_stritem (c := c) (by decide) (by decide) rfl ?_ (fun _ _ => rfl) (fun _ _ => rfl)
   walk_at "m"
   refine op_instr (ob_bool (ite_f (by rw [show (⟨#[c]⟩ : Str) = symS c from rfl, quote_occ c (hk c hc)]; rfl) ?_))
   walk_at "m"
   refine ev_callO (ev_glob (v := .ref 39) rfl (fun _ _ => .raw _) rfl ⟨rfl, ?_⟩ rfl) rfl rfl rfl rfl
   walk_at "m"
   refine ident_ok (R' _) (hk c hc) (ob_bool (ite_f rfl (ite_f rfl ?_)))
   walk_at "m"
   exact ⟨.cons rfl (.cons rfl (.cons rfl (.cons rfl (.cons rfl (.cons rfl .nil))))), rfl⟩
  ·unfold ωG
   refine exs_nil ?_
   try dsimp only
   refine exs_cut (fun σ' => Sub σ'.ρ [("prodprec", .tup [.str "right", .int 0]), ("self", .obj aGr g.d), ("prodname", .str (symS q.1)), ("syms", .list ((q.2.map symS).map .str)), ("func", .none), ("file", .str ""), ("line", .int 0)] ∧ σ'.ω = ωG g (.none :: psD aProd (qs.map gpr)) (pmD aProd (qs.map gpr)) TT NT PN ω) ?_ ?_
   ·walk_at "m"
    refine op_in (n := 0) (R' _) .data precOk (ok_strs (by intro s hs; obtain ⟨c, hc, rfl⟩ := List.mem_map.mp hs; exact sym_strOk c (hk c hc)) 0) (by decide) (ob_bool (ite_f ?_ ?_))
    ·rw [any_str, List.any_eq_false]
     intro s hs
     obtain ⟨c, hc, rfl⟩ := List.mem_map.mp hs
     rw [not_prec c (hk c hc)]; simp
    walk_at "m"
    refine ev_callO (ev_glob (v := .ref 111) rfl (fun _ _ => .raw _) rfl ⟨rfl, ?_⟩ rfl) rfl rfl rfl rfl
    walk_at "m"
    refine right_ok (R' _) (by simp; exact le_c hlen rfl) (by walk_at "mem") (fun s => ?_) ?_
    ·walk_at "m"
     refine ev_meth (T := "dict") (id := "dict.get") ?_ F.plainAttrs_dict F.slot_dict_get F.type_dict_get rfl rfl rfl rfl rfl
     walk_at "m"
     refine ⟨isTy_dct .data, ?_⟩
     walk_at "m"
     refine ol_get .data ?_
     walk_at "m"
     exact ⟨rfl, .cons rfl (.cons rfl (.cons rfl (.cons rfl (.cons rfl (.cons rfl (.cons rfl .nil)))))), rfl⟩
    ·walk_at "m"
     refine ev_meth (T := "dict") (id := "dict.get") ?_ F.plainAttrs_dict F.slot_dict_get F.type_dict_get rfl rfl rfl rfl rfl
     walk_at "m"
     refine ⟨isTy_dct .data, ?_⟩
     walk_at "m"
     refine ol_getN .data ?_
     walk_at "m"
     exact ⟨rfl, .cons rfl (.cons rfl (.cons rfl (.cons rfl (.cons rfl (.cons rfl (.cons rfl .nil)))))), rfl⟩
   rintro ⟨ρ', ω'⟩ ⟨hsub, hω⟩
   dsimp only at hsub hω
   subst hω
   refine TrF.sub hsub ?_
   clear hsub ρ'
   have hstr : ∀ s ∈ q.2.map symS, PyData.strOk s = true := by intro s hs; obtain ⟨c, hc, rfl⟩ := List.mem_map.mp hs; exact sym_strOk c (hk c hc)
   have hsh := shownS_len hk
   have harr : (PySem.Str.ofString " -> ").length = 4 := by decide +kernel
   unfold ωG
   walk_at "m"
   refine ev_joined (trj_cons (ev_fmt_str ?_) rfl)
   walk_at "m"
   refine ⟨_, rfl, by rw [sym_len]; exact le_s (Nat.le_refl _) rfl, _, rfl, ?_, trj_cons (ev_str ⟨_, rfl, ?_, trj_cons (ev_fmt_list (R' _) ?_) rfl⟩) rfl⟩
   ·rw [empty_app', sym_len]; exact le_s (Nat.le_refl _) rfl
   ·rw [empty_app', PySem.Str.length_append, sym_len]; exact le_s (Nat.add_le_add_left (Nat.le_of_eq harr) _) rfl
   walk_at "m"
   refine ⟨_, rfl, ok_strs hstr 4, by exact le_c (Nat.le_trans hsh (Nat.add_le_add_right (Nat.mul_le_mul_left _ hlen) _)) rfl, _, rfl, ?_, trj_nil ⟨?_, ?_⟩⟩
   ·rw [empty_app', PySem.Str.length_append, PySem.Str.length_append, sym_len]; lia
   ·rw [empty_app', PySem.Str.length_append, PySem.Str.length_append, sym_len]; lia
   rw [empty_app']
   have hmap : symS q.1 ++ PySem.Str.ofString " -> " ++ shownS (q.2.map symS) = mapS (gpr q) := rfl
   rw [hmap]
   have hnone : (pmD aProd (qs.map gpr)).lookup (mapS (gpr q)) = none := pmD_none (by
    intro x hx z
    obtain ⟨y, hy, rfl⟩ := List.mem_map.mp hx
    exact hnew (mapS_inj (hqs y hy) hq z ▸ hy))
   walk_at "m"
   refine op_din (.cell (by walk_at "mem")) (ob_bool (ite_f (by rw [hnone]; rfl) ?_))
   walk_at "m"
   refine ev_callB (ev_blt rfl (by boot_fast) (by decide) rfl ⟨rfl, ?_⟩ rfl) rfl rfl rfl
   walk_at "m"
   have hpsl : (psD aProd (qs.map gpr)).length = qs.length := by simp [psD]
   refine ol_len (.cell (by walk_at "mem")) (by simp [hpsl]; exact le_s (Nat.add_le_add_right hl2 _) rfl) ?_
   have hnum : (((D.none :: psD aProd (qs.map gpr)).length : Nat) : Int) = ((qs.length + 1 : Nat) : Int) := by simp [hpsl]
   rw [hnum]
   try dsimp only
   have hN : ∀ {NT' : List NE} {m : Nat} {ps : List GPr}, GN ts ps m TT NT' → True := fun _ => trivial
   refine exs_cut (fun σ' => EA14 (fun NT' => GN ts (qs.map gpr ++ [(symS q.1, [])]) (20 * qs.length) TT NT') (fun NT' => NT'.length ≤ 1001) (fun NT' => Sub σ'.ρ [("pnumber", .int ((qs.length + 1 : Nat) : Int)), ("map", .str (mapS (gpr q))), ("prodprec", .tup [.str "right", .int 0]), ("self", .obj aGr g.d), ("prodname", .str (symS q.1)), ("syms", .list ((q.2.map symS).map .str)), ("func", .none), ("file", .str ""), ("line", .int 0)]) (fun NT' => (ωG g (.none :: psD aProd (qs.map gpr)) (pmD aProd (qs.map gpr)) TT NT' PN ω).Perm σ'.ω)) ?_ ?_
   ·walk_at "m"
    refine op_dnotin (.cell (by walk_at "mem")) (ob_bool ?_)
    rw [dE_isSome]
    by_cases hin : symS q.1 ∈ NT.map (·.1)
    ·refine ite_f (by simp [hin]) ?_
     walk_at "m"
     exact ⟨rfl, NT, G.declOld hin, by exact le_c hl4 rfl, .cons rfl (.cons rfl (.cons rfl (.cons rfl (.cons rfl (.cons rfl (.cons rfl (.cons rfl (.cons rfl .nil)))))))), .refl _⟩
    ·refine ite_t (by simp [hin]) ?_
     walk_at "m"
     refine ev_listC (trl_nil ⟨Nat.le_of_ble_eq_true rfl, fun a => ?_⟩)
     try dsimp only
     walk_at "m"
     refine ⟨_, _, _, _, rfl, rfl, (by walk_at "upd"), by simp; exact le_s hl4 rfl, ?_⟩
     rw [put_new (dE_none hin)]
     walk_at "m"
     refine ⟨rfl, NT ++ [(symS q.1, a, [])], G.declNew hin hnt, by simp; exact le_c hl4 rfl, .cons rfl (.cons rfl (.cons rfl (.cons rfl (.cons rfl (.cons rfl (.cons rfl (.cons rfl (.cons rfl .nil)))))))), (by unfold ωG; rw [List.map_append, List.map_append]; exact pinB (p := [_, _, _, _, _, _, _, _]))⟩
   rintro ⟨ρ', ω'⟩ ⟨NT1, G1, hl1, hsub, hperm⟩
   dsimp only at hsub hperm
   refine TrF.sub hsub (trF_perm hperm ?_)
   clear hsub hperm
   let Iv1 : PI (q.2.map symS) := fun pre σ' => EA24 (fun TT' NT' => GN ts (qs.map gpr ++ [(symS q.1, pre)]) (20 * qs.length + pre.length) TT' NT') (fun TT' NT' => NT'.length ≤ 1001 + pre.length) (fun TT' NT' => Sub σ'.ρ [("pnumber", .int ((qs.length + 1 : Nat) : Int)), ("map", .str (mapS (gpr q))), ("prodprec", .tup [.str "right", .int 0]), ("self", .obj aGr g.d), ("prodname", .str (symS q.1)), ("syms", .list ((q.2.map symS).map .str)), ("func", .none), ("file", .str ""), ("line", .int 0)]) (fun TT' NT' => (ωG g (.none :: psD aProd (qs.map gpr)) (pmD aProd (qs.map gpr)) TT' NT' PN ω).Perm σ'.ω)
   refine exs_cons (ex_forP (q.2.map symS) D.str Iv1 ?_ ?_ ?_ (fun _ => rfl))
   ·refine src_of ?_
    walk_at "m"
    exact ⟨itb_list R.hd, TT, NT1, G1, by simpa using hl1, .cons rfl (.cons rfl (.cons rfl (.cons rfl (.cons rfl (.cons rfl (.cons rfl (.cons rfl (.cons rfl .nil)))))))), .refl _⟩
   ·rintro pre t post ⟨ρ', ω'⟩ hsp ⟨TT', NT', G', hl', hsub, hperm⟩
    dsimp only at hsub hperm
    refine Asg.sub hsub (asg_perm hperm ?_)
    clear hsub hperm
    have hpl : pre.length < q.2.length := by
     have := congrArg List.length hsp
     simp at this; exact mid_lt this
    have htl : ∀ e ∈ TT', e.2.2.length ≤ sizeLine := fun e he => by have := G'.tl e he; exact le_s (Nat.le_trans this (Nat.add_le_add (Nat.mul_le_mul_left _ hl2) (Nat.le_trans (Nat.le_of_lt hpl) hlen))) rfl
    have hnl : ∀ e ∈ NT', e.2.2.length ≤ sizeLine := fun e he => by have := G'.nl e he; exact le_s (Nat.le_trans this (Nat.add_le_add (Nat.mul_le_mul_left _ hl2) (Nat.le_trans (Nat.le_of_lt hpl) hlen))) rfl
    refine asg_name rfl ?_
    unfold ωG
    try dsimp only
    walk_at "m"
    refine op_din (.cell (by walk_at "mem")) (ob_bool ?_)
    rw [dE_isSome, G'.tk]
    by_cases hin : t ∈ ts
    ·refine ite_t (by simp [hin]) ?_
     refine hide ?_; intro g; obtain ⟨a, l, h1, h2, h3⟩ := appE_upd (k := t) (.int ((qs.length + 1 : Nat) : Int)) (NT'.map cE ++ (PN.map cE ++ ω)) (L := TT') (by rw [G'.tk]; exact hin); dsimp only [g]
     walk_at "m"
     refine ev_meth (T := "list") (id := "list.append") ?_ F.plainAttrs_list F.slot_list_append F.type_list_append rfl rfl rfl rfl rfl
     refine ev_sub ?_
     walk_at "m"
     refine op_dget (.cell (by walk_at "mem")) h1 ?_ (fun _ _ => rfl)
     refine ⟨isTy_lst (.cell (.tail _ (.tail _ (.tail _ (.tail _ (.tail _ (.tail _ (.tail _ (.tail _ h3.mem))))))))), ?_⟩
     walk_at "m"
     refine ol_append (.tail (.tail (.tail (.tail (.tail (.tail (.tail (.tail h3)))))))) (htl _ h2) ⟨rfl, ?_⟩
     walk_at "m"
     refine ⟨appE t (.int ((qs.length + 1 : Nat) : Int)) TT', NT', ?_, by simp; exact Nat.le_succ_of_le hl', .cons rfl (.cons rfl (.cons rfl (.cons rfl (.cons rfl (.cons rfl (.cons rfl (.cons rfl (.cons rfl .nil)))))))), .of_eq ?_⟩
     ·have := G'.term (x := .int ((qs.length + 1 : Nat) : Int)) hts hin
      simpa [Nat.add_assoc] using this
     ·(try unfold ωG); rw [appE_dE]
    ·refine ite_f (by simp [hin]) ?_
     refine exs_cut (fun σ' => EA15 (fun NT2 => (t ∈ NT2.map (·.1) ∧ ∀ x, GN ts (qs.map gpr ++ [(symS q.1, pre ++ [t])]) (20 * qs.length + pre.length + 1) TT' (appE t x NT2))) (fun NT2 => (∀ e ∈ NT2, e.2.2.length ≤ sizeLine)) (fun NT2 => NT2.length ≤ 1001 + pre.length + 1) (fun NT2 => Sub σ'.ρ [("t", .str t), ("pnumber", .int ((qs.length + 1 : Nat) : Int)), ("map", .str (mapS (gpr q))), ("prodprec", .tup [.str "right", .int 0]), ("self", .obj aGr g.d), ("prodname", .str (symS q.1)), ("syms", .list ((q.2.map symS).map .str)), ("func", .none), ("file", .str ""), ("line", .int 0)]) (fun NT2 => (ωG g (.none :: psD aProd (qs.map gpr)) (pmD aProd (qs.map gpr)) TT' NT2 PN ω).Perm σ'.ω)) ?_ ?_
     ·walk_at "m"
      refine op_dnotin (.cell (by walk_at "mem")) (ob_bool ?_)
      rw [dE_isSome]
      by_cases hin2 : t ∈ NT'.map (·.1)
      ·refine ite_f (by simp [hin2]) ?_
       walk_at "m"
       exact ⟨rfl, NT', ⟨hin2, fun x => G'.nonOld hin hin2⟩, hnl, by exact Nat.le_succ_of_le hl', .cons rfl (.cons rfl (.cons rfl (.cons rfl (.cons rfl (.cons rfl (.cons rfl (.cons rfl (.cons rfl (.cons rfl .nil))))))))), .refl _⟩
      ·refine ite_t (by simp [hin2]) ?_
       walk_at "m"
       refine ev_listC (trl_nil ⟨Nat.le_of_ble_eq_true rfl, fun a => ?_⟩)
       try dsimp only
       walk_at "m"
       refine ⟨_, _, _, _, rfl, rfl, (by walk_at "upd"), by simp; exact le_s (Nat.le_trans hl' (Nat.add_le_add_left (Nat.le_trans (Nat.le_of_lt hpl) hlen) _)) rfl, ?_⟩
       rw [put_new (dE_none hin2)]
       walk_at "m"
       refine ⟨rfl, NT' ++ [(t, a, [])], ⟨by simp, fun x => G'.nonNew hin hin2⟩, ?_, by simp; exact hl', .cons rfl (.cons rfl (.cons rfl (.cons rfl (.cons rfl (.cons rfl (.cons rfl (.cons rfl (.cons rfl (.cons rfl .nil))))))))), (by unfold ωG; rw [List.map_append, List.map_append]; exact pinB (p := [_, _, _, _, _, _, _, _]))⟩
       ·intro e he
        rcases List.mem_append.mp he with he | he
        ·exact hnl e he
        ·rw [List.mem_singleton.mp he]; simp
     rintro ⟨ρ', ω'⟩ ⟨NT2, ⟨hk2, G2⟩, hnl2, hl2', hsub, hperm⟩
     dsimp only at hsub hperm
     refine TrF.sub hsub (trF_perm hperm ?_)
     clear hsub hperm
     unfold ωG
     refine hide ?_; intro g; obtain ⟨a, l, h1, h2, h3⟩ := appE_upd (k := t) (.int ((qs.length + 1 : Nat) : Int)) (PN.map cE ++ ω) (L := NT2) hk2; dsimp only [g]
     have h3' := h3.skip (TT'.map cE)
     walk_at "m"
     refine ev_meth (T := "list") (id := "list.append") ?_ F.plainAttrs_list F.slot_list_append F.type_list_append rfl rfl rfl rfl rfl
     refine ev_sub ?_
     walk_at "m"
     refine op_dget (.cell (by walk_at "mem")) h1 ?_ (fun _ _ => rfl)
     refine ⟨isTy_lst (.cell (.tail _ (.tail _ (.tail _ (.tail _ (.tail _ (.tail _ (.tail _ (.tail _ h3'.mem))))))))), ?_⟩
     walk_at "m"
     refine ol_append (.tail (.tail (.tail (.tail (.tail (.tail (.tail (.tail h3')))))))) (hnl2 _ h2) ⟨rfl, ?_⟩
     walk_at "m"
     refine ⟨TT', appE t (.int ((qs.length + 1 : Nat) : Int)) NT2, ?_, ?_, .cons rfl (.cons rfl (.cons rfl (.cons rfl (.cons rfl (.cons rfl (.cons rfl (.cons rfl (.cons rfl .nil)))))))), .of_eq ?_⟩
     ·have := G2 (.int ((qs.length + 1 : Nat) : Int))
      simpa [Nat.add_assoc] using this
     ·have := congrArg List.length (appE_keys t (.int ((qs.length + 1 : Nat) : Int)) NT2)
      simp at this ⊢; lia
     ·(try unfold ωG); rw [appE_dE]
   ·rintro ⟨ρ', ω'⟩ ⟨TT', NT', G', hl', hsub, hperm⟩
    dsimp only at hsub hperm
    refine TrF.sub hsub (trF_perm hperm ?_)
    clear hsub hperm
    unfold ωG
    refine exs_nil ?_
    try dsimp only
    walk_at "m"
    refine ev_callO (ev_glob (v := .ref aProd) rfl (fun _ _ => .raw _) rfl ⟨rfl, ?_⟩ rfl) rfl rfl rfl rfl
    walk_at "m"
    refine prod_call (sh := false) (p := gpr q) (k := k + 1) (R' _) (by simp [gpr]; exact le_c hlen rfl) (fun s hs => ?_) (by simp [gpr, sym_len]) ?_
    ·obtain ⟨c, hc, rfl⟩ := List.mem_map.mp hs
     exact ⟨by rw [sym_len]; decide, sym_strOk c (hk c hc)⟩
    have hpd : D.inst aProd (prodA ((qs.length + 1 : Nat) : Int) (gpr q)) = prodD aProd (gpr q, (qs.map gpr).length + 1) := by simp [prodD]
    rw [hpd]
    generalize hPD : prodD aProd (gpr q, (qs.map gpr).length + 1) = PD
    walk_at "m"
    refine ev_meth (T := "list") (id := "list.append") ?_ F.plainAttrs_list F.slot_list_append F.type_list_append rfl rfl rfl rfl rfl
    walk_at "m"
    refine ⟨isTy_lst (.cell (by walk_at "mem")), ?_⟩
    walk_at "m"
    refine ol_append (by walk_at "upd") (by simp [hpsl]; exact le_s (Nat.add_le_add_right hl2 _) rfl) ⟨rfl, ?_⟩
    try dsimp only
    walk_at "m"
    refine ⟨_, _, _, _, rfl, rfl, (by walk_at "upd"), by simp [pmD]; exact le_s hl2 rfl, ?_⟩
    rw [put_new hnone]
    try dsimp only
    refine exs_cons ?_
    by_cases hin : symS q.1 ∈ PN.map (·.1)
    ·have hpl : ∀ e ∈ PN, e.2.2.length ≤ sizeLine := fun e he => by
      rw [GQ.pc e he]
      have h1 := List.length_filter_le (fun x : GPr × Nat => x.1.1 == e.1) ((qs.map gpr).zipIdx 1)
      simp at h1 ⊢; lia
     refine hide ?_; intro g; obtain ⟨a, l, h1, h2, h3⟩ := appE_upd (k := symS q.1) PD ω (L := PN) hin; dsimp only [g]
     have h3' := (h3.skip (NT'.map cE)).skip (TT'.map cE)
     refine ex_try_ok ?_
     walk_at "m"
     refine ev_meth (T := "list") (id := "list.append") ?_ F.plainAttrs_list F.slot_list_append F.type_list_append rfl rfl rfl rfl rfl
     refine ev_sub ?_
     walk_at "m"
     refine op_dget (.cell (by walk_at "mem")) h1 ?_ (fun _ _ => rfl)
     refine ⟨isTy_lst (.cell (.tail _ (.tail _ (.tail _ (.tail _ (.tail _ (.tail _ (.tail _ (.tail _ h3'.mem))))))))), ?_⟩
     walk_at "m"
     refine ol_append (.tail (.tail (.tail (.tail (.tail (.tail (.tail (.tail h3')))))))) (hpl _ h2) ⟨rfl, ?_⟩
     walk_at "m"
     have hGN : GN ts ((qs ++ [q]).map gpr) (20 * (qs ++ [q]).length) TT' NT' := by
      rw [List.map_append, List.length_append]
      exact G'.more (by simp; lia)
     have hGP : GP aProd ((qs ++ [q]).map gpr) (appE (symS q.1) PD PN) := by
      rw [List.map_append, ← hPD]
      exact GP.old GQ hin
     refine ⟨_, .of_eq ?_, pp TT' NT' _ hGN hGP⟩
     simp only [ωG, List.map_append, List.map_cons, List.map_nil, psD_snoc, pmD_snoc, hPD, appE_dE, List.cons_append]
    ·refine ex_try_miss (outer := fr) rfl ?_ R.hd ?_ rfl rfl rfl rfl (fun _ _ _ => rfl)
     ·exact Around.frames_deeper FR
     walk_at "m"
     refine ⟨_, _, .cell (by walk_at "mem"), rfl, dE_none hin, rfl, fun v => ?_⟩
     walk_at "m"
     refine ev_listC ?_
     walk_at "m"
     intro a
     try dsimp only
     walk_at "m"
     refine ⟨_, _, _, _, rfl, rfl, (by walk_at "upd"), by simp; exact le_s hl5 rfl, ?_⟩
     rw [put_new (dE_none hin)]
     walk_at "m"
     have hGN : GN ts ((qs ++ [q]).map gpr) (20 * (qs ++ [q]).length) TT' NT' := by
      rw [List.map_append, List.length_append]
      exact G'.more (by simp; lia)
     have hGP : GP aProd ((qs ++ [q]).map gpr) (PN ++ [(symS q.1, a, [PD])]) := by
      rw [List.map_append, ← hPD]
      exact GP.new GQ hin
     refine ⟨_, ?_, pp TT' NT' _ hGN hGP⟩
     simp only [ωG, List.map_append, List.map_cons, List.map_nil, psD_snoc, pmD_snoc, hPD, List.cons_append, dE, cE]
     exact perm_pull (a, C.lst [PD]) [_, _, _, _, _, _, _, _] _ _ _ _
theorem epsOk : PyData.strOk epsS = true := by decide +kernel
set_option maxHeartbeats 2000000
theorem first_ok {d : Addr} {sd kds : List (Str × D)} {fd : D} {lk : Str → List Str} {ss : List Str} {k : Nat} (R : ARoom (k + 1) A) (hs : (d, C.dct sd) ∈ σ.ω) (hsf : sd.lookup ("First" : Str) = some fd) (hh : handedD fd = true) (hd : Dct (X3 w mg mb fr) σ fd kds)
  (hx : ∀ x ∈ ss, ∃ dx, kds.lookup x = some dx ∧ Lst (X3 w mg mb fr) σ dx ((lk x).map .str) ∧ (lk x).length ≤ 100 ∧ ∀ s ∈ lk x, PyData.strOk s = true) (hz : ss.length ≤ 20) (p : P (.list ((firstF lk ss).map .str)) σ) :
  OpL (X3 w mg mb fr) A env σ (fun vs => call (.ref 221) vs) [.obj aGr d, .tup (ss.map .str)] P := by
 refine fn_call (dbs := [("self", .obj aGr d), ("beta", .tup (ss.map .str))]) ⟨⟨_, _, _, rfl⟩, rfl, rfl, rfl, rfl, rfl, rfl, rfl, rfl, rfl, rfl, rfl, rfl⟩ R.room ?_ rfl rfl ?_
 ·intro s b vs T hb r
  obtain ⟨v1, v2, rfl, r1, r2⟩ := r.i_two
  exact ⟨_, BindsTo.of_eq rfl, .cons r1 (.cons r2 .nil)⟩
 ·intro L
  have hsl' := hsl
  have R' : ∀ e, ARoom k (A.deeper e) := fun e => R.deeper
  try dsimp only
  refine exs_let ?_; intro X' A' e' q'
  walk_at "m"
  refine ev_listC (trl_nil ⟨Nat.le_of_ble_eq_true rfl, fun a => ?_⟩)
  try dsimp only
  walk_at "m"
  have hgl : ∀ pre : List Str, (∀ y ∈ pre, y ∈ ss) → pre.length ≤ 20 → (gathF lk pre).length ≤ 2000 ∧ ∀ s ∈ gathF lk pre, PyData.strOk s = true := fun pre h1 h2 => by
   refine ⟨?_, fun s hm => ?_⟩
   ·have := gathF_len (lk := lk) (m := 100) (pre := pre) fun x hx' => by obtain ⟨_, _, _, h, _⟩ := hx x (h1 x hx'); exact h
    exact le_c (Nat.le_trans this (Nat.mul_le_mul_left _ h2)) rfl
   ·obtain ⟨x, hx', hm'⟩ := gathF_mem hm
    obtain ⟨_, _, _, _, h⟩ := hx x (h1 x hx')
    exact h s hm'
  refine ex_forP ss D.str (fun pre σ' => (∀ y ∈ pre, ((lk y).any fun z => z == epsS) = true) ∧ Sub σ'.ρ [("result", .raw (.ref a)), ("self", .obj aGr d), ("beta", .tup (ss.map .str))] ∧ σ'.ω = (a, .lst ((gathF lk pre).map .str)) :: σ.ω) ?_ ?_ ?_ (fun _ => rfl)
  ·refine src_of ?_
   walk_at "m"
   exact ⟨itb_tup R.hd, by simp, .cons rfl (.cons rfl (.cons rfl .nil)), rfl⟩
  ·rintro pre x post ⟨ρ', ω'⟩ hsp ⟨hI, hsub, hω⟩
   dsimp only at hsub hω
   subst hω
   refine Asg.sub hsub (asg_name rfl ?_)
   clear hsub
   obtain ⟨dx, h1, h2, h3, h4⟩ := hx x (by rw [hsp]; simp)
   have hpre := hgl pre (fun y hy => by rw [hsp]; simp [hy]) (by have := congrArg List.length hsp; simp at this; exact le_c (Nat.le_trans (mid_l this) hz) rfl)
   have hfin : firstF lk ss = firstG lk (gathF lk pre) (x :: post) := by
    unfold firstF
    rw [hsp, firstG_pre hI]; rfl
   have hsn : gathF lk (pre ++ [x]) = (lk x).foldl addF (gathF lk pre) := gathF_snoc lk pre x
   generalize gathF lk pre = acc at hpre hfin hsn ⊢
   try dsimp only
   walk_at "m"
   refine ex_forC dx (lk x) D.str (fun pre2 σ' => Sub σ'.ρ [("x_produces_empty", .bool (pre2.any fun z => z == epsS)), ("x", .str x), ("result", .raw (.ref a)), ("self", .obj aGr d), ("beta", .tup (ss.map .str))] ∧ σ'.ω = (a, .lst ((pre2.foldl addF acc).map .str)) :: σ.ω) R.hd ?_ ?_ ?_ ?_ (fun _ => rfl)
   ·refine ev_sub ?_
    refine ev_attr (ev_var rfl rfl ⟨_, _, _, .cell (.tail _ hs), rfl, hsf, hh, ?_⟩ rfl rfl) rfl
    walk_at "m"
    refine op_dget (hd.to fun p hp => .tail _ hp) h1 ⟨rfl, ?_, rfl⟩ (fun _ _ => rfl)
    exact .cons rfl (.cons rfl (.cons rfl (.cons rfl (.cons rfl .nil))))
   ·rintro pre2 σ' ⟨_, hω⟩
    exact h2.to fun p hp => by rw [hω]; exact .tail _ hp
   ·rintro pre2 f post2 ⟨ρ', ω'⟩ hsp2 ⟨hsub, hω⟩
    dsimp only at hsub hω
    subst hω
    refine Asg.sub hsub (asg_name rfl ?_)
    clear hsub
    have hf : PyData.strOk f = true := h4 f (by rw [hsp2]; simp)
    have hl2 : pre2.length ≤ 100 := by have := congrArg List.length hsp2; simp at this; exact le_c (Nat.le_trans (mid_l this) h3) rfl
    have hacc2 : (pre2.foldl addF acc).length ≤ 3000 ∧ ∀ s ∈ pre2.foldl addF acc, PyData.strOk s = true := by
     refine ⟨by have := foldF_len pre2 acc; lia, fun s hm => ?_⟩
     rcases mem_foldF.mp hm with hm | ⟨hm, _⟩
     ·exact hpre.2 s hm
     ·exact h4 s (by rw [hsp2]; simp [hm])
    have hst : (pre2 ++ [f]).foldl addF acc = addF (pre2.foldl addF acc) f := by simp
    have hsa : ((pre2 ++ [f]).any fun z => z == epsS) = ((pre2.any fun z => z == epsS) || (f == epsS)) := by simp
    rw [hst, hsa]
    generalize pre2.foldl addF acc = acc2 at hacc2 ⊢
    try dsimp only
    walk_at "m"
    refine op_eq (n := 0) (R' _) hf epsOk (by decide) (ob_bool (ite_b (fun h5 => ?_) (fun h5 => ?_)))
    ·have h5 : (f == epsS) = true := h5
     have h6 : addF acc2 f = acc2 := by unfold addF; rw [if_pos h5]
     rw [h6]
     walk_at "m"
     refine ⟨.cons ?_ (.cons rfl (.cons rfl (.cons rfl (.cons rfl .nil)))), rfl⟩
     rw [h5, Bool.or_true]; rfl
    ·have h5 : (f == epsS) = false := h5
     rw [h5, Bool.or_false]
     walk_at "m"
     refine op_notin (n := 0) (R' _) (.cell (by walk_at "mem")) hf (ok_strs hacc2.2 0) (by decide) (ob_bool (ite_b (fun h6 => ?_) (fun h6 => ?_)))
     ·rw [any_str] at h6
      have h7 : addF acc2 f = acc2 ++ [f] := by
       unfold addF
       rw [if_neg (by rw [h5]; simp), if_neg (by intro z; rw [z] at h6; exact fet h6)]
      rw [h7]
      walk_at "m"
      refine ev_meth (T := "list") (id := "list.append") ?_ F.plainAttrs_list F.slot_list_append F.type_list_append rfl rfl rfl rfl rfl
      walk_at "m"
      refine ⟨isTy_lst (.cell (by walk_at "mem")), ?_⟩
      walk_at "m"
      refine ol_append .head (by simp; lia) ⟨rfl, ?_⟩
      walk_at "m"
      exact ⟨.cons rfl (.cons rfl (.cons rfl (.cons rfl (.cons rfl .nil)))), by simp⟩
     ·rw [any_str] at h6
      have h7 : addF acc2 f = acc2 := by
       unfold addF
       rw [if_neg (by rw [h5]; simp), if_pos (by simpa using h6)]
      rw [h7]
      walk_at "m"
      exact ⟨.cons rfl (.cons rfl (.cons rfl (.cons rfl (.cons rfl .nil)))), rfl⟩
   ·rintro ⟨ρ', ω'⟩ ⟨hsub, hω⟩
    dsimp only at hsub hω
    subst hω
    refine TrF.sub hsub ?_
    clear hsub
    walk_at "m"
    refine ob_bool (ite_b (fun h5 => ?_) (fun h5 => ?_))
    ·walk_at "m"
     refine ⟨?_, .cons rfl (.cons rfl (.cons rfl .nil)), by rw [hsn]⟩
     intro y hy
     rcases List.mem_append.mp hy with hy | hy
     ·exact hI y hy
     ·rw [List.mem_singleton.mp hy]; exact h5
    ·refine exs_cons (ex_brk ?_)
     refine exs_cons (ex_ret (tr_freeze ?_))
     walk_at "m"
     refine ⟨a, _, _, rfl, rfl, ?_⟩
     have : firstF lk ss = (lk x).foldl addF acc := by rw [hfin, firstG, if_neg (by rw [h5]; simp)]
     rw [← this]; exact p
  ·rintro ⟨ρ', ω'⟩ ⟨hI, hsub, hω⟩
   dsimp only at hsub hω
   subst hω
   refine TrF.sub hsub ?_
   clear hsub
   have hpre := hgl ss (fun y hy => hy) hz
   have hfin : firstF lk ss = gathF lk ss ++ [epsS] := by
    have := firstG_pre (a := []) (post := []) hI
    rw [List.append_nil] at this
    unfold firstF
    rw [this]; rfl
   generalize gathF lk ss = acc at hpre hfin ⊢
   walk_at "m"
   refine ev_meth (T := "list") (id := "list.append") ?_ F.plainAttrs_list F.slot_list_append F.type_list_append rfl rfl rfl rfl rfl
   walk_at "m"
   refine ⟨isTy_lst (.cell (by walk_at "mem")), ?_⟩
   walk_at "m"
   refine ol_append .head (by simp; lia) ⟨rfl, ?_⟩
   refine exs_nil ?_
   refine exs_cons (ex_ret (tr_freeze ?_))
   walk_at "m"
   refine ⟨a, _, _, rfl, rfl, ?_⟩
   rw [hfin] at p
   simpa [epsS] using p
theorem FD_term {ts : List Str} {FN : List FE} {t : Str} (h : t ∈ ts) : (FD ts FN).lookup t = some (.list [.str t]) := tD_lookup (by simp [h])
theorem FD_name {ts : List Str} {FN : List FE} {n : Str} (h : n ∉ ts) (h' : n ≠ "$end") : (FD ts FN).lookup n = (FN.map dF).lookup n := by
 unfold FD
 exact lookup_app_none (by rw [tD_keys]; simp [h, h'])
structure SW (FN FN' : List FE) (c : Bool) (cond : Prop) : Prop where
 le : totF FN ≤ totF FN'
 no : c = false → FN' = FN ∧ cond
 yes : c = true → totF FN < totF FN'
theorem ne_beq {a b : Str} (h : a ≠ b) : (a == b) = false := by simpa using h
theorem cfirst_ok {d fi fo : Addr} {pl pm us st : D} {pn te no : List (Str × D)} {ts ns : List Str} {qsOf : Str → List (GPr × Nat)} {Snd : Str → Str → Prop} {U : List Str} {k : Nat} {ρ : List (Str × D)} {ω : Om} (R : ARoom (k + 2) A)
  (hte : te.map (·.1) = ts) (hno : no.map (·.1) = ns) (hts : ts.Nodup) (hend : ("$end" : Str) ∉ ts) (hns : ns.Nodup) (hdis : ∀ n ∈ ns, n ∉ ts ∧ n ≠ "$end")
  (hpn : ∀ n ∈ ns, pn.lookup n = some (.list ((qsOf n).map (prodD aProd)))) (hq : ∀ n ∈ ns, ∀ q ∈ qsOf n, q.1.2.length ≤ 20 ∧ ∀ s ∈ q.1.2, s ∈ ts ∨ s ∈ ns)
  (hU : ∀ n f, Snd n f → f ∈ U) (hUl : U.length ≤ 100) (hUo : ∀ f ∈ U, PyData.strOk f = true) (hto : ∀ t ∈ ts, PyData.strOk t = true)
  (hcl : ∀ FN, FGood ns Snd FN → ∀ n ∈ ns, ∀ q ∈ qsOf n, ∀ f ∈ firstF (lkF FN) q.1.2, Snd n f) (htl : ts.length ≤ 1000) (hnl : ns.length ≤ 1000)
  (p : ∀ FN, FGood ns Snd FN → (∀ n ∈ ns, ∀ q ∈ qsOf n, ∀ f ∈ firstF (lkF FN) q.1.2, f ∈ lkF FN n) →
   P (.raw (.ref fi)) ⟨ρ, (d, .dct (selfF pl (.dct pn) pm (.dct te) (.dct no) (.raw (.ref fi)) (.raw (.ref fo)) us st)) :: (fi, .dct (FD ts FN)) :: (fo, .dct []) :: (FN.map cF ++ ω)⟩) :
  OpL (X3 w mg mb fr) A env ⟨ρ, (d, .dct (selfF pl (.dct pn) pm (.dct te) (.dct no) (.raw (.ref fi)) (.raw (.ref fo)) us st)) :: (fi, .dct []) :: (fo, .dct []) :: ω⟩ (fun vs => call (.ref 228) vs) [.obj aGr d] P := by
 refine ol_perm ?_
 refine fn_call (dbs := [("self", .obj aGr d)]) ⟨⟨_, _, _, rfl⟩, rfl, rfl, rfl, rfl, rfl, rfl, rfl, rfl, rfl, rfl, rfl, rfl⟩ R.room ?_ rfl rfl ?_
 ·intro s b vs T hb r
  obtain ⟨v1, rfl, r1⟩ := r.i_one
  exact ⟨_, BindsTo.of_eq rfl, .cons r1 .nil⟩
 ·intro L
  have hsl' := hsl
  have R' : ∀ e, ARoom (k + 1) (A.deeper e) := fun e => R.deeper
  try dsimp only
  refine exs_let ?_; intro X' A' e' q'
  walk_at "m"
  refine ob_dict (.cell (by walk_at "mem")) (by decide) (ite_f rfl (exs_nil ?_))
  let Iv1 : PI ts := fun pre σ' => Sub σ'.ρ [("self", .obj aGr d)] ∧ σ'.ω = (d, .dct (selfF pl (.dct pn) pm (.dct te) (.dct no) (.raw (.ref fi)) (.raw (.ref fo)) us st)) :: (fi, .dct (pre.map tD)) :: (fo, .dct []) :: ω
  refine exs_cons (ex_forP ts D.str Iv1 ?_ ?_ ?_ (fun _ => rfl))
  ·refine src_of ?_
   walk_at "m"
   refine ⟨?_, .cons rfl .nil, rfl⟩
   have : ts.map D.str = te.map (fun p => D.str p.1) := by rw [← hte, List.map_map]; rfl
   rw [this]
   exact itb_dct R.hd
  ·rintro pre t post ⟨ρ', ω'⟩ hsp ⟨hsub, hω⟩
   dsimp only at hsub hω
   subst hω
   refine Asg.sub hsub (asg_name rfl ?_)
   clear hsub
   have hpl : pre.length ≤ 1000 := by have := congrArg List.length hsp; simp at this; exact le_c (Nat.le_trans (mid_l this) htl) rfl
   have hnt : t ∉ pre := by
    rw [hsp, List.nodup_append] at hts
    intro z
    exact hts.2.2 t z t (.head _) rfl
   try dsimp only
   walk_at "m"
   refine ev_list ?_
   walk_at "m"
   refine ⟨_, _, _, _, rfl, rfl, (by walk_at "upd"), by simp; exact le_s hpl rfl, ?_⟩
   rw [put_new (lookup_none_of (by rw [tD_keys]; exact hnt))]
   walk_at "m"
   exact ⟨.cons rfl .nil, by simp [tD]⟩
  rintro ⟨ρ', ω'⟩ ⟨hsub, hω⟩
  dsimp only at hsub hω
  subst hω
  refine TrF.sub hsub ?_
  clear hsub
  refine exs_nil ?_
  walk_at "m"
  refine ev_list ?_
  walk_at "m"
  refine ⟨_, _, _, _, rfl, rfl, (by walk_at "upd"), by simp; exact le_s htl rfl, ?_⟩
  rw [put_new (lookup_none_of (by rw [tD_keys]; exact hend))]
  have hFD0 : ts.map tD ++ [(("$end" : Str), D.list [.str ("$end" : Str)])] = FD ts [] := by simp [FD, tD]
  rw [hFD0]
  let Iv2 : PI ns := fun pre σ' => EA14 (fun FN => FN.map (·.1) = pre) (fun FN => (∀ e ∈ FN, e.2.2 = [])) (fun FN => Sub σ'.ρ [("self", .obj aGr d)]) (fun FN => ((d, .dct (selfF pl (.dct pn) pm (.dct te) (.dct no) (.raw (.ref fi)) (.raw (.ref fo)) us st)) :: (fi, C.dct (FD ts FN)) :: (fo, .dct []) :: (FN.map cF ++ ω)).Perm σ'.ω)
  refine exs_cons (ex_forP ns D.str Iv2 ?_ ?_ ?_ (fun _ => rfl))
  ·refine src_of ?_
   walk_at "m"
   refine ⟨?_, [], rfl, by simp, .cons rfl .nil, .refl _⟩
   have : ns.map D.str = no.map (fun p => D.str p.1) := by rw [← hno, List.map_map]; rfl
   rw [this]
   exact itb_dct R.hd
  ·rintro pre n post ⟨ρ', ω'⟩ hsp ⟨FN, hk, he, hsub, hperm⟩
   dsimp only at hsub hperm
   refine Asg.sub hsub (asg_perm hperm (asg_name rfl ?_))
   clear hsub hperm
   have hpl : pre.length ≤ 1000 := by have := congrArg List.length hsp; simp at this; exact le_c (Nat.le_trans (mid_l this) hnl) rfl
   have hnt : n ∉ pre := by
    rw [hsp, List.nodup_append] at hns
    intro z
    exact hns.2.2 n z n (.head _) rfl
   have hn : n ∈ ns := by rw [hsp]; simp
   have hlen : FN.length ≤ 1000 := by have := congrArg List.length hk; simp at this; exact le_c (Nat.le_trans (Nat.le_of_eq this) hpl) rfl
   try dsimp only
   walk_at "m"
   refine ev_listC (trl_nil ⟨Nat.le_of_ble_eq_true rfl, fun a => ?_⟩)
   try dsimp only
   walk_at "m"
   refine ⟨_, _, _, _, rfl, rfl, (by walk_at "upd"), by simp [FD]; exact le_s (Nat.add_le_add htl (Nat.add_le_add_right hlen _)) rfl, ?_⟩
   rw [put_new (by rw [FD_name (hdis n hn).1 (hdis n hn).2]; exact dF_none (by rw [hk]; exact hnt))]
   walk_at "m"
   refine ⟨FN ++ [(n, a, [])], by simp [hk], ?_, .cons rfl .nil, (by rw [List.map_append, show FD ts (FN ++ [(n, a, [])]) = FD ts FN ++ [(n, .raw (.ref a))] from by simp [FD, dF]]; exact pinA (p := [_, _, _]))⟩
   ·intro e h
    rcases List.mem_append.mp h with h | h
    ·exact he e h
    ·rw [List.mem_singleton.mp h]
  rintro ⟨ρ', ω'⟩ ⟨FN0, hk0, he0, hsub, hperm⟩
  dsimp only at hsub hperm
  refine TrF.sub hsub (trF_perm hperm ?_)
  clear hsub hperm
  refine exs_nil ?_
  have G0 : FGood ns Snd FN0 := ⟨hk0, fun e h => by rw [he0 e h]; exact List.nodup_nil, fun e h f hf => by rw [he0 e h] at hf; cases hf⟩
  let Iv3 : Nat → Sg → Prop := fun m σ' => EA14 (fun FN => FGood ns Snd FN) (fun FN => m = U.length * ns.length - totF FN) (fun FN => Sub σ'.ρ [("self", .obj aGr d)]) (fun FN => ((d, .dct (selfF pl (.dct pn) pm (.dct te) (.dct no) (.raw (.ref fi)) (.raw (.ref fo)) us st)) :: (fi, C.dct (FD ts FN)) :: (fo, .dct []) :: (FN.map cF ++ ω)).Perm σ'.ω)
  refine exs_cons (ex_while Iv3 _ ⟨FN0, G0, rfl, .cons rfl .nil, .refl _⟩ ?_)
  rintro m ⟨ρ', ω'⟩ ⟨FN, G, hm, hsub, hperm⟩
  dsimp only at hsub hperm
  refine te_plain (ev_bool (ob_bool (ite_t rfl ?_))) rfl
  refine TrF.sub hsub (trF_perm hperm ?_)
  clear hsub hperm
  walk_at "m"
  let Iv4 : PI ns := fun pre σ' => EA24 (fun FN' c => FGood ns Snd FN') (fun FN' c => SW FN FN' c (∀ n ∈ pre, ∀ q ∈ qsOf n, ∀ f ∈ firstF (lkF FN) q.1.2, f ∈ lkF FN n)) (fun FN' c => Sub σ'.ρ [("some_change", .bool c), ("self", .obj aGr d)]) (fun FN' c => ((d, .dct (selfF pl (.dct pn) pm (.dct te) (.dct no) (.raw (.ref fi)) (.raw (.ref fo)) us st)) :: (fi, C.dct (FD ts FN')) :: (fo, .dct []) :: (FN'.map cF ++ ω)).Perm σ'.ω)
  refine ex_forP ns D.str Iv4 ?_ ?_ ?_ (fun _ => rfl)
  ·refine src_of ?_
   walk_at "m"
   refine ⟨?_, FN, false, G, ⟨Nat.le_refl _, fun _ => ⟨rfl, by simp⟩, fun h => by exact fet h⟩, .cons rfl (.cons rfl .nil), .refl _⟩
   have : ns.map D.str = no.map (fun p => D.str p.1) := by rw [← hno, List.map_map]; rfl
   rw [this]
   exact itb_dct R.hd
  ·rintro pre n post ⟨ρ', ω'⟩ hsp ⟨FN1, c1, G1, W1, hsub, hperm⟩
   dsimp only at hsub hperm
   refine Asg.sub hsub (asg_perm hperm (asg_name rfl ?_))
   clear hsub hperm
   have hn : n ∈ ns := by rw [hsp]; simp
   try dsimp only
   let Iv5 : PI (qsOf n) := fun pre2 σ' => EA24 (fun FN' c => FGood ns Snd FN') (fun FN' c => SW FN FN' c ((∀ n ∈ pre, ∀ q ∈ qsOf n, ∀ f ∈ firstF (lkF FN) q.1.2, f ∈ lkF FN n) ∧ (∀ q ∈ pre2, ∀ f ∈ firstF (lkF FN) q.1.2, f ∈ lkF FN n))) (fun FN' c => Sub σ'.ρ [("n", .str n), ("some_change", .bool c), ("self", .obj aGr d)]) (fun FN' c => ((d, .dct (selfF pl (.dct pn) pm (.dct te) (.dct no) (.raw (.ref fi)) (.raw (.ref fo)) us st)) :: (fi, C.dct (FD ts FN')) :: (fo, .dct []) :: (FN'.map cF ++ ω)).Perm σ'.ω)
   refine exs_cons (ex_forP (qsOf n) (prodD aProd) Iv5 ?_ ?_ ?_ (fun _ => rfl))
   ·refine src_of ?_
    refine ev_sub ?_
    walk_at "m"
    refine op_dget .data (hpn n hn) ⟨itb_list R.hd, FN1, c1, G1, ⟨W1.le, fun h => ⟨(W1.no h).1, (W1.no h).2, by simp⟩, W1.yes⟩, .cons rfl (.cons rfl (.cons rfl .nil)), .refl _⟩ (fun _ _ => rfl)
   ·rintro pre2 q post2 ⟨ρ', ω'⟩ hsp2 ⟨FN2, c2, G2, W2, hsub, hperm⟩
    dsimp only at hsub hperm
    refine Asg.sub hsub (asg_perm hperm (asg_name rfl ?_))
    clear hsub hperm
    have hqm : q ∈ qsOf n := by rw [hsp2]; simp
    obtain ⟨hq1, hq2⟩ := hq n hn q hqm
    try dsimp only
    let Iv6 : PI (firstF (lkF FN2) q.1.2) := fun pre3 σ' => EA26 (fun FN' c => FGood ns Snd FN') (fun FN' c => totF FN2 ≤ totF FN') (fun FN' c => (c = false → c2 = false ∧ FN' = FN2 ∧ ∀ f ∈ pre3, f ∈ lkF FN2 n)) (fun FN' c => (c = true → totF FN < totF FN')) (fun FN' c => Sub σ'.ρ [("p", prodD aProd q), ("n", .str n), ("some_change", .bool c), ("self", .obj aGr d)]) (fun FN' c => ((d, .dct (selfF pl (.dct pn) pm (.dct te) (.dct no) (.raw (.ref fi)) (.raw (.ref fo)) us st)) :: (fi, C.dct (FD ts FN')) :: (fo, .dct []) :: (FN'.map cF ++ ω)).Perm σ'.ω)
    refine exs_cons (ex_forP (firstF (lkF FN2) q.1.2) D.str Iv6 ?_ ?_ ?_ (fun _ => rfl))
    ·refine src_of ?_
     refine ev_ometh ?_ rfl rfl rfl
     walk_at "m"
     refine ⟨aGr, _, 221, .cell (by walk_at "mem"), rfl, rfl, ?_⟩
     walk_at "m"
     refine first_ok (k := k) (lk := lkF FN2) (R' _) (by walk_at "mem") rfl rfl (.cell (kds := FD ts FN2) (by walk_at "mem")) (fun x hx => ?_) hq1 ⟨itb_list R.hd, FN2, c2, G2, Nat.le_refl _, fun h => ⟨h, rfl, by simp⟩, W2.yes, .cons rfl (.cons rfl (.cons rfl (.cons rfl .nil))), .refl _⟩
     rcases hq2 x hx with hx | hx
     ·refine ⟨_, FD_term hx, ?_, ?_, ?_⟩
      ·rw [lkF_none (by rw [G2.keys]; exact fun z => (hdis x z).1 hx)]; exact .data
      ·rw [lkF_none (by rw [G2.keys]; exact fun z => (hdis x z).1 hx)]; simp
      ·rw [lkF_none (by rw [G2.keys]; exact fun z => (hdis x z).1 hx)]
       intro s hs; rw [List.mem_singleton.mp hs]; exact hto x hx
     ·refine hide ?_; intro g; obtain ⟨a, h1, h2, h3⟩ := appF_upd (s := x) ω (L := FN2) (k := x) (by rw [G2.keys]; exact hx); dsimp only [g]
      refine ⟨_, (FD_name (hdis x hx).1 (hdis x hx).2).trans h1, .cell ?_, ?_, ?_⟩
      ·exact .tail _ (.tail _ (.tail _ h3.mem))
      ·have := G2.len hU hx; exact le_c (Nat.le_trans this hUl) rfl
      ·intro s hs; exact hUo s (hU x s (G2.snd hx hs))
    ·rintro pre3 f post3 ⟨ρ', ω'⟩ hsp3 ⟨FN3, c3, G3, hle, hno3, hyes, hsub, hperm⟩
     dsimp only at hsub hperm
     refine Asg.sub hsub (asg_perm hperm (asg_name rfl ?_))
     clear hsub hperm
     have hfm : f ∈ firstF (lkF FN2) q.1.2 := by rw [hsp3]; simp
     have hfs : Snd n f := hcl FN2 G2 n hn q hqm f hfm
     have hfo : PyData.strOk f = true := hUo f (hU n f hfs)
     refine hide ?_; intro g; obtain ⟨a, h1, h2, h3⟩ := appF_upd (s := f) ω (L := FN3) (k := n) (by rw [G3.keys]; exact hn); dsimp only [g]
     have hl3 : (lkF FN3 n).length ≤ 100 := by have := G3.len hU hn; exact le_c (Nat.le_trans this hUl) rfl
     have ho3 : ∀ s ∈ lkF FN3 n, PyData.strOk s = true := fun s hs => hUo s (hU n s (G3.snd hn hs))
     try dsimp only
     refine exs_cons (ex_if (te_cmp (ev_var rfl rfl ?_ rfl rfl) rfl))
     refine ev_sub ?_
     walk_at "m"
     refine op_dget (.cell (by walk_at "mem")) ((FD_name (hdis n hn).1 (hdis n hn).2).trans h1) ?_ (fun _ _ => rfl)
     refine op_notin (n := 0) (R' _) (.cell (.tail _ (.tail _ (.tail _ h3.mem)))) hfo (ok_strs ho3 0) (by decide) (ob_bool (ite_b (fun h5 => ?_) (fun h5 => ?_)))
     ·rw [any_str] at h5
      have h5 : f ∉ lkF FN3 n := fun z => by rw [any_eq.mpr z] at h5; exact fet h5
      refine exs_cons (ex_expr (ev_meth (T := "list") (id := "list.append") ?_ F.plainAttrs_list F.slot_list_append F.type_list_append rfl rfl rfl rfl rfl) rfl rfl)
      refine ev_sub ?_
      walk_at "m"
      refine op_dget (.cell (by walk_at "mem")) ((FD_name (hdis n hn).1 (hdis n hn).2).trans h1) ⟨isTy_lst (.cell (.tail _ (.tail _ (.tail _ h3.mem)))), ?_⟩ (fun _ _ => rfl)
      walk_at "m"
      refine ol_append (.tail (.tail (.tail h3))) (by simp; exact le_s hl3 rfl) ⟨rfl, ?_⟩
      walk_at "m"
      have ht : totF (appF n f FN3) = totF FN3 + 1 := appF_tot (by rw [G3.keys]; exact hn)
      refine ⟨appF n f FN3, true, G3.app hn h5 hfs, by lia, (fun h => by exact tef h), (fun _ => by have := W2.le; lia), .cons rfl (.cons rfl (.cons rfl (.cons rfl .nil))), .of_eq ?_⟩
      simp only [FD, appF_dF]
     ·rw [any_str] at h5
      have h5 : f ∈ lkF FN3 n := any_eq.mp (by simpa using h5)
      walk_at "m"
      refine ⟨FN3, c3, G3, hle, fun h => ⟨(hno3 h).1, (hno3 h).2.1, fun g hg => ?_⟩, hyes, .cons rfl (.cons rfl (.cons rfl (.cons rfl .nil))), .refl _⟩
      rcases List.mem_append.mp hg with hg | hg
      ·exact (hno3 h).2.2 g hg
      ·rw [List.mem_singleton.mp hg, ← (hno3 h).2.1]; exact h5
    ·rintro ⟨ρ', ω'⟩ ⟨FN3, c3, G3, hle, hno3, hyes, hsub, hperm⟩
     dsimp only at hsub hperm
     refine TrF.sub hsub ?_
     clear hsub
     refine exs_nil (exs_nil ⟨FN3, c3, G3, ⟨Nat.le_trans W2.le hle, fun h => ?_, hyes⟩, .cons rfl (.cons rfl (.cons rfl .nil)), hperm⟩)
     obtain ⟨h1, h2, h3⟩ := hno3 h
     obtain ⟨h4, h5⟩ := W2.no h1
     refine ⟨h2.trans h4, h5.1, fun q' hq' => ?_⟩
     rcases List.mem_append.mp hq' with hq' | hq'
     ·exact h5.2 q' hq'
     ·rw [List.mem_singleton.mp hq', ← h4]; exact h3
   ·rintro ⟨ρ', ω'⟩ ⟨FN2, c2, G2, W2, hsub, hperm⟩
    dsimp only at hsub hperm
    refine TrF.sub hsub ?_
    clear hsub
    refine exs_nil (exs_nil ⟨FN2, c2, G2, ⟨W2.le, fun h => ?_, W2.yes⟩, .cons rfl (.cons rfl .nil), hperm⟩)
    obtain ⟨h4, h5⟩ := W2.no h
    refine ⟨h4, fun n' hn' => ?_⟩
    rcases List.mem_append.mp hn' with hn' | hn'
    ·exact h5.1 n' hn'
    ·rw [List.mem_singleton.mp hn']; exact h5.2
  ·rintro ⟨ρ', ω'⟩ ⟨FN1, c1, G1, W1, hsub, hperm⟩
   dsimp only at hsub hperm
   refine TrF.sub hsub (trF_perm hperm ?_)
   clear hsub hperm
   refine exs_nil ?_
   walk_at "m"
   refine ob_bool (ite_b (fun h5 => ?_) (fun h5 => ?_))
   ·have h5 : c1 = false := by simpa using h5
    obtain ⟨h6, h7⟩ := W1.no h5
    subst h6
    refine exs_cons (ex_brk ?_)
    walk_at "m"
    exact ⟨_, .refl _, p FN1 G1 h7⟩
   ·have h5 : c1 = true := by simpa using h5
    have h6 := W1.yes h5
    have h7 := G1.tot hU
    walk_at "m"
    refine ⟨_, ?_, FN1, G1, rfl, .cons rfl .nil, .refl _⟩
    subst hm; lia
end
section
noncomputable def setF (k : Str) (a : Addr) (l : List Str) : List FE → List FE
 | [] => []
 | e :: r => if (k == e.1) = true then (e.1, a, l) :: r else e :: setF k a l r
variable {k s : Str} {a : Addr} {l : List Str}
theorem setF_keys (L : List FE) : (setF k a l L).map (·.1) = L.map (·.1) := by
 induction L with
 | nil => exact rfl
 | cons e r ih =>
  unfold setF; split
  ·rfl
  ·simp [ih]
theorem setF_mem {L : List FE} : ∀ {e : FE}, e ∈ setF k a l L → e ∈ L ∨ e = (k, a, l) := by
 induction L with
 | nil => intro e h; cases h
 | cons e' r ih =>
  intro e h
  unfold setF at h
  split at h
  ·rename_i hk
   have hk := beq_iff_eq.mp hk
   rcases List.mem_cons.mp h with rfl | h
   ·right; rw [hk]
   ·exact .inl (.tail _ h)
  ·rcases List.mem_cons.mp h with rfl | h
   ·exact .inl (.head _)
   ·rcases ih h with h | h
    ·exact .inl (.tail _ h)
    ·exact .inr h
theorem lkF_setF {L : List FE} : k ∈ L.map (·.1) → lkF (setF k a l L) k = l := by
 induction L with
 | nil => intro h; cases h
 | cons e r ih =>
  intro h
  unfold setF; split
  ·rename_i hk
   simp only [lkF]; rw [if_pos hk]
  ·rename_i hk
   simp only [lkF]; rw [if_neg hk]
   have hk : ¬ k = e.1 := by simpa using hk
   simp only [List.map_cons, List.mem_cons, hk, false_or] at h
   exact ih h
theorem put_setF {L : List FE} (hn : (L.map (·.1)).Nodup) (h : k ∈ L.map (·.1)) : put (L.map dF) k (.raw (.ref a)) = (setF k a l L).map dF := by
 have h1 : ((L.map dF).any fun kv => decide (kv.1 = k)) = true := by
  rw [List.any_eq_true]
  obtain ⟨e, he, hk⟩ := List.mem_map.mp h
  exact ⟨dF e, List.mem_map_of_mem he, decide_eq_true hk⟩
 unfold put
 rw [if_pos h1]
 clear h1
 induction L with
 | nil => rfl
 | cons e r ih =>
  simp only [List.map_cons, List.nodup_cons, List.mem_cons] at hn h
  unfold setF
  by_cases hk : k = e.1
  ·have h2 : (k == e.1) = true := by simpa using hk
   rw [if_pos h2]
   simp only [List.map_cons, dF, hk, if_true, List.cons.injEq, true_and]
   have : ∀ x ∈ r.map dF, (if x.1 = e.1 then (x.1, D.raw (.ref a)) else x) = x := by
    intro x hx
    obtain ⟨y, hy, rfl⟩ := List.mem_map.mp hx
    have : ¬ (dF y).1 = e.1 := fun z => hn.1 (by rw [← z]; exact List.mem_map_of_mem (f := (·.1)) hy)
    rw [if_neg this]
   exact (List.map_congr_left this).trans (by simp)
  ·have h2 : ¬ (k == e.1) = true := by simpa using hk
   rw [if_neg h2]
   have h3 : ¬ e.1 = k := fun z => hk z.symm
   simp only [List.map_cons, dF, h3, if_false, List.cons.injEq, true_and]
   rcases h with h | h
   ·exact absurd h hk
   ·exact ih hn.2 h
theorem setF_cells {L : List FE} : k ∈ L.map (·.1) → ∃ e0, (e0 :: (setF k a l L).map cF).Perm ((a, .lst (l.map .str)) :: L.map cF) := by
 induction L with
 | nil => intro h; cases h
 | cons e r ih =>
  intro h
  unfold setF; split
  ·exact ⟨cF e, .swap ..⟩
  ·rename_i hk
   have hk : ¬ k = e.1 := by simpa using hk
   simp only [List.map_cons, List.mem_cons, hk, false_or] at h
   obtain ⟨e0, p⟩ := ih h
   exact ⟨e0, ((List.Perm.swap ..).trans (p.cons _)).trans (.swap ..)⟩
theorem isSome_lookup {l : List (Str × D)} : (l.lookup s).isSome = decide (s ∈ l.map (·.1)) := by
 induction l with
 | nil => simp
 | cons e r ih =>
  obtain ⟨n, x⟩ := e
  simp only [List.lookup_cons, List.map_cons, List.mem_cons]
  by_cases h : s = n
  ·have : (s == n) = true := by simpa using h
   rw [this]; simp [h]
  ·have : (s == n) = false := by simpa using h
   rw [this]; simp only [h, false_or]; exact ih
theorem opens_mem {lk : Str → List Str} {x : Str} : ∀ {ss : List Str}, Opens lk x ss → ∃ y ∈ ss, x ∈ lk y
 | y :: r, h => by
  rcases h with h | ⟨_, h⟩
  ·exact ⟨y, .head _, h⟩
  ·obtain ⟨z, hz, h⟩ := opens_mem h
   exact ⟨z, .tail _ hz, h⟩
theorem firstF_mem {lk : Str → List Str} {x : Str} {ss : List Str} (h : x ∈ firstF lk ss) : x = epsS ∨ ∃ y ∈ ss, x ∈ lk y := by
 rcases mem_firstF.mp h with ⟨_, h⟩ | ⟨h, _⟩
 ·exact .inr (opens_mem h)
 ·exact .inl h
structure SX (FN FN2 FN' : List FE) (c2 c : Bool) (cond : Prop) : Prop where
 le : totF FN2 ≤ totF FN'
 no : c = false → c2 = false ∧ FN' = FN2 ∧ cond
 yes : c = true → totF FN < totF FN'
theorem perm_lift {α : Type} {e0 x d f : α} {l l' ω : List α} (h : (e0 :: l).Perm (x :: l')) : (e0 :: d :: f :: (l ++ ω)).Perm (x :: d :: f :: (l' ++ ω)) :=
 ((List.perm_middle (l₁ := [d, f]) (l₂ := l ++ ω) (a := e0)).symm.trans ((h.append_right ω).append_left [d, f])).trans (List.perm_middle (l₁ := [d, f]) (l₂ := l' ++ ω) (a := x))
end
section
variable {w : World} {mg mb : Str → Option Value} {fr : List Env} {A : Around} {env : Env} {σ : Sg} {P : D → Sg → Prop} {Q : Fl → Sg → Prop}
set_option maxHeartbeats 4000000
theorem cfollow_ok {p0 : D} {d fo : Addr} {pn pm te us st : D} {fd no : List (Str × D)} {qs : List (GPr × Nat)} {ns : List Str} {lk : Str → List Str} {start : Str} {Sn : Str → Str → Prop} {U : List Str} {k : Nat} {ρ : List (Str × D)} {ω : Om} (R : ARoom (k + 2) A)
  (hno : no.map (·.1) = ns) (hns : ns.Nodup) (hst : start ∈ ns) (hsl0 : (start.length : Int) ≠ 0) (hsl1 : start.length ≤ 100) (hfd : fd.isEmpty = false) (hfl : fd.length ≤ 1000)
  (hq : ∀ q ∈ qs, q.1.2.length ≤ 20 ∧ q.1.1 ∈ ns ∧ ∀ s ∈ q.1.2, PyData.strOk s = true ∧ fd.lookup s = some (.list ((lk s).map .str)) ∧ (lk s).length ≤ 100 ∧ ∀ f ∈ lk s, PyData.strOk f = true)
  (hU : ∀ n f, Sn n f → f ∈ U) (hUl : U.length ≤ 100) (hUo : ∀ f ∈ U, PyData.strOk f = true) (hS0 : Sn start "$end")
  (hcl1 : ∀ q ∈ qs, ∀ a B b, q.1.2 = a ++ B :: b → B ∈ ns → ∀ f ∈ firstF lk b, f ≠ epsS → Sn B f)
  (hcl2 : ∀ q ∈ qs, ∀ a B b, q.1.2 = a ++ B :: b → B ∈ ns → epsS ∈ firstF lk b → ∀ f, Sn q.1.1 f → Sn B f) (hnl : ns.length ≤ 1000) (hql : qs.length ≤ 1000)
  (p : ∀ FO, FGood ns Sn FO → ("$end" : Str) ∈ lkF FO start → (∀ q ∈ qs, ∀ a B b, q.1.2 = a ++ B :: b → B ∈ ns → (∀ f ∈ firstF lk b, f ≠ epsS → f ∈ lkF FO B) ∧ (epsS ∈ firstF lk b → ∀ f ∈ lkF FO q.1.1, f ∈ lkF FO B)) →
   P (.raw (.ref fo)) ⟨ρ, (d, .dct (selfF (.list (p0 :: qs.map (prodD aProd))) pn pm te (.dct no) (.dct fd) (.raw (.ref fo)) us st)) :: (fo, .dct (FO.map dF)) :: (FO.map cF ++ ω)⟩) :
  OpL (X3 w mg mb fr) A env ⟨ρ, (d, .dct (selfF (.list (p0 :: qs.map (prodD aProd))) pn pm te (.dct no) (.dct fd) (.raw (.ref fo)) us st)) :: (fo, .dct []) :: ω⟩ (fun vs => call (.ref 236) vs) [.obj aGr d, .str start] P := by
 refine ol_perm ?_
 refine fn_call (dbs := [("self", .obj aGr d), ("start", .str start)]) ⟨⟨_, _, _, rfl⟩, rfl, rfl, rfl, rfl, rfl, rfl, rfl, rfl, rfl, rfl, rfl, rfl⟩ R.room ?_ rfl rfl ?_
 ·intro s b vs T hb r
  obtain ⟨v1, v2, rfl, r1, r2⟩ := r.i_two
  exact ⟨_, binds_K (T.inK.keeps hb) rfl rfl rfl rfl rfl, .cons r1 (.cons r2 .nil)⟩
 ·intro L
  have hsl' := hsl
  have R' : ∀ e, ARoom (k + 1) (A.deeper e) := fun e => R.deeper
  try dsimp only
  refine exs_let ?_; intro X' A' e' q'
  walk_at "m"
  refine ob_dict (.cell (by walk_at "mem")) (by decide) (ite_f rfl ?_)
  walk_at "m"
  refine ob_dict .data (by exact le_s hfl rfl) (ite_f (by simp [hfd]) ?_)
  refine exs_nil ?_
  let Iv1 : PI ns := fun pre σ' => EA14 (fun (FO : List FE) => FO.map (·.1) = pre) (fun (FO : List FE) => (∀ e ∈ FO, e.2.2 = [])) (fun (FO : List FE) => Sub σ'.ρ [("self", .obj aGr d), ("start", .str start)]) (fun (FO : List FE) => ((d, .dct (selfF (.list (p0 :: qs.map (prodD aProd))) pn pm te (.dct no) (.dct fd) (.raw (.ref fo)) us st)) :: (fo, C.dct (FO.map dF)) :: (FO.map cF ++ ω)).Perm σ'.ω)
  refine exs_cons (ex_forP ns D.str Iv1 ?_ ?_ ?_ (fun _ => rfl))
  ·refine src_of ?_
   walk_at "m"
   refine ⟨?_, [], rfl, by simp, .cons rfl (.cons rfl .nil), .refl _⟩
   have : ns.map D.str = no.map (fun p => D.str p.1) := by rw [← hno, List.map_map]; rfl
   rw [this]
   exact itb_dct R.hd
  ·rintro pre n post ⟨ρ', ω'⟩ hsp ⟨FO, hk, he, hsub, hperm⟩
   dsimp only at hsub hperm
   refine Asg.sub hsub (asg_perm hperm (asg_name rfl ?_))
   clear hsub hperm
   have hpl : pre.length ≤ 1000 := by have := congrArg List.length hsp; simp at this; exact le_c (Nat.le_trans (mid_l this) hnl) rfl
   have hnt : n ∉ pre := by
    rw [hsp, List.nodup_append] at hns
    intro z
    exact hns.2.2 n z n (.head _) rfl
   have hlen : FO.length ≤ 1000 := by have := congrArg List.length hk; simp at this; exact le_c (Nat.le_trans (Nat.le_of_eq this) hpl) rfl
   try dsimp only
   walk_at "m"
   refine ev_listC (trl_nil ⟨Nat.le_of_ble_eq_true rfl, fun a => ?_⟩)
   try dsimp only
   walk_at "m"
   refine ⟨_, _, _, _, rfl, rfl, (by walk_at "upd"), by simp; exact le_s hlen rfl, ?_⟩
   rw [put_new (dF_none (by rw [hk]; exact hnt))]
   walk_at "m"
   refine ⟨FO ++ [(n, a, [])], by simp [hk], ?_, .cons rfl (.cons rfl .nil), (by rw [List.map_append, List.map_append]; exact pinA (p := [_, _]))⟩
   ·intro e h
    rcases List.mem_append.mp h with h | h
    ·exact he e h
    ·rw [List.mem_singleton.mp h]
  rintro ⟨ρ', ω'⟩ ⟨FO1, hk1, he1, hsub, hperm⟩
  dsimp only at hsub hperm
  refine TrF.sub hsub (trF_perm hperm ?_)
  clear hsub hperm
  refine exs_nil ?_
  have hlen1 : FO1.length ≤ 1000 := by have := congrArg List.length hk1; simp at this; exact le_c (Nat.le_trans (Nat.le_of_eq this) hnl) rfl
  walk_at "m"
  refine ob_str (by exact le_s hsl1 rfl) (ite_f (by simpa using hsl0) ?_)
  walk_at "m"
  refine ev_listC ?_
  walk_at "m"
  intro a0
  try dsimp only
  walk_at "m"
  refine ⟨_, _, _, _, rfl, rfl, (by walk_at "upd"), by simp; exact le_s hlen1 rfl, ?_⟩
  rw [put_setF (by rw [hk1]; exact hns) (by rw [hk1]; exact hst) (l := [("$end" : Str)])]
  obtain ⟨e0, hp0⟩ := setF_cells (a := a0) (l := [("$end" : Str)]) (L := FO1) (k := start) (by rw [hk1]; exact hst)
  have G0 : FGood ns Sn (setF start a0 [("$end" : Str)] FO1) := by
   refine ⟨by rw [setF_keys]; exact hk1, fun e h => ?_, fun e h f hf => ?_⟩
   ·rcases setF_mem h with h | rfl
    ·rw [he1 e h]; exact List.nodup_nil
    ·simp
   ·rcases setF_mem h with h | rfl
    ·rw [he1 e h] at hf; cases hf
    ·rw [List.mem_singleton.mp hf]; exact hS0
  have hend0 : ("$end" : Str) ∈ lkF (setF start a0 [("$end" : Str)] FO1) start := by rw [lkF_setF (by rw [hk1]; exact hst)]; exact .head _
  generalize hFO : setF start a0 [("$end" : Str)] FO1 = FO0 at hp0 G0 hend0 ⊢
  have hP : (e0 :: (d, .dct (selfF (.list (p0 :: qs.map (prodD aProd))) pn pm te (.dct no) (.dct fd) (.raw (.ref fo)) us st)) :: (fo, C.dct (FO0.map dF)) :: (FO0.map cF ++ ω)).Perm ((a0, C.lst ([("$end" : Str)].map .str)) :: (d, .dct (selfF (.list (p0 :: qs.map (prodD aProd))) pn pm te (.dct no) (.dct fd) (.raw (.ref fo)) us st)) :: (fo, .dct (FO0.map dF)) :: (FO1.map cF ++ ω)) := by
   exact perm_lift hp0
  refine trF_perm hP (trF_drop (.cons _ (.refl _)) ?_)
  clear hP hp0 hFO
  let Iv2 : Nat → Sg → Prop := fun m σ' => EA15 (fun (FO : List FE) => FGood ns Sn FO) (fun (FO : List FE) => ("$end" : Str) ∈ lkF FO start) (fun (FO : List FE) => m = U.length * ns.length - totF FO) (fun (FO : List FE) => Sub σ'.ρ [("self", .obj aGr d), ("start", .str start)]) (fun (FO : List FE) => ((d, .dct (selfF (.list (p0 :: qs.map (prodD aProd))) pn pm te (.dct no) (.dct fd) (.raw (.ref fo)) us st)) :: (fo, C.dct (FO.map dF)) :: (FO.map cF ++ ω)).Perm σ'.ω)
  refine exs_cons (ex_while Iv2 _ ⟨FO0, G0, hend0, rfl, .cons rfl (.cons rfl .nil), .refl _⟩ ?_)
  rintro m ⟨ρ', ω'⟩ ⟨FO, G, hend, hm, hsub, hperm⟩
  dsimp only at hsub hperm
  refine te_plain (ev_bool (ob_bool (ite_t rfl ?_))) rfl
  refine TrF.sub hsub (trF_perm hperm ?_)
  clear hsub hperm
  walk_at "m"
  let Iv3 : PI qs := fun pre σ' => EA25 (fun FO' c => FGood ns Sn FO') (fun FO' c => SX FO FO FO' false c (∀ q ∈ pre, ∀ a B b, q.1.2 = a ++ B :: b → B ∈ ns → (∀ f ∈ firstF lk b, f ≠ epsS → f ∈ lkF FO B) ∧ (epsS ∈ firstF lk b → ∀ f ∈ lkF FO q.1.1, f ∈ lkF FO B))) (fun FO' c => ("$end" : Str) ∈ lkF FO' start) (fun FO' c => Sub σ'.ρ [("didadd", .bool c), ("self", .obj aGr d), ("start", .str start)]) (fun FO' c => ((d, .dct (selfF (.list (p0 :: qs.map (prodD aProd))) pn pm te (.dct no) (.dct fd) (.raw (.ref fo)) us st)) :: (fo, C.dct (FO'.map dF)) :: (FO'.map cF ++ ω)).Perm σ'.ω)
  refine ex_forP qs (prodD aProd) Iv3 ?_ ?_ ?_ (fun _ => rfl)
  ·refine src_of (ev_slice_fromA ?_ rfl)
   walk_at "m"
   refine ⟨_, 1, rfl, by simp, by simp; exact le_s (Nat.add_le_add_right hql _) rfl, .data, itb_list R.hd, FO, false, G, ⟨Nat.le_refl _, fun _ => ⟨rfl, rfl, by simp⟩, fun h => by exact fet h⟩, hend, .cons rfl (.cons rfl (.cons rfl .nil)), .refl _⟩
  ·rintro pre q post ⟨ρ', ω'⟩ hsp ⟨FO1, c1, G1, W1, hend1, hsub, hperm⟩
   dsimp only at hsub hperm
   refine Asg.sub hsub (asg_perm hperm (asg_name rfl ?_))
   clear hsub hperm
   have hqm : q ∈ qs := by rw [hsp]; simp
   refine hide ?_; intro g; obtain ⟨hq1, hq2, hq3⟩ := hq q hqm; dsimp only [g]
   try dsimp only
   let Iv4 : PI q.1.2.zipIdx := fun pre2 σ' => EA25 (fun FO' c => FGood ns Sn FO') (fun FO' c => SX FO FO1 FO' c1 c (∀ a B b, q.1.2 = a ++ B :: b → a.length < pre2.length → B ∈ ns → (∀ f ∈ firstF lk b, f ≠ epsS → f ∈ lkF FO1 B) ∧ (epsS ∈ firstF lk b → ∀ f ∈ lkF FO1 q.1.1, f ∈ lkF FO1 B))) (fun FO' c => ("$end" : Str) ∈ lkF FO' start) (fun FO' c => Sub σ'.ρ [("p", prodD aProd q), ("didadd", .bool c), ("self", .obj aGr d), ("start", .str start)]) (fun FO' c => ((d, .dct (selfF (.list (p0 :: qs.map (prodD aProd))) pn pm te (.dct no) (.dct fd) (.raw (.ref fo)) us st)) :: (fo, C.dct (FO'.map dF)) :: (FO'.map cF ++ ω)).Perm σ'.ω)
   refine exs_cons (ex_forP q.1.2.zipIdx (fun p => .tup [.int (p.2 : Nat), .str p.1]) Iv4 ?_ ?_ ?_ (fun _ => rfl))
   ·rw [← enumD_map]
    refine src_enumT R.hd (ev_blt rfl (by boot_fast) (by decide) rfl ⟨rfl, ?_⟩ rfl) rfl rfl
    walk_at "m"
    refine ⟨rfl, FO1, c1, G1, ⟨Nat.le_refl _, fun h => ⟨h, rfl, fun a B b _ h => absurd h (by simp)⟩, W1.yes⟩, hend1, .cons rfl (.cons rfl (.cons rfl (.cons rfl .nil))), .refl _⟩
   ·rintro pre2 ⟨B, i⟩ post2 ⟨ρ', ω'⟩ hsp2 ⟨FO2, c2, G2, W2, hend2, hsub, hperm⟩
    dsimp only at hsub hperm
    refine Asg.sub hsub (asg_perm hperm (asg_tup2 R.hd rfl rfl ?_))
    clear hsub hperm
    obtain ⟨hi, hil⟩ := zipIdx_split hsp2
    subst hi
    obtain ⟨hB, hsplit⟩ : q.1.2[pre2.length]? = some B ∧ q.1.2 = q.1.2.take pre2.length ++ B :: q.1.2.drop (pre2.length + 1) := by
     have h1 : q.1.2.zipIdx[pre2.length]? = some (B, pre2.length) := by rw [hsp2]; simp
     rw [List.getElem?_zipIdx] at h1
     have h2 : q.1.2[pre2.length]? = some B := by
      cases hx : q.1.2[pre2.length]? with
      | none => rw [hx] at h1; exact nso h1
      | some y => rw [hx] at h1; simp at h1; rw [h1]
     exact ⟨h2, split_at h2⟩
    have hone : ∀ a B' b, q.1.2 = a ++ B' :: b → a.length < (pre2 ++ [(B, pre2.length)]).length → a.length < pre2.length ∨ (B' = B ∧ b = q.1.2.drop (pre2.length + 1)) := by
     intro a B' b h1 h2
     rw [List.length_append, List.length_singleton] at h2
     rcases Nat.lt_or_ge a.length pre2.length with h3 | h3
     ·exact .inl h3
     ·right
      have h4 : a.length = pre2.length := by lia
      rw [← h4, h1] at hB
      rw [← h4, h1]
      simp at hB ⊢
      exact hB
    have hBm : B ∈ q.1.2 := List.mem_of_getElem? hB
    try dsimp only
    walk_at "m"
    refine op_din .data (ob_bool ?_)
    rw [isSome_lookup, hno]
    by_cases hBn : B ∈ ns
    ·refine ite_t (by simp [hBn]) ?_
     have hdl : q.1.2.drop (pre2.length + 1) = q.1.2.drop (pre2.length + 1) := rfl
     walk_at "m"
     refine ev_ometh ?_ rfl rfl rfl
     walk_at "m"
     refine ⟨aGr, _, 221, .cell (by walk_at "mem"), rfl, rfl, ?_⟩
     refine trl_cons (ev_slice_fromTA ?_ rfl) rfl
     walk_at "m"
     refine op_add ?_
     refine ⟨_, pre2.length + 1, rfl, by exact Nat.succ_le_succ (Nat.zero_le _), by simp; exact hil, by simp; exact le_s hq1 rfl, rfl, ?_⟩
     walk_at "m"
     rw [← List.map_drop]
     have hbm : ∀ x ∈ q.1.2.drop (pre2.length + 1), x ∈ q.1.2 := fun x hx => List.mem_of_mem_drop hx
     have hbl : (q.1.2.drop (pre2.length + 1)).length ≤ 20 := by rw [List.length_drop]; lia
     generalize hbe : q.1.2.drop (pre2.length + 1) = bs at hbm hbl hsplit hone ⊢
     refine first_ok (k := k) (lk := lk) (R' _) (by walk_at "mem") rfl rfl (.data (kds := fd)) (fun x hx => ?_) hbl ?_
     ·refine hide ?_; intro g; obtain ⟨h1, h2, h3, h4⟩ := hq3 x (hbm x hx); dsimp only [g]
      exact ⟨_, h2, .data, h3, h4⟩
     have hfo : ∀ f ∈ firstF lk bs, PyData.strOk f = true := fun f hf => by
      rcases firstF_mem hf with rfl | ⟨y, hy, hf⟩
      ·exact epsOk
      ·exact (hq3 y (hbm y hy)).2.2.2 f hf
     have hc1 : ∀ f ∈ firstF lk bs, f ≠ epsS → Sn B f := hcl1 q hqm _ B bs hsplit hBn
     have hlast : pre2.length + 1 = q.1.2.length → epsS ∈ firstF lk bs := fun h => by
      have : bs = [] := by rw [← hbe, h]; simp
      rw [this]; exact .head _
     try dsimp only
     walk_at "m"
     let Iv5 : PI (firstF lk bs) := fun pre3 σ' => EA25 (fun FO' c => FGood ns Sn FO') (fun FO' c => SX FO FO2 FO' c2 c (∀ f ∈ pre3, f ≠ epsS → f ∈ lkF FO2 B)) (fun FO' c => ("$end" : Str) ∈ lkF FO' start) (fun FO' c => Sub σ'.ρ [("hasempty", .bool (pre3.any fun z => z == epsS)), ("B", .str B), ("i", .int (pre2.length : Nat)), ("p", prodD aProd q), ("didadd", .bool c), ("self", .obj aGr d), ("start", .str start)]) (fun FO' c => ((d, .dct (selfF (.list (p0 :: qs.map (prodD aProd))) pn pm te (.dct no) (.dct fd) (.raw (.ref fo)) us st)) :: (fo, C.dct (FO'.map dF)) :: (FO'.map cF ++ ω)).Perm σ'.ω)
     refine ex_forP (firstF lk bs) D.str Iv5 ?_ ?_ ?_ (fun _ => rfl)
     ·refine src_of ?_
      walk_at "m"
      exact ⟨itb_list R.hd, FO2, c2, G2, ⟨Nat.le_refl _, fun h => ⟨h, rfl, by simp⟩, W2.yes⟩, hend2, .cons rfl (.cons rfl (.cons rfl (.cons rfl (.cons rfl (.cons rfl (.cons rfl .nil)))))), .refl _⟩
     ·rintro pre3 f post3 ⟨ρ', ω'⟩ hsp3 ⟨FO3, c3, G3, W3, hend3, hsub, hperm⟩
      dsimp only at hsub hperm
      refine Asg.sub hsub (asg_perm hperm (asg_name rfl ?_))
      clear hsub hperm
      have hfm : f ∈ firstF lk bs := by rw [hsp3]; simp
      refine hide ?_; intro g; obtain ⟨a, g1, g2, g3⟩ := appF_upd (s := f) ω (L := FO3) (k := B) (by rw [G3.keys]; exact hBn); dsimp only [g]
      have hl3 : (lkF FO3 B).length ≤ 100 := by have := G3.len hU hBn; exact le_c (Nat.le_trans this hUl) rfl
      have ho3 : ∀ s ∈ lkF FO3 B, PyData.strOk s = true := fun s hs => hUo s (hU B s (G3.snd hBn hs))
      have hany : ((pre3 ++ [f]).any fun z => z == epsS) = ((pre3.any fun z => z == epsS) || (f == epsS)) := by simp
      try dsimp only
      walk_at "m"
      refine op_ne (n := 0) (R' _) (hfo f hfm) epsOk (by decide) (ob_bool (ite_b (fun h5 => ?_) (fun h5 => ?_)))
      ·have h5 : (f == epsS) = false := by have h5' : (!(f == epsS)) = true := h5; rw [Bool.not_eq_true'] at h5'; exact h5'
       have h5' : f ≠ epsS := by simpa using h5
       have hv : ((pre3 ++ [f]).any fun z => z == epsS) = (pre3.any fun z => z == epsS) := by rw [hany, h5, Bool.or_false]
       refine te_and (te_cmp (ev_var rfl rfl ?_ rfl rfl) rfl)
       refine ev_sub ?_
       walk_at "m"
       refine op_dget (.cell (by walk_at "mem")) g1 ?_ (fun _ _ => rfl)
       refine op_notin (n := 0) (R' _) (.cell (.tail _ (.tail _ g3.mem))) (hfo f hfm) (ok_strs ho3 0) (by decide) (ob_bool (ite_b (fun h6 => te_and_nil (ite_t rfl ?_)) (fun h6 => ite_f rfl ?_)))
       ·rw [any_str] at h6
        have h6 : f ∉ lkF FO3 B := fun z => by rw [any_eq.mpr z] at h6; exact fet h6
        refine exs_cons (ex_expr (ev_meth (T := "list") (id := "list.append") ?_ F.plainAttrs_list F.slot_list_append F.type_list_append rfl rfl rfl rfl rfl) rfl rfl)
        refine ev_sub ?_
        walk_at "m"
        refine op_dget (.cell (by walk_at "mem")) g1 ⟨isTy_lst (.cell (.tail _ (.tail _ g3.mem))), ?_⟩ (fun _ _ => rfl)
        walk_at "m"
        refine ol_append (.tail (.tail g3)) (by simp; exact le_s hl3 rfl) ⟨rfl, ?_⟩
        walk_at "m"
        refine op_eq (n := 0) (R' _) (hfo f hfm) epsOk (by decide) (ob_bool (ite_f h5 ?_))
        walk_at "m"
        have ht : totF (appF B f FO3) = totF FO3 + 1 := appF_tot (by rw [G3.keys]; exact hBn)
        refine ⟨appF B f FO3, true, G3.app hBn h6 (hc1 f hfm h5'), ⟨by have := W3.le; lia, (fun h => by exact tef h), fun _ => ?_⟩, ?_, .cons (by rw [hv]; rfl) (.cons rfl (.cons rfl (.cons rfl (.cons rfl (.cons rfl (.cons rfl .nil)))))), .of_eq ?_⟩
        ·rcases hc3 : c3 with _ | _
         ·obtain ⟨h1, h2, _⟩ := W3.no hc3
          obtain ⟨h4, h5, _⟩ := W2.no h1
          obtain ⟨_, h8, _⟩ := W1.no h4
          rw [ht, h2, h5, h8]; lia
         ·have := W3.yes hc3; lia
        ·rw [lkF_app (by rw [G3.keys]; exact hBn)]
         split
         ·exact List.mem_append_left _ hend3
         ·exact hend3
        ·rw [appF_dF]
       ·rw [any_str] at h6
        have h6 : f ∈ lkF FO3 B := any_eq.mp (by simpa using h6)
        walk_at "m"
        refine op_eq (n := 0) (R' _) (hfo f hfm) epsOk (by decide) (ob_bool (ite_f h5 ?_))
        walk_at "m"
        refine ⟨FO3, c3, G3, ⟨W3.le, fun h => ?_, W3.yes⟩, hend3, .cons (by rw [hv]; rfl) (.cons rfl (.cons rfl (.cons rfl (.cons rfl (.cons rfl (.cons rfl .nil)))))), .refl _⟩
        obtain ⟨h1, h2, h3⟩ := W3.no h
        refine ⟨h1, h2, fun g hg hg' => ?_⟩
        rcases List.mem_append.mp hg with hg | hg
        ·exact h3 g hg hg'
        ·rw [List.mem_singleton.mp hg, ← h2]; exact h6
      ·have h5 : (f == epsS) = true := by have h5' : (!(f == epsS)) = false := h5; rw [Bool.not_eq_false'] at h5'; exact h5'
       have hv : ((pre3 ++ [f]).any fun z => z == epsS) = true := by rw [hany, h5, Bool.or_true]
       refine ite_f rfl ?_
       walk_at "m"
       refine op_eq (n := 0) (R' _) (hfo f hfm) epsOk (by decide) (ob_bool (ite_t h5 ?_))
       walk_at "m"
       refine ⟨FO3, c3, G3, ⟨W3.le, fun h => ?_, W3.yes⟩, hend3, .cons (by rw [hv]; rfl) (.cons rfl (.cons rfl (.cons rfl (.cons rfl (.cons rfl (.cons rfl .nil)))))), .refl _⟩
       obtain ⟨h1, h2, h3⟩ := W3.no h
       refine ⟨h1, h2, fun g hg hg' => ?_⟩
       rcases List.mem_append.mp hg with hg | hg
       ·exact h3 g hg hg'
       ·rw [List.mem_singleton.mp hg] at hg'; exact absurd (beq_iff_eq.mp h5) hg'
     ·rintro ⟨ρ', ω'⟩ ⟨FO3, c3, G3, W3, hend3, hsub, hperm⟩
      dsimp only at hsub hperm
      refine TrF.sub hsub (trF_perm hperm ?_)
      clear hsub hperm
      refine exs_nil ?_
      walk_at "m"
      have hfin : ∀ (FO' : List FE) (c : Bool), SX FO FO3 FO' c3 c (epsS ∈ firstF lk bs → ∀ f ∈ lkF FO3 q.1.1, f ∈ lkF FO3 B) → SX FO FO1 FO' c1 c (∀ a B2 b, q.1.2 = a ++ B2 :: b → a.length < (pre2 ++ [(B, pre2.length)]).length → B2 ∈ ns → (∀ f ∈ firstF lk b, f ≠ epsS → f ∈ lkF FO1 B2) ∧ (epsS ∈ firstF lk b → ∀ f ∈ lkF FO1 q.1.1, f ∈ lkF FO1 B2)) := fun FO' c W => by
       refine ⟨Nat.le_trans W2.le (Nat.le_trans W3.le W.le), fun h => ?_, W.yes⟩
       obtain ⟨h1, h2, h3⟩ := W.no h
       obtain ⟨h4, h5, h6⟩ := W3.no h1
       obtain ⟨h7, h8, h9⟩ := W2.no h4
       refine ⟨h7, h2.trans (h5.trans h8), fun a B2 b k1 k2 k3 => ?_⟩
       rcases hone a B2 b k1 k2 with k4 | ⟨rfl, rfl⟩
       ·exact h9 a B2 b k1 k4 k3
       ·rw [← h8]
        refine ⟨h6, ?_⟩
        rw [← h5]; exact h3
      refine ob_bool (ite_b (fun h5 => ?_) (fun h5 => ?_))
      ·have h5 : epsS ∈ firstF lk bs := any_eq.mp h5
       refine hide ?_; intro g; obtain ⟨an, n1, n2, _⟩ := appF_upd (s := epsS) ω (L := FO3) (k := q.1.1) (by rw [G3.keys]; exact hq2); dsimp only [g]
       let Iv6 : PI (lkF FO3 q.1.1) := fun pre4 σ' => EA27 (fun FO' c => FGood ns Sn FO') (fun FO' c => SX FO FO3 FO' c3 c (∀ f ∈ pre4, f ∈ lkF FO3 B)) (fun FO' c => ("$end" : Str) ∈ lkF FO' start) (fun FO' c => FO'.map dF = FO3.map dF) (fun FO' c => lkF FO' q.1.1 = lkF FO3 q.1.1) (fun FO' c => Sub σ'.ρ [("B", .str B), ("p", prodD aProd q), ("didadd", .bool c), ("self", .obj aGr d), ("start", .str start)]) (fun FO' c => ((d, .dct (selfF (.list (p0 :: qs.map (prodD aProd))) pn pm te (.dct no) (.dct fd) (.raw (.ref fo)) us st)) :: (fo, C.dct (FO'.map dF)) :: (FO'.map cF ++ ω)).Perm σ'.ω)
       refine exs_cons (ex_forC (.raw (.ref an)) (lkF FO3 q.1.1) D.str Iv6 R.hd ?_ ?_ ?_ ?_ (fun _ => rfl))
       ·refine ev_sub ?_
        walk_at "m"
        refine op_dget (.cell (by walk_at "mem")) n1 ⟨rfl, FO3, c3, G3, ⟨Nat.le_refl _, fun h => ⟨h, rfl, by simp⟩, W3.yes⟩, hend3, rfl, rfl, .cons rfl (.cons rfl (.cons rfl (.cons rfl (.cons rfl .nil)))), .refl _⟩ (fun _ _ => rfl)
       ·intro pre4 σ' hh; refine hide ?_; intro g; obtain ⟨FO', c, G', W', _, hd', hl', _, hperm⟩ := hh; dsimp only [g]
        obtain ⟨a', m1, m2, m3⟩ := appF_upd (s := epsS) ω (L := FO') (k := q.1.1) (by rw [G'.keys]; exact hq2)
        rw [hd'] at m1
        have : an = a' := by have := n1.symm.trans m1; injection this with h; injection h with h; injection h
        subst this
        rw [← hl']
        exact .cell (hperm.mem_iff.mp (.tail _ (.tail _ m3.mem)))
       ·rintro pre4 f post4 ⟨ρ', ω'⟩ hsp4 ⟨FO4, c4, G4, W4, hend4, hd4, hl4, hsub, hperm⟩
        dsimp only at hsub hperm
        refine Asg.sub hsub (asg_perm hperm (asg_name rfl ?_))
        clear hsub hperm
        have hfm : f ∈ lkF FO3 q.1.1 := by rw [hsp4]; simp
        have hfs : Sn q.1.1 f := G3.snd hq2 hfm
        have hfo' : PyData.strOk f = true := hUo f (hU _ f hfs)
        have hfB : Sn B f := hcl2 q hqm _ B bs hsplit hBn h5 f hfs
        refine hide ?_; intro g; obtain ⟨a, g1, g2, g3⟩ := appF_upd (s := f) ω (L := FO4) (k := B) (by rw [G4.keys]; exact hBn); dsimp only [g]
        have hl4' : (lkF FO4 B).length ≤ 100 := by have := G4.len hU hBn; exact le_c (Nat.le_trans this hUl) rfl
        have ho4 : ∀ s ∈ lkF FO4 B, PyData.strOk s = true := fun s hs => hUo s (hU B s (G4.snd hBn hs))
        try dsimp only
        refine exs_cons (ex_if (te_cmp (ev_var rfl rfl ?_ rfl rfl) rfl))
        refine ev_sub ?_
        walk_at "m"
        refine op_dget (.cell (by walk_at "mem")) g1 ?_ (fun _ _ => rfl)
        refine op_notin (n := 0) (R' _) (.cell (.tail _ (.tail _ g3.mem))) hfo' (ok_strs ho4 0) (by decide) (ob_bool (ite_b (fun h6 => ?_) (fun h6 => ?_)))
        ·rw [any_str] at h6
         have h6 : f ∉ lkF FO4 B := fun z => by rw [any_eq.mpr z] at h6; exact fet h6
         have hne : ¬ q.1.1 = B := fun z => h6 (by rw [← z, hl4]; exact hfm)
         refine exs_cons (ex_expr (ev_meth (T := "list") (id := "list.append") ?_ F.plainAttrs_list F.slot_list_append F.type_list_append rfl rfl rfl rfl rfl) rfl rfl)
         refine ev_sub ?_
         walk_at "m"
         refine op_dget (.cell (by walk_at "mem")) g1 ⟨isTy_lst (.cell (.tail _ (.tail _ g3.mem))), ?_⟩ (fun _ _ => rfl)
         walk_at "m"
         refine ol_append (.tail (.tail g3)) (by simp; exact le_s hl4' rfl) ⟨rfl, ?_⟩
         walk_at "m"
         have ht : totF (appF B f FO4) = totF FO4 + 1 := appF_tot (by rw [G4.keys]; exact hBn)
         refine ⟨appF B f FO4, true, G4.app hBn h6 hfB, ⟨by have := W4.le; lia, (fun h => by exact tef h), fun _ => ?_⟩, ?_, by rw [appF_dF]; exact hd4, ?_, .cons rfl (.cons rfl (.cons rfl (.cons rfl (.cons rfl .nil)))), .of_eq ?_⟩
         ·have := W1.le; have := W2.le; have := W3.le; have := W4.le; lia
         ·rw [lkF_app (by rw [G4.keys]; exact hBn)]
          split
          ·exact List.mem_append_left _ hend4
          ·exact hend4
         ·rw [lkF_app (by rw [G4.keys]; exact hBn), if_neg (by simpa using hne)]; exact hl4
         ·rw [appF_dF]
        ·rw [any_str] at h6
         have h6 : f ∈ lkF FO4 B := any_eq.mp (by simpa using h6)
         walk_at "m"
         refine ⟨FO4, c4, G4, ⟨W4.le, fun h => ?_, W4.yes⟩, hend4, hd4, hl4, .cons rfl (.cons rfl (.cons rfl (.cons rfl (.cons rfl .nil)))), .refl _⟩
         obtain ⟨h1, h2, h3⟩ := W4.no h
         refine ⟨h1, h2, fun g hg => ?_⟩
         rcases List.mem_append.mp hg with hg | hg
         ·exact h3 g hg
         ·rw [List.mem_singleton.mp hg, ← h2]; exact h6
       ·rintro ⟨ρ', ω'⟩ ⟨FO4, c4, G4, W4, hend4, hd4, hl4, hsub, hperm⟩
        dsimp only at hsub hperm
        refine TrF.sub hsub ?_
        clear hsub
        refine exs_nil (exs_nil (exs_nil (exs_nil ⟨FO4, c4, G4, hfin FO4 c4 ⟨W4.le, fun h => ?_, W4.yes⟩, hend4, .cons rfl (.cons rfl (.cons rfl (.cons rfl .nil))), hperm⟩)))
        obtain ⟨h1, h2, h3⟩ := W4.no h
        exact ⟨h1, h2, fun _ => h3⟩
      ·have h5 : epsS ∉ firstF lk bs := fun z => by rw [any_eq.mpr z] at h5; exact tef h5
       walk_at "m"
       refine ev_callB (ev_blt rfl (by boot_fast) (by decide) rfl ⟨rfl, ?_⟩ rfl) rfl rfl rfl
       walk_at "m"
       refine ol_lenT (by simp; exact le_s hq1 rfl) ?_
       walk_at "m"
       refine op_sub ?_
       refine op_eq (n := 0) (R' _) rfl rfl (by decide) (ob_bool (ite_f ?_ ?_))
       ·have : ¬ (pre2.length + 1 = q.1.2.length) := fun z => h5 (hlast z)
        show (decide (_ = _)) = false
        simp; lia
       walk_at "m"
       exact exs_nil (exs_nil (exs_nil ⟨FO3, c3, G3, hfin FO3 c3 ⟨Nat.le_refl _, fun h => ⟨h, rfl, fun z => absurd z h5⟩, W3.yes⟩, hend3, .cons rfl (.cons rfl (.cons rfl (.cons rfl .nil))), .refl _⟩))
    ·refine ite_f (by simp [hBn]) ?_
     walk_at "m"
     refine ⟨FO2, c2, G2, ⟨W2.le, fun h => ?_, W2.yes⟩, hend2, .cons rfl (.cons rfl (.cons rfl (.cons rfl .nil))), .refl _⟩
     obtain ⟨h1, h2, h3⟩ := W2.no h
     refine ⟨h1, h2, fun a B' b h4 h5 h6 => ?_⟩
     rcases hone a B' b h4 h5 with h7 | ⟨rfl, _⟩
     ·exact h3 a B' b h4 h7 h6
     ·exact absurd h6 hBn
   ·rintro ⟨ρ', ω'⟩ ⟨FO2, c2, G2, W2, hend2, hsub, hperm⟩
    dsimp only at hsub hperm
    refine TrF.sub hsub ?_
    clear hsub
    refine exs_nil (exs_nil ⟨FO2, c2, G2, ⟨Nat.le_trans W1.le W2.le, fun h => ?_, W2.yes⟩, hend2, .cons rfl (.cons rfl (.cons rfl .nil)), hperm⟩)
    obtain ⟨h1, h2, h3⟩ := W2.no h
    obtain ⟨h4, h5, h6⟩ := W1.no h1
    refine ⟨rfl, h2.trans h5, fun q' hq' a B b h7 h8 => ?_⟩
    rcases List.mem_append.mp hq' with hq' | hq'
    ·exact h6 q' hq' a B b h7 h8
    ·rw [List.mem_singleton.mp hq'] at h7 ⊢
     rw [← h5]
     refine h3 a B b h7 ?_ h8
     rw [List.length_zipIdx, h7]; simp
  ·rintro ⟨ρ', ω'⟩ ⟨FO1, c1, G1, W1, hend1, hsub, hperm⟩
   dsimp only at hsub hperm
   refine TrF.sub hsub (trF_perm hperm ?_)
   clear hsub hperm
   refine exs_nil ?_
   walk_at "m"
   refine ob_bool (ite_b (fun h5 => ?_) (fun h5 => ?_))
   ·have h5 : c1 = false := by simpa using h5
    obtain ⟨_, h6, h7⟩ := W1.no h5
    subst h6
    refine exs_cons (ex_brk ?_)
    walk_at "m"
    exact ⟨_, .refl _, p FO1 G1 hend1 h7⟩
   ·have h5 : c1 = true := by simpa using h5
    have h6 := W1.yes h5
    have h7 := G1.tot hU
    walk_at "m"
    refine ⟨_, ?_, FO1, G1, hend1, rfl, .cons rfl (.cons rfl .nil), .refl _⟩
    subst hm; lia
noncomputable def p0D (start : Str) : D := .inst aProd (prodA 0 ("S'", [start]))
theorem setstart_ok {g : GA} {start : Str} {ps : List D} {pm : List (Str × D)} {TT NT PN : List NE} {ω : Om} {k : Nat} (R : ARoom (k + 4) A) (hw : σ.ω = ωG g (.none :: ps) pm TT NT PN ω) (hs : start ∈ NT.map (·.1)) (hl : start.length = 1) (ho : PyData.strOk start = true)
  (hz : ∀ e ∈ NT, e.2.2.length ≤ 10000) (pp : P .none ⟨σ.ρ, ωG { g with st := .str start } (p0D start :: ps) pm TT (appE start (.int 0) NT) PN ω⟩) :
  OpL (X3 w mg mb fr) A env σ (fun vs => call (.ref 174) vs) [.obj aGr g.d, .str start] P := by
 refine fn_call (dbs := [("self", .obj aGr g.d), ("start", .str start)]) ⟨⟨_, _, _, rfl⟩, rfl, rfl, rfl, rfl, rfl, rfl, rfl, rfl, rfl, rfl, rfl, rfl⟩ R.room ?_ rfl rfl ?_
 ·intro s b vs T hb r
  obtain ⟨v1, v2, rfl, r1, r2⟩ := r.i_two
  exact ⟨_, binds_K (T.inK.keeps hb) rfl rfl rfl rfl rfl, .cons r1 (.cons r2 .nil)⟩
 ·intro L
  have hsl' := hsl
  have R' : ∀ e, ARoom (k + 3) (A.deeper e) := fun e => R.deeper
  try dsimp only
  refine exs_let ?_; intro X' A' e' q'
  rw [hw]
  unfold ωG
  walk_at "m"
  refine ob_str (by exact le_s (Nat.le_of_eq hl) rfl) (ite_f (by rw [hl]; rfl) ?_)
  walk_at "m"
  refine op_dnotin (.cell (by walk_at "mem")) (ob_bool (ite_f (by rw [dE_isSome]; simpa using hs) (exs_nil ?_)))
  refine exs_cons (ex_lset ?hv ?ha)
  case ha => exact rfl
  walk_at "m"
  refine ev_callO (ev_glob (v := .ref aProd) rfl (fun _ _ => .raw _) rfl ⟨rfl, ?_⟩ rfl) rfl rfl rfl rfl
  walk_at "m"
  refine ev_list ?_
  walk_at "m"
  refine prod_call (sh := true) (n := 0) (p := ("S'", [start])) (k := k + 1) (R' _) (by simp) (fun s hs => ?_) (Nat.le_of_ble_eq_true rfl) ?_
  ·rw [List.mem_singleton.mp hs]; exact ⟨by exact le_c (Nat.le_of_eq hl) rfl, ho⟩
  walk_at "m"
  refine ⟨g.pr, 0, .none :: ps, _, rfl, rfl, by simp, by decide, (by walk_at "upd"), ?_⟩
  try dsimp only [List.set]
  obtain ⟨a, l, h1, h2, h3⟩ := appE_upd (.int 0) (L := NT) (PN.map cE ++ ω) hs
  walk_at "m"
  refine ev_meth (T := "list") (id := "list.append") ?_ F.plainAttrs_list F.slot_list_append F.type_list_append rfl rfl rfl rfl rfl
  walk_at "m"
  refine ev_sub ?_
  walk_at "m"
  refine op_dget (.cell (by walk_at "mem")) h1 ?_ (fun _ _ => rfl)
  have hup := (Upd.skip (TT.map cE) h3)
  refine ⟨isTy_lst (.cell (.tail _ (.tail _ (.tail _ (.tail _ (.tail _ (.tail _ (.tail _ (.tail _ hup.mem))))))))), ?_⟩
  walk_at "m"
  refine ol_append (.tail (.tail (.tail (.tail (.tail (.tail (.tail (.tail hup)))))))) (by have := hz _ h2; simp at this ⊢; exact le_s this rfl) ⟨rfl, ?_⟩
  refine exs_cons (ex_setattr ?hv2 ?ha2)
  case ha2 => exact rfl
  walk_at "m"
  unfold ωG at pp
  rw [appE_dE] at pp
  exact ⟨aGr, g.d, selfD g, _, rfl, .head, rfl, Nat.le_of_ble_eq_true rfl, exs_nil pp⟩
end
section
open PySem PySem.W PySem.Calls PyProof.Rows PySem.Spec
noncomputable def leS (a b : Str) : Bool := !ltCps b.cps.toList a.cps.toList
theorem leS_iff {a b : Str} : leS a b = true ↔ a.cps.toList ≤ b.cps.toList := by
 unfold leS; rw [ltCps_eq]; simp [List.not_lt]
theorem leS_trans (a b c : Str) (h : leS a b = true) (h' : leS b c = true) : leS a c = true := by
 rw [leS_iff] at *; exact List.le_trans h h'
theorem leS_total (a b : Str) : (leS a b || leS b a) = true := by
 rw [Bool.or_eq_true, leS_iff, leS_iff]; exact List.le_total _ _
theorem leS_anti {a b : Str} (h : leS a b = true) (h' : leS b a = true) : a = b := by
 rw [leS_iff] at *
 have := List.le_antisymm h h'
 obtain ⟨⟨x⟩⟩ := a
 obtain ⟨⟨y⟩⟩ := b
 simp at this
 rw [this]
theorem pw_unique : ∀ {l m : List Str}, l.Pairwise (fun a b => leS a b = true) → m.Pairwise (fun a b => leS a b = true) → l.Perm m → l = m
 | [], m, _, _, p => (List.Perm.nil_eq p)
 | x :: l, [], _, _, p => by have := p.length_eq; simp at this
 | x :: l, y :: m, hl, hm, p => by
  rw [List.pairwise_cons] at hl hm
  have hxy : x = y := by
   have h1 : x ∈ y :: m := p.mem_iff.mp (.head _)
   have h2 : y ∈ x :: l := p.mem_iff.mpr (.head _)
   rcases List.mem_cons.mp h1 with h1 | h1
   ·exact h1
   ·rcases List.mem_cons.mp h2 with h2 | h2
    ·exact h2.symm
    ·exact leS_anti (hl.1 y h2) (hm.1 x h1)
  subst hxy
  rw [pw_unique hl.2 hm.2 (List.Perm.cons_inv p)]
theorem risingS_pw : ∀ {p : Str} {l : List Str}, risingS p l = true → (p :: l).Pairwise (fun a b => leS a b = true)
 | p, [], _ => by simp
 | p, x :: r, h => by
  simp only [risingS, Bool.and_eq_true] at h
  have ih := risingS_pw h.2
  have hx : leS p x = true := h.1
  rw [List.pairwise_cons]
  refine ⟨fun y hy => ?_, ih⟩
  rcases List.mem_cons.mp hy with rfl | hy
  ·exact hx
  ·rw [List.pairwise_cons] at ih
   exact leS_trans _ _ _ hx (ih.1 y hy)
theorem sortedS_pw {l : List Str} (h : sortedS l = true) : l.Pairwise (fun a b => leS a b = true) := by
 cases l with
 | nil => exact .nil
 | cons x r => exact risingS_pw h
noncomputable def sortS (l : List Str) : List Str := l.mergeSort leS
theorem sortS_perm (l : List Str) : (sortS l).Perm l := List.mergeSort_perm l leS
theorem sortS_pw (l : List Str) : (sortS l).Pairwise (fun a b => leS a b = true) := List.pairwise_mergeSort leS_trans leS_total l
theorem sortS_of {l m : List Str} (p : m.Perm l) (h : sortedS m = true) : m = sortS l := pw_unique (sortedS_pw h) (sortS_pw l) (p.trans (sortS_perm l).symm)
theorem sortS_congr {l m : List Str} (p : l.Perm m) : sortS l = sortS m := pw_unique (sortS_pw l) (sortS_pw m) (((sortS_perm l).trans p).trans (sortS_perm m).symm)
theorem sortS_mem {l : List Str} {x : Str} : x ∈ sortS l ↔ x ∈ l := (sortS_perm l).mem_iff
theorem perm_of_mem {l : List Str} : ∀ {m : List Str}, l.Nodup → m.Nodup → (∀ x, x ∈ l ↔ x ∈ m) → l.Perm m := by
 induction l with
 | nil =>
  intro m _ _ h
  cases m with
  | nil => exact .nil
  | cons y m => exact absurd ((h y).mpr (.head _)) (by simp)
 | cons x l ih =>
  intro m hl hm h
  rw [List.nodup_cons] at hl
  have hx : x ∈ m := (h x).mp (.head _)
  have p := List.perm_cons_erase hx
  refine (List.Perm.cons x (ih hl.2 (hm.erase x) fun y => ?_)).trans p.symm
  by_cases hy : y = x
  ·subst hy
   constructor
   ·intro h'; exact absurd h' hl.1
   ·intro h'; exact absurd h' (List.Nodup.not_mem_erase hm)
  ·rw [List.mem_erase_of_ne hy, ← h y]
   simp [hy]
variable {X : Cx} {A : Around} {env : Env} {σ : Sg} {P : D → Sg → Prop}
theorem ol_sortedF {d : D} {ss : List Str} (l : Lst X σ d (ss.map D.str)) (h64 : ss.length < 64) (p : P (.list ((sortS ss).map D.str)) σ) : OpL X A env σ (fun vs => call (.builtin "sorted") vs) [d] P :=
 ol_sorted l h64 fun ss' h1 h2 => by rw [sortS_of h1 h2]; exact p
end
section
noncomputable def fE (e : NE) : Str × D := (e.1, .list e.2.2)
noncomputable def fF (e : FE) : Str × D := (e.1, .list (e.2.2.map .str))
variable {X : Cx} {A : Around} {env : Env} {σ : Sg} {P : D → Sg → Prop} {Q : Fl → Sg → Prop}
theorem ret_NE {ω : Om} {fz : List Addr} {L : List NE} : (∀ e ∈ L, cE e ∈ ω ∧ e.2.1 ∈ fz) → RetKv X ω fz (L.map dE) (L.map fE) := by
 induction L with
 | nil => intro _; exact .nil
 | cons e r ih => intro h; exact .cons (.lst (h e (.head _)).1 (h e (.head _)).2 (.same _)) (ih fun x hx => h x (.tail _ hx))
theorem ret_FE {ω : Om} {fz : List Addr} {L : List FE} : (∀ e ∈ L, cF e ∈ ω ∧ e.2.1 ∈ fz) → RetKv X ω fz (L.map dF) (L.map fF) := by
 induction L with
 | nil => intro _; exact .nil
 | cons e r ih => intro h; exact .cons (.lst (h e (.head _)).1 (h e (.head _)).2 (.same _)) (ih fun x hx => h x (.tail _ hx))
theorem RetKv.append {ω : Om} {fz : List Addr} : ∀ {a a' b b' : List (Str × D)}, RetKv X ω fz a a' → RetKv X ω fz b b' → RetKv X ω fz (a ++ b) (a' ++ b')
 | _, _, _, _, .nil, h => h
 | _, _, _, _, .cons x r, h => .cons x (RetKv.append r h)
noncomputable def selfG (g : GA) (prods : List D) (pm : List (Str × D)) (TT NT PN : List NE) : List (Str × D) :=
 selfF (.list prods) (.dct (PN.map fE)) (.dct pm) (.dct (TT.map fE)) (.dct (NT.map fE)) (.raw (.ref g.fi)) (.raw (.ref g.fo)) (.raw (.ref g.us)) g.st
theorem perm3 {α : Type} (A B R W : List α) : (A ++ (B ++ (R ++ W))).Perm ((B ++ W) ++ (A ++ R)) := by
 rw [List.append_assoc B]
 refine List.perm_append_comm.trans ?_
 rw [List.append_assoc]
 refine .append_left B ?_
 rw [List.append_assoc]
 refine List.perm_append_comm.trans ?_
 rw [List.append_assoc]
theorem perm4 {α : Type} (A B T N P W : List α) : (A ++ (B ++ (T ++ (N ++ (P ++ W))))).Perm ((B ++ W) ++ (A ++ (T ++ (N ++ P)))) := by
 rw [← List.append_assoc N, ← List.append_assoc T]
 exact perm3 A B (T ++ (N ++ P)) W
theorem trF_freezeG {t : Sem Flow} {g : GA} {prods : List D} {pm : List (Str × D)} {TT NT PN : List NE} {ρ : List (Str × D)} {ω : Om}
  (h : TrF X A env ⟨ρ, (g.d, .dct (selfG g prods pm TT NT PN)) :: (g.fi, .dct []) :: (g.fo, .dct []) :: ω⟩ t Q) : TrF X A env ⟨ρ, ωG g prods pm TT NT PN ω⟩ t Q := by
 have mT : ∀ e ∈ TT, cE e ∈ ωG g prods pm TT NT PN ω := fun e he => .tail _ (.tail _ (.tail _ (.tail _ (.tail _ (.tail _ (.tail _ (.tail _ (List.mem_append_left _ (List.mem_map_of_mem he)))))))))
 have mN : ∀ e ∈ NT, cE e ∈ ωG g prods pm TT NT PN ω := fun e he => .tail _ (.tail _ (.tail _ (.tail _ (.tail _ (.tail _ (.tail _ (.tail _ (List.mem_append_right _ (List.mem_append_left _ (List.mem_map_of_mem he))))))))))
 have mP : ∀ e ∈ PN, cE e ∈ ωG g prods pm TT NT PN ω := fun e he => .tail _ (.tail _ (.tail _ (.tail _ (.tail _ (.tail _ (.tail _ (.tail _ (List.mem_append_right _ (List.mem_append_right _ (List.mem_append_left _ (List.mem_map_of_mem he)))))))))))
 have mo : ∀ p ∈ ω, p ∈ ωG g prods pm TT NT PN ω := fun p hp => .tail _ (.tail _ (.tail _ (.tail _ (.tail _ (.tail _ (.tail _ (.tail _ (List.mem_append_right _ (List.mem_append_right _ (List.mem_append_right _ hp))))))))))
 refine trF_refreeze (ρ' := ρ) ([g.pr, g.pn, g.pm, g.te, g.no] ++ (TT.map (·.2.1) ++ (NT.map (·.2.1) ++ PN.map (·.2.1)))) ?_ ?_ (fun x d e => ⟨d, e, .same d⟩) h
 ·intro a ha
  rcases List.mem_append.mp ha with ha | ha
  ·simp only [List.mem_cons, List.not_mem_nil, or_false] at ha
   rcases ha with rfl | rfl | rfl | rfl | rfl <;> simp [ωG]
  ·rcases List.mem_append.mp ha with ha | ha
   ·obtain ⟨e, he, rfl⟩ := List.mem_map.mp ha; exact List.mem_map_of_mem (f := (·.1)) (mT e he)
   ·rcases List.mem_append.mp ha with ha | ha
    ·obtain ⟨e, he, rfl⟩ := List.mem_map.mp ha; exact List.mem_map_of_mem (f := (·.1)) (mN e he)
    ·obtain ⟨e, he, rfl⟩ := List.mem_map.mp ha; exact List.mem_map_of_mem (f := (·.1)) (mP e he)
 ·intro hn
  have hp : ((ωG g prods pm TT NT PN ω).map (·.1)).Perm (([g.d, g.fi, g.fo] ++ ω.map (·.1)) ++ ([g.pr, g.pn, g.pm, g.te, g.no] ++ (TT.map (·.2.1) ++ (NT.map (·.2.1) ++ PN.map (·.2.1))))) := by
   have e1 : (TT.map cE).map (·.1) = TT.map (·.2.1) := by rw [List.map_map]; rfl
   have e2 : (NT.map cE).map (·.1) = NT.map (·.2.1) := by rw [List.map_map]; rfl
   have e3 : (PN.map cE).map (·.1) = PN.map (·.2.1) := by rw [List.map_map]; rfl
   rw [ωG, List.map_cons, List.map_cons, List.map_cons, List.map_cons, List.map_cons, List.map_cons, List.map_cons, List.map_cons, List.map_append, List.map_append, List.map_append, e1, e2, e3]
   exact (perm4 [g.pr, g.pn, g.pm, g.te, g.no] [g.fi, g.fo] (TT.map (·.2.1)) (NT.map (·.2.1)) (PN.map (·.2.1)) (ω.map (·.1))).cons _
  have hn' := (hp.nodup_iff).mp hn
  rw [List.nodup_append] at hn'
  obtain ⟨n1, _, n3⟩ := hn'
  have fzm : ∀ a ∈ [g.pr, g.pn, g.pm, g.te, g.no], a ∈ ([g.pr, g.pn, g.pm, g.te, g.no] ++ (TT.map (·.2.1) ++ (NT.map (·.2.1) ++ PN.map (·.2.1)))) := fun a ha => List.mem_append_left _ ha
  refine ⟨fun p hp => ⟨fun z => ?_, ?_⟩, by simpa using n1⟩
  ·refine n3 p.1 ?_ p.1 z rfl
   have := List.mem_map_of_mem (f := (·.1)) hp
   simpa using this
  ·rcases List.mem_cons.mp hp with rfl | hp
   ·refine ⟨_, .head _, ?_⟩
    show RetKv X _ _ (selfD g) (selfG g prods pm TT NT PN)
    refine .cons (.lst (ds := prods) (.tail _ (.head _)) (fzm _ (by simp)) (.same _)) (.cons (.dct (.tail _ (.tail _ (.head _))) (fzm _ (by simp)) (ret_NE fun e he => ⟨mP e he, List.mem_append_right _ (List.mem_append_right _ (List.mem_append_right _ (List.mem_map_of_mem he)))⟩))
     (.cons (.dct (.tail _ (.tail _ (.tail _ (.head _)))) (fzm _ (by simp)) (.same _)) (.cons (.dct (.tail _ (.tail _ (.tail _ (.tail _ (.head _))))) (fzm _ (by simp)) (ret_NE fun e he => ⟨mT e he, List.mem_append_right _ (List.mem_append_left _ (List.mem_map_of_mem he))⟩))
     (.cons (.dct (.tail _ (.tail _ (.tail _ (.tail _ (.tail _ (.head _)))))) (fzm _ (by simp)) (ret_NE fun e he => ⟨mN e he, List.mem_append_right _ (List.mem_append_right _ (List.mem_append_left _ (List.mem_map_of_mem he)))⟩)) (.same _)))))
   ·rcases List.mem_cons.mp hp with rfl | hp
    ·exact ⟨_, .tail _ (.tail _ (.tail _ (.tail _ (.tail _ (.tail _ (.head _)))))), RetC.same _⟩
    ·rcases List.mem_cons.mp hp with rfl | hp
     ·exact ⟨_, .tail _ (.tail _ (.tail _ (.tail _ (.tail _ (.tail _ (.tail _ (.head _))))))), RetC.same _⟩
     ·exact ⟨_, mo p hp, RetC.same _⟩
noncomputable def FDf (ts : List Str) (FN : List FE) : List (Str × D) := (ts ++ [("$end" : Str)]).map tD ++ FN.map fF
theorem trF_freezeF {t : Sem Flow} {d fi fo : Addr} {pl pn pm te no us st : D} {ts : List Str} {FN : List FE} {ρ ρ' : List (Str × D)} {ω : Om}
  (hρ : ∀ x d', ρ'.lookup x = some d' → ρ.lookup x = some d' ∨ (ρ.lookup x = some (.raw (.ref fi)) ∧ d' = .dct (FDf ts FN)))
  (h : TrF X A env ⟨ρ', (d, .dct (selfF pl pn pm te no (.dct (FDf ts FN)) (.raw (.ref fo)) us st)) :: (fo, .dct []) :: ω⟩ t Q) :
  TrF X A env ⟨ρ, (d, .dct (selfF pl pn pm te no (.raw (.ref fi)) (.raw (.ref fo)) us st)) :: (fi, .dct (FD ts FN)) :: (fo, .dct []) :: (FN.map cF ++ ω)⟩ t Q := by
 generalize hW : ((d, C.dct (selfF pl pn pm te no (.raw (.ref fi)) (.raw (.ref fo)) us st)) :: (fi, .dct (FD ts FN)) :: (fo, .dct []) :: (FN.map cF ++ ω) : Om) = W
 have mF : ∀ e ∈ FN, cF e ∈ W := fun e he => by rw [← hW]; exact .tail _ (.tail _ (.tail _ (List.mem_append_left _ (List.mem_map_of_mem he))))
 have mo : ∀ p ∈ ω, p ∈ W := fun p hp => by rw [← hW]; exact .tail _ (.tail _ (.tail _ (List.mem_append_right _ hp)))
 have mfi : (fi, C.dct (FD ts FN)) ∈ W := by rw [← hW]; exact .tail _ (.head _)
 have hfi : Ret X W ([fi] ++ FN.map (·.2.1)) (.raw (.ref fi)) (.dct (FDf ts FN)) :=
  .dct mfi (by simp) ((RetKv.same _).append (ret_FE fun e he => ⟨mF e he, List.mem_append_right _ (List.mem_map_of_mem he)⟩))
 refine trF_refreeze ([fi] ++ FN.map (·.2.1)) ?_ ?_ (fun x d' e => ?_) h
 ·intro a ha
  rcases List.mem_append.mp ha with ha | ha
  ·rw [List.mem_singleton.mp ha]; exact List.mem_map_of_mem (f := (·.1)) mfi
  ·obtain ⟨e, he, rfl⟩ := List.mem_map.mp ha; exact List.mem_map_of_mem (f := (·.1)) (mF e he)
 ·intro hn
  have hp : (W.map (·.1)).Perm (([d, fo] ++ ω.map (·.1)) ++ ([fi] ++ FN.map (·.2.1))) := by
   rw [← hW]
   have e1 : (FN.map cF).map (·.1) = FN.map (·.2.1) := by rw [List.map_map]; rfl
   rw [List.map_cons, List.map_cons, List.map_cons, List.map_append, e1]
   exact (perm3 [fi] [fo] (FN.map (·.2.1)) (ω.map (·.1))).cons d
  have hn' := (hp.nodup_iff).mp hn
  rw [List.nodup_append] at hn'
  obtain ⟨n1, _, n3⟩ := hn'
  refine ⟨fun p hp => ⟨fun z => ?_, ?_⟩, by simpa using n1⟩
  ·refine n3 p.1 ?_ p.1 z rfl
   have := List.mem_map_of_mem (f := (·.1)) hp
   simpa using this
  ·rcases List.mem_cons.mp hp with rfl | hp
   ·refine ⟨C.dct (selfF pl pn pm te no (.raw (.ref fi)) (.raw (.ref fo)) us st), by rw [← hW]; exact .head _, ?_⟩
    exact .cons (.same _) (.cons (.same _) (.cons (.same _) (.cons (.same _) (.cons (.same _) (.cons hfi (.same _))))))
   ·rcases List.mem_cons.mp hp with rfl | hp
    ·exact ⟨_, by rw [← hW]; exact .tail _ (.tail _ (.head _)), RetC.same _⟩
    ·exact ⟨_, mo p hp, RetC.same _⟩
 ·rcases hρ x d' e with e' | ⟨e', rfl⟩
  ·exact ⟨d', e', .same _⟩
  ·exact ⟨_, e', hfi⟩
end
section
variable {w : World} {mg mb : Str → Option Value} {fr : List Env} {A : Around} {env : Env} {σ : Sg} {P : D → Sg → Prop} {Q : Fl → Sg → Prop}
theorem sym_eq (l : List Nat) : (l.map symS).map D.str = l.map sD := by rw [List.map_map]; rfl
theorem GN.init {ts : List Str} {TT : List NE} (h : TT.map (·.1) = ts) (he : ∀ e ∈ TT, e.2.2 = []) : GN ts [] 0 TT [] :=
 ⟨h, by simp, List.nodup_nil, by simp, fun e h => by simp [he e h], by simp, fun e h => by simp [he e h], by simp, rfl⟩
theorem GP.init {aP : Addr} : GP aP [] [] := ⟨by simp, List.nodup_nil, by simp⟩
noncomputable def NTs : List Nat := [83, 65, 84, 66]
noncomputable def TSs : List Nat := [97, 98, 99]
noncomputable def tsS : List Str := ["a", "b", "c", "error"]
structure Gram (qs : List CPr) (M : List Nat) (start : Nat) : Prop where
 nd : qs.Nodup
 few : qs.length ≤ 7
 sub : ∀ c ∈ M, c ∈ NTs
 lhM : ∀ q ∈ qs, q.1 ∈ M
 rhM : ∀ q ∈ qs, ∀ c ∈ q.2, c ∈ M ∨ c ∈ TSs
 has : ∀ c ∈ M, ∃ q ∈ qs, q.1 = c
 len : ∀ q ∈ qs, q.2.length ≤ 3
 stM : start ∈ M
 ml : M.length ≤ 10
theorem Gram.lhs {qs : List CPr} {M : List Nat} {start : Nat} (H : Gram qs M start) : ∀ q ∈ qs, q.1 ∈ NTs := fun q hq => H.sub _ (H.lhM q hq)
theorem Gram.rhs {qs : List CPr} {M : List Nat} {start : Nat} (H : Gram qs M start) : ∀ q ∈ qs, ∀ c ∈ q.2, c ∈ NTs ∨ c ∈ TSs := fun q hq c hc => (H.rhM q hq c hc).imp (H.sub c) id
theorem Gram.st {qs : List CPr} {M : List Nat} {start : Nat} (H : Gram qs M start) : ∃ q ∈ qs, q.1 = start := H.has _ H.stM
theorem nts_sym : ∀ c ∈ NTs, c ∈ symCodes := by decide
theorem tss_sym : ∀ c ∈ TSs, c ∈ symCodes := by decide
theorem nts_not : ∀ c ∈ NTs, symS c ∉ tsS := by decide +kernel
theorem tss_is : ∀ c ∈ TSs, symS c ∈ tsS := by decide +kernel
theorem Gram.ok {qs : List CPr} {M : List Nat} {start : Nat} (H : Gram qs M start) : ∀ q ∈ qs, q.ok := fun q hq => ⟨nts_sym _ (H.lhs q hq), fun c hc => (H.rhs q hq c hc).elim (nts_sym c) (tss_sym c)⟩
theorem Gram.rows {qs : List CPr} {M : List Nat} {start : Nat} (H : Gram qs M start) : Rows qs := ⟨H.ok, fun q hq => Nat.le_trans (H.len q hq) (by decide), Nat.le_trans H.few (by decide)⟩
theorem Gram.keys {qs pre : List CPr} {M : List Nat} {start : Nat} (H : Gram qs M start) (hp : ∀ x ∈ pre, x ∈ qs) {k : Str} (h : ∃ p ∈ pre.map gpr, k = p.1 ∨ (k ∈ p.2 ∧ k ∉ tsS)) : k ∈ NTs.map symS := by
 obtain ⟨p, hp', h⟩ := h
 obtain ⟨q, hq, rfl⟩ := List.mem_map.mp hp'
 rcases h with rfl | ⟨h, h'⟩
 ·exact List.mem_map_of_mem (H.lhs q (hp q hq))
 ·obtain ⟨c, hc, rfl⟩ := List.mem_map.mp h
  rcases H.rhs q (hp q hq) c hc with z | z
  ·exact List.mem_map_of_mem z
  ·exact absurd (tss_is c z) h'
structure Told (qs : List CPr) (start : Nat) (TT NT PN : List NE) : Prop where
 n : GN tsS (qs.map gpr) 200 TT NT
 p : GP aProd (qs.map gpr) PN
noncomputable def grF (qs : List CPr) (start : Nat) (TT NT PN : List NE) (fi fo us : D) : List (Str × D) :=
 selfF (.list (p0D (symS start) :: psD aProd (qs.map gpr))) (.dct (PN.map fE)) (.dct (pmD aProd (qs.map gpr))) (.dct (TT.map fE)) (.dct ((appE (symS start) (.int 0) NT).map fE)) fi fo us (.str (symS start))
noncomputable def grD (g : GA) (qs : List CPr) (start : Nat) (TT NT PN : List NE) : List (Str × D) := grF qs start TT NT PN (.raw (.ref g.fi)) (.raw (.ref g.fo)) (.raw (.ref g.us))
set_option maxHeartbeats 4000000
theorem built_ok {qs : List CPr} {M : List Nat} {start : Nat} {k : Nat} (R : ARoom (k + 8) A) (FR : A.frames = some fr) (H : Gram qs M start)
  (p : ∀ g TT NT PN, Told qs start TT NT PN → P (.obj aGr g.d) ⟨σ.ρ, (g.d, .dct (grD g qs start TT NT PN)) :: (g.fi, .dct []) :: (g.fo, .dct []) :: σ.ω⟩) :
  OpL (X3 w mg mb fr) A env σ (fun vs => call (.ref 293) vs) [qsD qs, sD start] P := by
 refine fn_call (dbs := [("rules", qsD qs), ("start", sD start)]) ⟨⟨_, _, _, rfl⟩, rfl, rfl, rfl, rfl, rfl, rfl, rfl, rfl, rfl, rfl, rfl, rfl⟩ R.room ?_ rfl rfl ?_
 ·intro s b vs T hb r
  obtain ⟨v1, v2, rfl, r1, r2⟩ := r.i_two
  exact ⟨_, BindsTo.of_eq rfl, .cons r1 (.cons r2 .nil)⟩
 ·intro L
  have hsl' := hsl
  have R' : ∀ e, ARoom (k + 7) (A.deeper e) := fun e => R.deeper
  have hK1 := H.few
  try dsimp only
  refine exs_let ?_; intro X' A' e' q'
  walk_at "m"
  refine ev_callO (ev_glob (v := .ref aGr) rfl (fun _ _ => .raw _) rfl ⟨rfl, ?_⟩ rfl) rfl rfl rfl rfl
  refine trl_cons (ev_list ?_) rfl
  walk_at "m"
  refine gram_call (ts := ["a", "b", "c"]) (k := k + 5) (R' _) (by decide) (by decide) (by decide) fun g TT0 hT0 hT1 => ?_
  try dsimp only
  walk_at "m"
  let Iv1 : PI qs := fun pre σ' => EA34 (fun TT NT PN => GN tsS (pre.map gpr) (20 * pre.length) TT NT) (fun TT NT PN => GP aProd (pre.map gpr) PN) (fun TT NT PN => Sub σ'.ρ [("grammar", .obj aGr g.d), ("rules", qsD qs), ("start", sD start)]) (fun TT NT PN => (ωG g (.none :: psD aProd (pre.map gpr)) (pmD aProd (pre.map gpr)) TT NT PN σ.ω).Perm σ'.ω)
  refine ex_forP qs qD Iv1 ?_ ?_ ?_ (fun _ => rfl)
  ·refine src_of ?_
   walk_at "m"
   exact ⟨itb_list R.hd, TT0, [], [], GN.init hT0 hT1, GP.init, .cons rfl (.cons rfl (.cons rfl .nil)), .refl _⟩
  ·rintro pre q post ⟨ρ', ω'⟩ hsp ⟨TT, NT, PN, G, GQ, hsub, hperm⟩
   dsimp only at hsub hperm
   unfold qD rowD
   rw [← sym_eq]
   refine Asg.sub hsub (asg_perm hperm (asg_tup2 R.hd rfl rfl ?_))
   clear hsub hperm
   have hqm : q ∈ qs := by rw [hsp]; simp
   have hpm : ∀ x ∈ pre, x ∈ qs := fun x hx => by rw [hsp]; simp [hx]
   have hpl : pre.length ≤ 7 := by have := congrArg List.length hsp; simp at this; exact le_c (Nat.le_trans (mid_l this) hK1) rfl
   have hnl : NT.length ≤ 4 := by
    have := nodup_len (U := NTs.map symS) G.nn fun x hx => H.keys hpm ((G.nk x).mp hx)
    simpa [NTs] using this
   have hnp : PN.length ≤ 4 := by
    have := nodup_len (U := NTs.map symS) GQ.pn fun x hx => by
     obtain ⟨p, hp, h⟩ := (GQ.pk x).mp hx
     exact H.keys hpm ⟨p, hp, .inl h⟩
    simpa [NTs] using this
   try dsimp only
   refine exs_cons (ex_expr (ev_ometh ?_ rfl rfl rfl) rfl rfl)
   walk_at "m"
   refine ⟨aGr, selfD g, 166, .cell (.head _), rfl, rfl, ?_⟩
   walk_at "m"
   refine ev_callT (ev_blt rfl (by boot_fast) (by decide) rfl ⟨rfl, ?_⟩ rfl) rfl rfl rfl
   walk_at "m"
   refine ol_listOf .data (by have := H.len q hqm; simp; exact le_s this rfl) ?_
   walk_at "m"
   refine addp_ok (k := k + 3) (R' _) (Around.frames_deeper FR) (by decide) rfl G GQ (H.ok q hqm) (fun x hx => H.ok x (hpm x hx)) (nts_not _ (H.lhs q hqm)) (by have := H.len q hqm; exact le_c this rfl) (by exact le_c hpl rfl) (by decide) (by exact le_c hnl rfl) (by exact le_c hnp rfl) (fun z => ?_) fun TT' NT' PN' G' GQ' => ?_
   ·have hn := H.nd
    rw [hsp, List.nodup_append] at hn
    exact hn.2.2 q z q (.head _) rfl
   walk_at "m"
   exact ⟨rfl, exs_nil ⟨TT', NT', PN', G', GQ', .cons rfl (.cons rfl (.cons rfl .nil)), .refl _⟩⟩
  rintro ⟨ρ', ω'⟩ ⟨TT, NT, PN, G, GQ, hsub, hperm⟩
  dsimp only at hsub hperm
  refine TrF.sub hsub (trF_perm hperm ?_)
  clear hsub hperm
  refine exs_nil ?_
  try dsimp only
  obtain ⟨q0, hq0, hst⟩ := H.st
  refine exs_cons (ex_expr (ev_ometh ?_ rfl rfl rfl) rfl rfl)
  walk_at "m"
  refine ⟨aGr, selfD g, 174, .cell (.head _), rfl, rfl, ?_⟩
  walk_at "m"
  refine setstart_ok (k := k + 3) (R' _) rfl ((G.nk _).mpr ⟨gpr q0, List.mem_map_of_mem hq0, .inl (by rw [← hst]; rfl)⟩) rfl (sym_strOk _ (nts_sym _ (by rw [← hst]; exact H.lhs q0 hq0))) (fun e he => by have := G.nl e he; exact le_c (Nat.le_trans this (Nat.mul_le_mul_left _ hK1)) rfl) ⟨rfl, ?_⟩
  refine trF_freezeG ?_
  walk_at "m"
  exact p _ TT NT PN ⟨G.more (by exact le_c (Nat.mul_le_mul_left _ hK1) rfl), GQ⟩
end
section
variable {X : Cx} {A : Around} {env : Env} {σ : Sg} {P : D → Sg → Prop} {Q : Fl → Sg → Prop}
noncomputable def kvD (p : Str × D) : D := .tup [.str p.1, p.2]
theorem RpKv.getD {b : Heap} {kvs : List (Str × Value)} {kds : List (Str × D)} (q : RpKv X b kvs kds) : ∀ {i : Nat} {k : Str} {d : D}, kds[i]? = some (k, d) → ∃ v, kvs[i]? = some (k, v) ∧ Rp X b v d := by
 induction q using RpKv.ind with
 | nil => intro i k d e; exact nso e
 | cons r _ ih =>
  intro i k d e
  cases i with
  | zero => obtain ⟨rfl, rfl⟩ := Prod.mk.inj (Option.some.inj e); exact ⟨_, rfl, r⟩
  | succ i => exact ih (i := i) e
theorem itr_items {elts : List Expr} {x1 : Nat} {tpos : Pos} {it a : Addr} {b₀ : Heap} {ep : Nat} {kvs : List (Str × Value)} {kds : List (Str × D)} (hh : A.handled = none) (g0 : b₀.DictAt X.kd a kvs ep) (ra : RpKv X b₀ kvs kds) :
  Itr X A (.Tuple elts x1 tpos) (.ref it) b₀ [it] (fun i h => ∃ ok ov, IsItemIter h it a i kvs.length ep ok ov) (fun _ => some (kds.map kvD)) where
 frame := fun i h h' ⟨ok, ov, j⟩ k => ⟨ok, ov, k it (by simp) _ j⟩
 live := fun i h ⟨ok, ov, j⟩ x hx => by rw [List.mem_singleton.mp hx]; exact ⟨_, j⟩
 item := fun env σ i ds d s b S hb ⟨ok, ov, j⟩ e g ap => by
  obtain rfl := Option.some.inj e
  obtain ⟨⟨k, x⟩, hkx, rfl⟩ : ∃ p, kds[i]? = some p ∧ d = kvD p := by
   rw [List.getElem?_map] at g
   cases q : kds[i]? with
   | none => rw [q] at g; exact nso g
   | some p => rw [q] at g; obtain rfl := Option.some.inj g; exact ⟨p, rfl, rfl⟩
  obtain ⟨v, hv, r⟩ := (ra.mono hb).getD hkx
  refine wpAny_pyNext_items_item (knd := X.kd) j ((g0.keep hb).keep S.hp.le) hv fun key h' hkey k1 k2 k3 k4 => ⟨_, rfl, ?_⟩
  obtain ⟨t, rfl⟩ := Value.isStrOf_shape hkey
  refine wpAny_letOwnedTupleGo_items (s := { s with heap := h' }) k1 fun h₂ m1 m2 => ?_
  have hT : s.heap.objs.size ≠ it := fun z => Nat.lt_irrefl _ (z ▸ Heap.lt_size j)
  have k5 : ∀ y o, y ∉ [it] → s.heap.get? y = some o → h₂.get? y = some o := fun y o hy q => (m2.2 y (fun z => hy (by simp [z]))).trans (k4 y o (fun z => hy (by simp [z])) q)
  have hbh : Le b h₂ := fun y o q => k5 y o (fun z => by rw [ap.b y z] at q; exact nso q) (S.hp.le _ _ q)
  refine ⟨h₂, grow b h₂ (· == s.heap.objs.size), s.toks, rfl, ⟨_, _, m1⟩, k5, grow_le hbh, grow_in, fun y o q => ?_, ?_⟩
  ·rcases grow_new q with z | z
   ·exact .inl z
   ·exact .inr (by rw [beq_iff_eq.mp z]; exact fresh_none _)
  ·exact .tup (grow_get (by simp) ((m2.2 _ hT).trans k2)) (.cons (.str ..) (.cons (r.mono (grow_le hbh)) .nil))
 done := fun env σ i ds s b S hb ⟨ok, ov, j⟩ e g ap => by
  obtain rfl := Option.some.inj e
  have hx : kvs[i]? = none := by
   have h1 : kvs.length = kds.length := ra.length
   have h2 : kds.length ≤ i := by simpa using g
   exact List.getElem?_eq_none (by lia)
  exact wpAny_pyNext_items_end (knd := X.kd) hh j ((g0.keep hb).keep S.hp.le) hx fun h' he => ⟨rfl, h', s.toks, rfl, fun x o hx e => he x o (fun z => hx (by simp [z])) e⟩
 self := fun i s QQ E ⟨ok, ov, j⟩ h => kcp_self j h
theorem src_items {o : Expr} {apos pos tpos : Pos} {elts : List Expr} {x1 : Nat} {kds : List (Str × D)} {R : Sg → Prop} (hh : A.handled = none)
  (h : Ev X A env σ o (fun d σ₁ => d = .dct kds ∧ R σ₁))
  (hbase : attributeBase o "items" env (eval o env) = eval o env) (hline : (apos.endLine == pos.line) = true) :
  Src X A env σ (.Call (.Attribute o "items" apos) [] [] pos) (.Tuple elts x1 tpos) (fun _ => some (kds.map kvD)) R := fun s b S => by
 refine wpAny_Call_method (T := "dict") (id := "dict.items") hbase rfl hline F.plainAttrs_dict F.slot_dict_items F.type_dict_items (wpAny_mono (h s b S) ?_ (fun _ _ x => x))
 rintro v₁ s₁ ⟨d₁, σ₁, b₁, E₁, S₁, r₁, rfl, hR⟩
 obtain ⟨_, _, _, rfl, hne, g, ra⟩ := r₁.i_dct
 rename_i a kvs ep
 have g1 := g.keep S₁.hp.le
 refine ⟨g1.dictOf.typeIs, g1.dictOf.mapOf.noDict, ?_⟩
 show wpAny _ _ (callWith pos (.builtin "dict.items") [.ref a] [] []) _ _ s₁
 refine method_meetsIn F.slot_dict_items F.entry_dict_items rfl (PySem.evalArgs_none ⟨rfl, g1.dictOf.typeIs, F.args_dict_items_1 _, _, meets_dict_items X.kd a hne, ⟨kvs, g1.dictOf⟩, ?_⟩)
 refine wpAny_pyIter_items (knd := X.kd) (d := a) (kvs := kvs) (ep := ep) ⟨_, Heap.get?_push_size _ rfl, rfl, rfl⟩ (g1.push _) ?_
 have hsz : (s₁.heap.push { cls := .type "dict_items", data := .fields #[.ref a] }).objs.size = s₁.heap.objs.size + 1 := Heap.size_push ..
 have hle : Le s₁.heap ((s₁.heap.push { cls := .type "dict_items", data := .fields #[.ref a] }).push { cls := .type "dict_itemiterator", data := .fields #[.none, .bool false, .ref a, .int 0 0, .int kvs.length 0, .int ep 0, .none, .none] }) := (le_push _ _).trans (le_push _ _)
 obtain ⟨S₃, E₃⟩ := S₁.extend (h' := _) (b' := b₁) (tk := s₁.toks) hle (Le.refl _) (S₁.hp.le.trans hle) (fun a o e => .inl ⟨o, e⟩)
 have fr : ∀ y ∈ [(s₁.heap.push { cls := .type "dict_items", data := .fields #[.ref a] }).objs.size], s₁.heap.get? y = none := fun y hy => by
  rw [List.mem_singleton.mp hy, hsz]
  cases q : s₁.heap.get? (s₁.heap.objs.size + 1) with
  | none => rfl
  | some o => exact absurd (Heap.lt_size q) (Nat.not_lt.mpr (Nat.le_succ _))
 exact ⟨σ₁, b₁, [_], _, E₁.trans E₃, S₃, apart_new S₁ fr, fun y hy => E₁.ext.none (fr y hy), itr_items hh g ra, ⟨.none, .none, Heap.get?_push_size _ rfl⟩, hR⟩
end
section
variable {w : World} {mg mb : Str → Option Value} {fr : List Env} {A : Around} {env : Env} {σ : Sg} {P : D → Sg → Prop} {Q : Fl → Sg → Prop}
noncomputable def kvE (e : NE) : D := .tup [.str e.1, .list e.2.2]
theorem kv_fE (L : List NE) : (L.map fE).map kvD = L.map kvE := by rw [List.map_map]; rfl
noncomputable def noUse (e : NE) : Bool := e.2.2.isEmpty
noncomputable def freeT (e : NE) : Bool := !(e.1 == ("error" : Str)) && noUse e
noncomputable def strE (e : NE) : D := .str e.1
set_option maxHeartbeats 2000000
theorem utok_ok {d : Addr} {sd : List (Str × D)} {L : List NE} {k : Nat} (R : ARoom (k + 1) A) (hs : (d, C.dct sd) ∈ σ.ω) (h1 : sd.lookup ("Terminals" : Str) = some (.dct (L.map fE))) (hl : L.length ≤ 100) (hz : ∀ e ∈ L, e.2.2.length ≤ 10000) (ho : ∀ e ∈ L, PyData.strOk e.1 = true)
  (p : P (.list ((L.filter freeT).map strE)) σ) : OpL (X3 w mg mb fr) A env σ (fun vs => call (.ref 200) vs) [.obj aGr d] P := by
 refine fn_call (dbs := [("self", .obj aGr d)]) ⟨⟨_, _, _, rfl⟩, rfl, rfl, rfl, rfl, rfl, rfl, rfl, rfl, rfl, rfl, rfl, rfl⟩ R.room ?_ rfl rfl ?_
 ·intro s b vs T hb r
  obtain ⟨v1, rfl, r1⟩ := r.i_one
  exact ⟨_, BindsTo.of_eq rfl, .cons r1 .nil⟩
 ·intro L₀
  have hsl' := hsl
  have R' : ∀ e, ARoom k (A.deeper e) := fun e => R.deeper
  try dsimp only
  refine exs_let ?_; intro X' A' e' q'
  walk_at "m"
  refine ev_listC (trl_nil ⟨Nat.le_of_ble_eq_true rfl, fun a => ?_⟩)
  try dsimp only
  refine exs_cons (ex_forL L kvE (fun pre => [("unused_tok", .raw (.ref a)), ("self", .obj aGr d)]) (fun pre => (a, .lst ((pre.filter freeT).map strE)) :: σ.ω) ?_ ?_ (exs_nil ?_) (fun _ => rfl))
  ·rw [← kv_fE]
   refine src_items R.hd ?_ rfl rfl
   walk_at "m"
   exact ⟨aGr, sd, _, .cell (.tail _ hs), rfl, h1, rfl, rfl, .cons rfl (.cons rfl .nil), rfl⟩
  ·intro pre e post hsp
   have he : e ∈ L := by rw [hsp]; simp
   have hpl : pre.length ≤ 100 := by have := congrArg List.length hsp; simp at this; exact le_c (Nat.le_trans (mid_l this) hl) rfl
   have hfl := List.length_filter_le freeT pre
   rw [List.filter_append, List.map_append]
   refine asg_tup2 R.hd rfl rfl ?_
   try dsimp only
   walk_at "m"
   refine op_ne (n := 0) (R' _) (ho e he) errorOk (by decide) (ob_bool (ite_b (fun h1 => ?_) (fun h1 => ?_)))
   ·walk_at "m"
    refine ob_list .data (by have := hz e he; exact le_s this rfl) ?_
    cases hu : e.2.2.isEmpty with
    | true =>
     refine te_and_nil (ite_t rfl ?_)
     walk_at "m"
     refine ev_meth (T := "list") (id := "list.append") ?_ F.plainAttrs_list F.slot_list_append F.type_list_append rfl rfl rfl rfl rfl
     walk_at "m"
     refine ⟨isTy_lst (.cell (.head _)), ?_⟩
     walk_at "m"
     refine ol_append .head (by simp; exact le_s (Nat.le_trans hfl hpl) rfl) ⟨rfl, ?_⟩
     refine exs_nil (exs_nil ⟨.cons rfl (.cons rfl .nil), ?_⟩)
     have hf : freeT e = true := by simp only [freeT, noUse, hu, Bool.and_true]; exact h1
     simp [List.filter_cons, hf, strE]
    | false =>
     refine ite_f rfl (exs_nil (exs_nil ⟨.cons rfl (.cons rfl .nil), ?_⟩))
     have hf : freeT e = false := by simp only [freeT, noUse, hu, Bool.and_false]
     simp [List.filter_cons, hf]
   ·refine ite_f rfl (exs_nil (exs_nil ⟨.cons rfl (.cons rfl .nil), ?_⟩))
    have hf : freeT e = false := by
     have h2 : (!(e.1 == ("error" : Str))) = false := h1
     simp only [freeT, h2, Bool.false_and]
    simp [List.filter_cons, hf]
  ·exact exs_cons (ex_ret (tr_freeze (ev_var rfl rfl ⟨a, _, _, rfl, rfl, p⟩ rfl rfl)))
theorem urule_ok {d : Addr} {sd pn : List (Str × D)} {L : List NE} {hd : Str → D} {k : Nat} (R : ARoom (k + 1) A) (hs : (d, C.dct sd) ∈ σ.ω) (h1 : sd.lookup ("Nonterminals" : Str) = some (.dct (L.map fE))) (h2 : sd.lookup ("Prodnames" : Str) = some (.dct pn))
  (hl : L.length ≤ 100) (hz : ∀ e ∈ L, e.2.2.length ≤ 10000) (hp : ∀ e ∈ L, ∃ r, pn.lookup e.1 = some (.list (hd e.1 :: r)) ∧ r.length ≤ 1000)
  (p : P (.list ((L.filter noUse).map fun e => hd e.1)) σ) : OpL (X3 w mg mb fr) A env σ (fun vs => call (.ref 207) vs) [.obj aGr d] P := by
 refine fn_call (dbs := [("self", .obj aGr d)]) ⟨⟨_, _, _, rfl⟩, rfl, rfl, rfl, rfl, rfl, rfl, rfl, rfl, rfl, rfl, rfl, rfl⟩ R.room ?_ rfl rfl ?_
 ·intro s b vs T hb r
  obtain ⟨v1, rfl, r1⟩ := r.i_one
  exact ⟨_, BindsTo.of_eq rfl, .cons r1 .nil⟩
 ·intro L₀
  have hsl' := hsl
  have R' : ∀ e, ARoom k (A.deeper e) := fun e => R.deeper
  try dsimp only
  refine exs_let ?_; intro X' A' e' q'
  walk_at "m"
  refine ev_listC (trl_nil ⟨Nat.le_of_ble_eq_true rfl, fun a => ?_⟩)
  try dsimp only
  refine exs_cons (ex_forL L kvE (fun pre => [("unused_prod", .raw (.ref a)), ("self", .obj aGr d)]) (fun pre => (a, .lst ((pre.filter noUse).map fun e => hd e.1)) :: σ.ω) ?_ ?_ (exs_nil ?_) (fun _ => rfl))
  ·rw [← kv_fE]
   refine src_items R.hd ?_ rfl rfl
   walk_at "m"
   exact ⟨aGr, sd, _, .cell (.tail _ hs), rfl, h1, rfl, rfl, .cons rfl (.cons rfl .nil), rfl⟩
  ·intro pre e post hsp
   have he : e ∈ L := by rw [hsp]; simp
   have hpl : pre.length ≤ 100 := by have := congrArg List.length hsp; simp at this; exact le_c (Nat.le_trans (mid_l this) hl) rfl
   have hfl := List.length_filter_le noUse pre
   obtain ⟨r, hr, hrl⟩ := hp e he
   rw [List.filter_append, List.map_append]
   refine asg_tup2 R.hd rfl rfl ?_
   try dsimp only
   walk_at "m"
   refine ob_list .data (by have := hz e he; exact le_s this rfl) ?_
   cases hu : e.2.2.isEmpty with
   | true =>
    refine ite_t rfl ?_
    walk_at "m"
    refine ev_sub (ev_sub ?_)
    walk_at "m"
    refine ⟨aGr, sd, _, .cell (.tail _ hs), rfl, h2, rfl, ?_⟩
    walk_at "m"
    refine op_dget .data hr ?_ (fun _ _ => rfl)
    walk_at "m"
    refine op_item (x := hd e.1) .data (by decide) rfl (by simp; exact le_s (Nat.add_le_add_right hrl _) rfl) ?_ (fun _ _ => rfl)
    walk_at "m"
    refine ev_meth (T := "list") (id := "list.append") ?_ F.plainAttrs_list F.slot_list_append F.type_list_append rfl rfl rfl rfl rfl
    walk_at "m"
    refine ⟨isTy_lst (.cell (.head _)), ?_⟩
    walk_at "m"
    refine ol_append .head (by simp; exact le_s (Nat.le_trans hfl hpl) rfl) ⟨rfl, ?_⟩
    refine exs_nil (exs_nil ⟨.cons rfl (.cons rfl .nil), ?_⟩)
    have hf : noUse e = true := hu
    simp [List.filter_cons, hf]
   | false =>
    refine ite_f rfl (exs_nil (exs_nil ⟨.cons rfl (.cons rfl .nil), ?_⟩))
    have hf : noUse e = false := hu
    simp [List.filter_cons, hf]
  ·exact exs_cons (ex_ret (tr_freeze (ev_var rfl rfl ⟨a, _, _, rfl, rfl, p⟩ rfl rfl)))
noncomputable def bD (p : Str × Bool) : Str × D := (p.1, .bool p.2)
noncomputable def bT (p : Str × Bool) : D := .tup [.str p.1, .bool p.2]
theorem kv_bD (L : List (Str × Bool)) : (L.map bD).map kvD = L.map bT := by rw [List.map_map]; rfl
theorem look_map {g : Str → D} {x : Str} {l : List Str} : x ∈ l → (l.map fun y => (y, g y)).lookup x = some (g x) := by
 induction l with
 | nil => intro h; cases h
 | cons y l ih =>
  intro h
  rw [List.map_cons, List.lookup_cons]
  by_cases hx : x = y
  ·subst hx; simp
  ·rw [beq_eq_false_iff_ne.mpr hx]
   exact ih ((List.mem_cons.mp h).resolve_left hx)
theorem keys_map {g : Str → D} (l : List Str) : (l.map fun y => (y, g y)).map (·.1) = l := by simp [Function.comp_def]
noncomputable def ttL (l : List Str) : List (Str × Bool) := l.map fun t => (t, true)
noncomputable def nnL (V l : List Str) : List (Str × Bool) := l.map fun n => (n, decide (n ∈ V))
noncomputable def tmL (ts ns V : List Str) : List (Str × Bool) := ttL (ts ++ [("$end" : Str)]) ++ nnL V ns
theorem ttL_eq (l : List Str) : (ttL l).map bD = l.map fun t => (t, .bool true) := by rw [ttL, List.map_map]; rfl
theorem nnL_eq (V l : List Str) : (nnL V l).map bD = l.map fun n => (n, .bool (decide (n ∈ V))) := by rw [nnL, List.map_map]; rfl
theorem tm_t {ts ns V : List Str} {t : Str} (h : t ∈ ts) : ((tmL ts ns V).map bD).lookup t = some (.bool true) := by
 rw [tmL, List.map_append, ttL_eq, List.lookup_append, look_map (g := fun _ => .bool true) (by simp [h])]; rfl
theorem tm_n {ts ns V : List Str} {n : Str} (h : n ∈ ns) (h1 : n ∉ ts ∧ n ≠ "$end") : ((tmL ts ns V).map bD).lookup n = some (.bool (decide (n ∈ V))) := by
 rw [tmL, List.map_append, ttL_eq, nnL_eq, lookup_app_none (by rw [keys_map (g := fun _ => .bool true)]; simp [h1]), look_map (g := fun n => .bool (decide (n ∈ V))) h]
theorem tm_put {ts ns V : List Str} {n : Str} (h : n ∈ ns) (h1 : n ∉ ts ∧ n ≠ "$end") : put ((tmL ts ns V).map bD) n (.bool true) = (tmL ts ns (n :: V)).map bD := by
 unfold put
 rw [if_pos (List.any_eq_true.mpr ⟨(n, .bool (decide (n ∈ V))), by rw [tmL, List.map_append, nnL_eq]; exact List.mem_append_right _ (List.mem_map_of_mem h), by simp⟩)]
 rw [tmL, List.map_append, List.map_append, tmL, List.map_append, ttL_eq, nnL_eq, nnL_eq, List.map_map, List.map_map]
 congr 1
 ·refine List.map_congr_left fun t ht => ?_
  have : t ≠ n := fun z => by
   subst z
   rcases List.mem_append.mp ht with z | z
   ·exact h1.1 z
   ·exact h1.2 (List.mem_singleton.mp z)
  simp [this]
 ·refine List.map_congr_left fun m hm => ?_
  by_cases hmn : m = n
  ·subst hmn; simp
  ·simp [hmn]
noncomputable def notB (p : Str × Bool) : Bool := !p.2
noncomputable def strB (p : Str × Bool) : D := .str p.1
theorem tm_end {ts ns V : List Str} : ((tmL ts ns V).filter notB).map strB = (ns.filter fun n => !decide (n ∈ V)).map .str := by
 have h1 : (ttL (ts ++ [("$end" : Str)])).filter notB = [] := by
  rw [List.filter_eq_nil_iff]
  intro p hp
  obtain ⟨t, _, rfl⟩ := List.mem_map.mp hp
  simp [notB]
 rw [tmL, List.filter_append, h1, List.nil_append, nnL, List.filter_map, List.map_map]
 rfl
noncomputable def leftN (ns V : List Str) : Nat := (ns.filter fun n => !decide (n ∈ V)).length
theorem leftN_lt {ns V : List Str} {n : Str} (h : n ∈ ns) (h' : n ∉ V) : leftN ns (n :: V) < leftN ns V := by
 have e : (ns.filter fun m => !decide (m ∈ n :: V)) = (ns.filter fun m => !decide (m ∈ V)).filter fun m => !decide (m = n) := by
  rw [List.filter_filter]
  refine List.filter_congr fun m _ => ?_
  by_cases h1 : m = n <;> by_cases h2 : m ∈ V <;> simp [h1, h2]
 unfold leftN
 rw [e]
 exact List.length_filter_lt_length_iff_exists.mpr ⟨n, by simp [h, h'], by simp⟩
structure GrOk (sd te no : List (Str × D)) (L : List NE) (ts ns : List Str) (qsOf : Str → List (GPr × Nat)) : Prop where
 t : sd.lookup ("Terminals" : Str) = some (.dct te)
 n : sd.lookup ("Nonterminals" : Str) = some (.dct no)
 p : sd.lookup ("Prodnames" : Str) = some (.dct (L.map fE))
 tk : te.map (·.1) = ts
 nk : no.map (·.1) = ns
 lk : ∀ e ∈ L, e.1 ∈ ns ∧ e.2.2 = (qsOf e.1).map (prodD aProd)
 ln : ∀ n ∈ ns, n ∈ L.map (·.1)
 tn : ts.Nodup
 nd : ("$end" : Str) ∉ ts
 nn : ns.Nodup
 dis : ∀ n ∈ ns, n ∉ ts ∧ n ≠ "$end"
 row : ∀ n ∈ ns, ∀ q ∈ qsOf n, ∀ s ∈ q.1.2, s ∈ ts ∨ s ∈ ns
 tl : ts.length ≤ 100
 nl : ns.length ≤ 100
noncomputable def AllIn (ns V ss : List Str) : Prop := ∀ s ∈ ss, s ∈ ns → s ∈ V
noncomputable def ClAt (ns : List Str) (qsOf : Str → List (GPr × Nat)) (V : List Str) (n : Str) : Prop := ∀ q ∈ qsOf n, AllIn ns V q.1.2 → n ∈ V
set_option maxHeartbeats 4000000
theorem cyc_ok {d : Addr} {sd te no : List (Str × D)} {L : List NE} {ts ns : List Str} {qsOf : Str → List (GPr × Nat)} {Ter : Str → Prop} {k : Nat} (R : ARoom (k + 1) A) (hs : (d, C.dct sd) ∈ σ.ω) (G : GrOk sd te no L ts ns qsOf)
  (hcl : ∀ n ∈ ns, ∀ q ∈ qsOf n, (∀ s ∈ q.1.2, s ∈ ns → Ter s) → Ter n)
  (p : ∀ V, (∀ n ∈ V, n ∈ ns ∧ Ter n) → (∀ n ∈ ns, ClAt ns qsOf V n) → P (.list ((ns.filter fun n => !decide (n ∈ V)).map .str)) σ) :
  OpL (X3 w mg mb fr) A env σ (fun vs => call (.ref 186) vs) [.obj aGr d] P := by
 refine fn_call (dbs := [("self", .obj aGr d)]) ⟨⟨_, _, _, rfl⟩, rfl, rfl, rfl, rfl, rfl, rfl, rfl, rfl, rfl, rfl, rfl, rfl⟩ R.room ?_ rfl rfl ?_
 ·intro s b vs T hb r
  obtain ⟨v1, rfl, r1⟩ := r.i_one
  exact ⟨_, BindsTo.of_eq rfl, .cons r1 .nil⟩
 ·intro L₀
  have hsl' := hsl
  have R' : ∀ e, ARoom k (A.deeper e) := fun e => R.deeper
  have hts := G.tn
  have hns := G.nn
  have htl := G.tl
  have hnl := G.nl
  try dsimp only
  refine exs_let ?_; intro X' A' e' q'
  walk_at "m"
  refine ev_dictC fun a => ?_
  try dsimp only
  refine exs_cons (ex_forL ts D.str (fun pre => [("terminates", .raw (.ref a)), ("self", .obj aGr d)]) (fun pre => (a, .dct ((ttL pre).map bD)) :: σ.ω) ?_ ?_ (exs_nil ?_) (fun _ => rfl))
  ·have : ts.map D.str = te.map (fun p => D.str p.1) := by rw [← G.tk, List.map_map]; rfl
   rw [this]
   refine src_of ?_
   walk_at "m"
   exact ⟨aGr, sd, _, .cell (.tail _ hs), rfl, G.t, rfl, itb_dct R.hd, .cons rfl (.cons rfl .nil), rfl⟩
  ·intro pre t post hsp
   have hpl : pre.length ≤ 100 := by have := congrArg List.length hsp; simp at this; exact le_c (Nat.le_trans (mid_l this) htl) rfl
   have hnt : t ∉ pre := fun z => by
    rw [hsp, List.nodup_append] at hts
    exact hts.2.2 t z t (.head _) rfl
   refine asg_name rfl ?_
   walk_at "m"
   refine ⟨_, _, _, _, rfl, rfl, .head, by simp [ttL]; exact le_s hpl rfl, ?_⟩
   rw [put_new (lookup_none_of (by rw [ttL_eq, keys_map (g := fun _ => .bool true)]; exact hnt))]
   exact exs_nil ⟨.cons rfl (.cons rfl .nil), by simp [ttL, bD]⟩
  walk_at "m"
  refine ⟨_, _, _, _, rfl, rfl, .head, by simp [ttL]; exact le_s htl rfl, ?_⟩
  rw [put_new (lookup_none_of (by rw [ttL_eq, keys_map (g := fun _ => .bool true)]; exact G.nd)), show (ttL ts).map bD ++ [(("$end" : Str), D.bool true)] = (ttL (ts ++ [("$end" : Str)])).map bD from by simp [ttL, bD]]
  refine exs_cons (ex_forL ns D.str (fun pre => [("terminates", .raw (.ref a)), ("self", .obj aGr d)]) (fun pre => (a, .dct ((ttL (ts ++ [("$end" : Str)])).map bD ++ (nnL [] pre).map bD)) :: σ.ω) ?_ ?_ (exs_nil ?_) (fun _ => rfl))
  ·have : ns.map D.str = no.map (fun p => D.str p.1) := by rw [← G.nk, List.map_map]; rfl
   rw [this]
   refine src_of ?_
   walk_at "m"
   exact ⟨aGr, sd, _, .cell (.tail _ hs), rfl, G.n, rfl, itb_dct R.hd, .cons rfl (.cons rfl .nil), by simp [nnL]⟩
  ·intro pre n post hsp
   have hpl : pre.length ≤ 100 := by have := congrArg List.length hsp; simp at this; exact le_c (Nat.le_trans (mid_l this) hnl) rfl
   have hnt : n ∉ pre := fun z => by
    rw [hsp, List.nodup_append] at hns
    exact hns.2.2 n z n (.head _) rfl
   have hd := G.dis n (by rw [hsp]; simp)
   refine asg_name rfl ?_
   walk_at "m"
   refine ⟨_, _, _, _, rfl, rfl, .head, by simp [ttL, nnL]; exact le_s (Nat.add_le_add htl (Nat.add_le_add_right hpl _)) rfl, ?_⟩
   rw [put_new (lookup_none_of (by rw [List.map_append, ttL_eq, nnL_eq, keys_map (g := fun _ => .bool true), keys_map (g := fun n => .bool (decide (n ∈ ([] : List Str))))]; simp [hnt, hd]))]
   exact exs_nil ⟨.cons rfl (.cons rfl .nil), by simp [nnL, bD]⟩
  rw [show (ttL (ts ++ [("$end" : Str)])).map bD ++ (nnL [] ns).map bD = (tmL ts ns []).map bD from by rw [tmL, List.map_append]]
  let Iv3 : Nat → Sg → Prop := fun m σ' => EA14 (fun V => ∀ n ∈ V, n ∈ ns ∧ Ter n) (fun V => m = leftN ns V) (fun V => Sub σ'.ρ [("terminates", .raw (.ref a)), ("self", .obj aGr d)]) (fun V => σ'.ω = (a, .dct ((tmL ts ns V).map bD)) :: σ.ω)
  refine exs_cons (ex_while Iv3 _ ⟨[], by simp, rfl, .cons rfl (.cons rfl .nil), rfl⟩ ?_)
  rintro m ⟨ρ', ω'⟩ ⟨V, hV, hm, hsub, hω⟩
  dsimp only at hsub hω
  subst hω
  refine te_plain (ev_bool (ob_bool (ite_t rfl ?_))) rfl
  refine TrF.sub hsub ?_
  clear hsub
  walk_at "m"
  let Iv4 : PI L := fun pre σ' => EA26 (fun V' c => ∀ n ∈ V', n ∈ ns ∧ Ter n) (fun V' c => leftN ns V' ≤ leftN ns V) (fun V' c => (c = false → V' = V ∧ ∀ e ∈ pre, ClAt ns qsOf V e.1)) (fun V' c => (c = true → leftN ns V' < leftN ns V)) (fun V' c => Sub σ'.ρ [("some_change", .bool c), ("terminates", .raw (.ref a)), ("self", .obj aGr d)]) (fun V' c => σ'.ω = (a, .dct ((tmL ts ns V').map bD)) :: σ.ω)
  refine ex_forP L kvE Iv4 ?_ ?_ ?_ (fun _ => rfl)
  ·rw [← kv_fE]
   refine src_items R.hd ?_ rfl rfl
   walk_at "m"
   exact ⟨aGr, sd, _, .cell (.tail _ hs), rfl, G.p, rfl, rfl, V, false, hV, Nat.le_refl _, fun _ => ⟨rfl, by simp⟩, (fun h => by exact fet h), .cons rfl (.cons rfl (.cons rfl .nil)), rfl⟩
  ·rintro pre e post ⟨ρ', ω'⟩ hsp ⟨V', c, hV', hle, hno, hyes, hsub, hω⟩
   dsimp only at hsub hω
   subst hω
   have he : e ∈ L := by rw [hsp]; simp
   obtain ⟨hen, hel⟩ := G.lk e he
   obtain ⟨n, ea, el⟩ := e
   dsimp only at hen hel
   subst hel
   have hnt := G.dis n hen
   refine Asg.sub hsub (asg_tup2 R.hd rfl rfl ?_)
   clear hsub
   try dsimp only
   let Iv5 : PI (qsOf n) := fun pre2 σ' => EA03 (∀ q ∈ pre2, ¬ AllIn ns V' q.1.2) (Sub σ'.ρ [("n", .str n), ("some_change", .bool c), ("terminates", .raw (.ref a)), ("self", .obj aGr d)]) (σ'.ω = (a, .dct ((tmL ts ns V').map bD)) :: σ.ω)
   refine exs_cons (ex_forP (qsOf n) (prodD aProd) Iv5 ?_ ?_ ?_ (fun _ => rfl))
   ·refine src_of ?_
    walk_at "m"
    exact ⟨itb_list R.hd, by simp, .cons rfl (.cons rfl (.cons rfl (.cons rfl .nil))), rfl⟩
   ·rintro pre2 q post2 ⟨ρ', ω'⟩ hsp2 ⟨hp2, hsub, hω⟩
    dsimp only at hsub hω
    subst hω
    have hq : q ∈ qsOf n := by rw [hsp2]; simp
    refine Asg.sub hsub (asg_name rfl ?_)
    clear hsub
    try dsimp only
    let Iv6 : PI q.1.2 := fun pre3 σ' => EA03 (AllIn ns V' pre3) (Sub σ'.ρ [("p", prodD aProd q), ("n", .str n), ("some_change", .bool c), ("terminates", .raw (.ref a)), ("self", .obj aGr d)]) (σ'.ω = (a, .dct ((tmL ts ns V').map bD)) :: σ.ω)
    refine exs_cons (ex_forP q.1.2 D.str Iv6 ?_ ?_ ?_ (fun _ => rfl))
    ·refine src_of ?_
     walk_at "m"
     exact ⟨itb_tup R.hd, by simp [AllIn], .cons rfl (.cons rfl (.cons rfl (.cons rfl (.cons rfl .nil)))), rfl⟩
    ·rintro pre3 s post3 ⟨ρ', ω'⟩ hsp3 ⟨hp3, hsub, hω⟩
     dsimp only at hsub hω
     subst hω
     have hsm : s ∈ q.1.2 := by rw [hsp3]; simp
     refine Asg.sub hsub (asg_name rfl ?_)
     clear hsub
     try dsimp only
     have more : (s ∈ ns → s ∈ V') → AllIn ns V' (pre3 ++ [s]) := fun h x hx => by
      rcases List.mem_append.mp hx with hx | hx
      ·exact hp3 x hx
      ·rw [List.mem_singleton.mp hx]; exact h
     refine exs_cons (ex_if (te_not (te_plain (ev_sub ?_) rfl)))
     walk_at "m"
     by_cases hsn : s ∈ ns
     ·refine op_dget (.cell (.head _)) (tm_n hsn (G.dis s hsn)) ?_ (fun _ _ => rfl)
      by_cases hsV : s ∈ V'
      ·refine ob_bool (ite_f (by simp [hsV]) ?_)
       exact exs_nil (exs_nil ⟨more fun _ => hsV, .cons rfl (.cons rfl (.cons rfl (.cons rfl (.cons rfl .nil)))), rfl⟩)
      ·refine ob_bool (ite_t (by simp [hsV]) ?_)
       walk_at "m"
       refine ex_brk (exs_cons (ex_if (te_plain (ev_var rfl rfl ?_ rfl rfl) rfl)))
       refine ob_bool (ite_f (by rfl) ?_)
       refine exs_nil (exs_nil ⟨fun q' hq' => ?_, .cons rfl (.cons rfl (.cons rfl (.cons rfl .nil))), rfl⟩)
       rcases List.mem_append.mp hq' with hq' | hq'
       ·exact hp2 q' hq'
       ·rw [List.mem_singleton.mp hq']; exact fun z => hsV (z s hsm hsn)
     ·refine op_dget (.cell (.head _)) (tm_t ((G.row n hen q hq s hsm).resolve_right hsn)) ?_ (fun _ _ => rfl)
      refine ob_bool (ite_f (c := !true) rfl ?_)
      exact exs_nil (exs_nil ⟨more fun z => absurd z hsn, .cons rfl (.cons rfl (.cons rfl (.cons rfl (.cons rfl .nil)))), rfl⟩)
    ·rintro ⟨ρ', ω'⟩ ⟨hp3, hsub, hω⟩
     dsimp only at hsub hω
     subst hω
     refine TrF.sub hsub ?_
     clear hsub
     have hter : Ter n := hcl n hen q hq fun s hs' hs2 => (hV' s (hp3 s hs' hs2)).2
     walk_at "m"
     refine ob_bool (ite_t (by rfl) ?_)
     refine exs_cons (ex_if (te_not (te_plain (ev_sub ?_) rfl)))
     walk_at "m"
     refine op_dget (.cell (.head _)) (tm_n hen hnt) ?_ (fun _ _ => rfl)
     by_cases hnV : n ∈ V'
     ·refine ob_bool (ite_f (by simp [hnV]) ?_)
      refine exs_nil (exs_cons (ex_brk ?_))
      refine exs_nil ⟨V', c, hV', hle, fun h => ⟨(hno h).1, fun e he' => ?_⟩, hyes, .cons rfl (.cons rfl (.cons rfl .nil)), rfl⟩
      rcases List.mem_append.mp he' with he' | he'
      ·exact (hno h).2 e he'
      ·rw [List.mem_singleton.mp he']; exact fun _ _ _ => (hno h).1 ▸ hnV
     ·refine ob_bool (ite_t (by simp [hnV]) ?_)
      walk_at "m"
      refine ⟨_, _, _, _, rfl, rfl, .head, by simp [tmL, ttL, nnL]; exact le_s (Nat.add_le_add htl (Nat.add_le_add_right hnl _)) rfl, ?_⟩
      rw [tm_put hen hnt]
      walk_at "m"
      refine ex_brk ?_
      have hlt := leftN_lt hen hnV
      refine exs_nil ⟨n :: V', true, fun x hx => ?_, by exact Nat.le_trans (Nat.le_of_lt hlt) hle, (fun h => by exact tef h), fun _ => by exact Nat.lt_of_lt_of_le hlt hle, .cons rfl (.cons rfl (.cons rfl .nil)), rfl⟩
      rcases List.mem_cons.mp hx with rfl | hx
      ·exact ⟨hen, hter⟩
      ·exact hV' x hx
   ·rintro ⟨ρ', ω'⟩ ⟨hp2, hsub, hω⟩
    dsimp only at hsub hω
    subst hω
    refine TrF.sub hsub ?_
    clear hsub
    refine exs_nil (exs_nil ⟨V', c, hV', hle, fun h => ⟨(hno h).1, fun e he' => ?_⟩, hyes, .cons rfl (.cons rfl (.cons rfl .nil)), rfl⟩)
    rcases List.mem_append.mp he' with he' | he'
    ·exact (hno h).2 e he'
    ·rw [List.mem_singleton.mp he']
     exact fun q hq z => absurd ((hno h).1 ▸ z) (hp2 q hq)
  ·rintro ⟨ρ', ω'⟩ ⟨V', c, hV', hle, hno, hyes, hsub, hω⟩
   dsimp only at hsub hω
   subst hω
   refine TrF.sub hsub ?_
   clear hsub
   walk_at "m"
   cases c with
   | true =>
    refine ob_bool (ite_f rfl ?_)
    exact exs_nil (exs_nil ⟨leftN ns V', by have := hyes rfl; exact Nat.lt_of_lt_of_le this (Nat.le_of_eq hm.symm), V', hV', rfl, .cons rfl (.cons rfl .nil), rfl⟩)
   | false =>
    obtain ⟨rfl, hcl'⟩ := hno rfl
    refine ob_bool (ite_t rfl ?_)
    walk_at "m"
    refine ex_brk ?_
    refine trF_freezeDn (ρ' := [("terminates", .dct ((tmL ts ns V').map bD)), ("self", .obj aGr d)]) (fun x d h => ?_) ?_
    ·rw [List.lookup_cons] at h
     cases e1 : (x == ("terminates" : Str)) with
     | true => rw [e1] at h; cases beq_iff_eq.mp e1; obtain rfl := Option.some.inj h; exact .inr ⟨rfl, rfl⟩
     | false =>
      rw [e1, List.lookup_cons] at h
      cases e2 : (x == ("self" : Str)) with
      | true => rw [e2] at h; cases beq_iff_eq.mp e2; obtain rfl := Option.some.inj h; exact .inl rfl
      | false => rw [e2] at h; exact nso h
    walk_at "m"
    refine ev_listC (trl_nil ⟨Nat.le_of_ble_eq_true rfl, fun b => ?_⟩)
    try dsimp only
    refine exs_cons (ex_forL (tmL ts ns V') bT (fun pre => [("infinite", .raw (.ref b)), ("terminates", .dct ((tmL ts ns V').map bD)), ("self", .obj aGr d)]) (fun pre => (b, .lst ((pre.filter notB).map strB)) :: σ.ω) ?_ ?_ (exs_nil ?_) (fun _ => rfl))
    ·rw [← kv_bD]
     refine src_items R.hd ?_ rfl rfl
     walk_at "m"
     exact ⟨rfl, .cons rfl (.cons rfl (.cons rfl .nil)), rfl⟩
    ·rintro pre ⟨s, v⟩ post hsp
     have hpl : pre.length ≤ 1000 := by
      have h1 := congrArg List.length hsp
      simp [tmL, ttL, nnL] at h1; exact le_c (Nat.le_trans (mid_l h1) (Nat.add_le_add htl (Nat.add_le_add_right hnl _))) rfl
     have hfl := List.length_filter_le notB pre
     have hm : (s, v) ∈ tmL ts ns V' := by rw [hsp]; simp
     rw [List.filter_append, List.map_append]
     refine asg_tup2 R.hd rfl rfl ?_
     try dsimp only
     walk_at "m"
     cases v with
     | true =>
      refine ob_bool (ite_f (by rfl) ?_)
      exact exs_nil (exs_nil ⟨.cons rfl (.cons rfl (.cons rfl .nil)), by simp [notB]⟩)
     | false =>
      have hsn : s ∈ ns := by
       rcases List.mem_append.mp hm with z | z
       ·obtain ⟨_, _, z⟩ := List.mem_map.mp z; exact absurd (congrArg Prod.snd z) (by simp)
       ·obtain ⟨x, hx, z⟩ := List.mem_map.mp z; have z1 : x = s := congrArg Prod.fst z
        exact z1 ▸ hx
      refine ob_bool (ite_t (by rfl) ?_)
      walk_at "m"
      refine ⟨aGr, sd, _, .cell (.tail _ hs), rfl, G.p, rfl, ?_⟩
      refine op_dnotin .data (ob_bool (ite_f ?_ ?_))
      ·rw [isSome_lookup, List.map_map]
       have := G.ln s hsn
       have h2 : (Prod.fst ∘ fE) = (fun e : NE => e.1) := rfl
       rw [show (fun x : Str × D => x.1) ∘ fE = (fun e : NE => e.1) from rfl]
       rw [decide_eq_true this]; rfl
      ·refine ite_f (by rfl) ?_
       walk_at "m"
       refine ev_meth (T := "list") (id := "list.append") ?_ F.plainAttrs_list F.slot_list_append F.type_list_append rfl rfl rfl rfl rfl
       walk_at "m"
       refine ⟨isTy_lst (.cell (.head _)), ?_⟩
       walk_at "m"
       refine ol_append .head (by simp; exact le_s (Nat.le_trans hfl hpl) rfl) ⟨rfl, ?_⟩
       exact exs_nil (exs_nil (exs_nil ⟨.cons rfl (.cons rfl (.cons rfl .nil)), by simp [notB, strB]⟩))
    ·refine exs_cons (ex_ret (tr_freeze (ev_var rfl rfl ⟨b, _, _, rfl, rfl, ?_⟩ rfl rfl)))
     rw [tm_end]
     refine p V' hV' fun n hn => ?_
     obtain ⟨e, he, rfl⟩ := List.mem_map.mp (G.ln n hn)
     exact hcl' e he
end
section
variable {X : Cx} {A : Around} {env : Env} {σ : Sg} {P : D → Sg → Prop} {Q : Fl → Sg → Prop} {E : Value → Shared → Prop} {s : Shared}
noncomputable abbrev QCallF (X : Cx) (A : Around) (env : Env) (fa : Addr) (fd : FuncData) (pos : Pos) (args : List Expr) (P : D → Sg → Prop) : D → Sg → Prop := fun f σ₁ =>
 (f = .raw (.ref fa) ∧ (fa, C.raw (FnI fd)) ∈ σ₁.ω) ∧ TrL X A env σ₁ (spliced (backTo pos (starEach args env))) (fun ds σ₂ => (fa, C.raw (FnI fd)) ∈ σ₂.ω ∧ OpL X A env σ₂ (fun vs => call (.ref fa) vs) ds P)
theorem ev_callFn {func : Expr} {e : Expr} {rest : List Expr} {pos : Pos} {fa : Addr} {fd : FuncData} (h : Ev X A env σ func (QCallF X A env fa fd pos (e :: rest) P))
  (he : eval (.Call func (e :: rest) [] pos) env = (do callWith pos (← eval func env) [] (backTo pos (starEach (e :: rest) env)) (backToKw pos (keywordEach [] env))))
  (hst : starEach (e :: rest) env = (false, eval e env) :: starEach rest env) (hpl : (backTo pos (starEach rest env)).any (·.1) = false) : Ev X A env σ (.Call func (e :: rest) [] pos) P := fun s b S => by
 refine Call_ (wpAny_mono (h s b S) ?_ (fun _ _ x => x)) he
 rintro v₁ s₁ ⟨d₁, σ₁, b₁, E₁, S₁, r₁, ⟨rfl, hm₁⟩, h₁⟩
 obtain rfl := r₁.i_raw
 have inK : ∀ h : Heap, h.get? fa = some (fnObj fd) → Frag.In [(fa, fnObj fd)] h := fun h g a o e => by
  rw [List.lookup_cons] at e
  cases z : (a == fa) with
  | true => rw [z] at e; obtain rfl := Option.some.inj e; rw [beq_iff_eq.mp z]; exact g
  | false => rw [z] at e; exact nso e
 have hk : keepIn [(fa, fnObj fd)] (.ref fa) = true := by simp [keepIn, fnObj]
 refine callWith_K (K := [(fa, fnObj fd)]) (inK _ (S₁.hp.cell _ hm₁).2.2.1) hk (wpAny_mono (h₁ s₁ b₁ S₁) ?_ (fun _ _ x => x)) hst hpl
 rintro vs s₂ ⟨ds, σ₂, b₂, E₂, S₂, r₂, hm, h₂⟩
 exact ⟨inK _ (S₂.hp.cell _ hm).2.2.1, wpAny_mono (h₂ s₂ b₂ vs S₂ r₂) (fun v s' q => (q.after E₂).after E₁) (fun _ _ x => x)⟩
theorem ex_ret0 {pos : Pos} (p : Q (.ret .none) σ) : Ex X A env σ (.Return none pos) Q := fun s b S => wpAny_Return_none (PoF.here (d := .ret .none) S Rp.none p)
theorem op_itemT {vl sl : Expr} {x : D} {ds : List D} {k : Int} (h0 : 0 ≤ k) (hx : ds[k.toNat]? = some x) (hz : ds.length ≤ sizeLine) (p : P x σ)
  (hs : ∀ v u, subscripted sl false v (.int k u) = operate [v, .int k u] (getItem v (.int k u))) : Op X A env σ (subscriptTail vl sl) (.tup ds) (.int k) P := fun s b v w S rx ry => by
 obtain ⟨_, rfl⟩ := ry.i_int
 obtain ⟨_, _, _, rfl, g, ra⟩ := rx.i_tup
 rename_i a vs n
 obtain ⟨v, hv, r⟩ := ra.getD hx
 have hlt := (List.getElem?_eq_some_iff.mp hx).1
 have hl : vs.size = ds.length := by rw [← ra.length, Array.length_toList]
 have hzz : sizeLine = 2 ^ 24 := rfl
 have hT : s.TypeIs (.ref a) "tuple" := ⟨_, S.hp.le _ _ g, rfl⟩
 refine tail_any hT F.slot_tuple_getitem.lookup (PyProof.Rows.getItem_tuple (j := k.toNat) (x := v) ⟨_, S.hp.le _ _ g, rfl, n, rfl⟩ (by lia) (by lia) ?_ (by simpa using hv) (Po.here S r p)) (hs _ _)
 unfold seqIndex?
 have e : (if k < 0 then k + (vs.size : Int) else k) = k := if_neg (by lia)
 simp only [e]
 rw [if_pos (by simp; lia)]
end
section
variable {w : World} {mg mb : Str → Option Value} {fr : List Env} {A : Around} {env : Env} {σ : Sg} {P : D → Sg → Prop} {Q : Fl → Sg → Prop}
theorem tabK (P : Params) : TabK (K1 P) 178 176 4 := ⟨⟨_, _, _, _, _, _, _, _, _, _, rfl, rfl, rfl, rfl, rfl, rfl, rfl⟩, by decide, rfl, ⟨_, rfl⟩, by decide⟩
noncomputable def markQ : Str := "Grammar.find_unreachable.<locals>.mark_reachable_from"
noncomputable def markP : Pos := ⟨157, 8, 163, 42⟩
inductive Rch (suc : Str → List Str) : Str → Str → Prop
 | refl (x : Str) : Rch suc x x
 | step {x y z : Str} : y ∈ suc x → Rch suc y z → Rch suc x z
structure Marks (suc : Str → List Str) (U u : List Str) (s : Str) (u' : List Str) : Prop where
 sub : ∀ x ∈ u, x ∈ u'
 nd : u'.Nodup
 inU : ∀ x ∈ u', x ∈ U
 has : s ∈ u'
 new : ∀ x ∈ u', x ∈ u ∨ Rch suc s x
 cl : ∀ x ∈ u', x ∈ u ∨ ∀ y ∈ suc x, y ∈ u'
noncomputable abbrev RowsOf : Type := Str → List (GPr × Nat)
noncomputable def sucOf (rows : RowsOf) (s : Str) : List Str := (rows s).flatMap fun q => q.1.2
structure RowsU (U : List Str) (pn : List (Str × D)) (rows : RowsOf) : Prop where
 get : ∀ s ∈ U, (pn.lookup s).getD (.list []) = .list ((rows s).map (prodD aProd))
 cl : ∀ s ∈ U, ∀ q ∈ rows s, ∀ y ∈ q.1.2, y ∈ U
 len : U.length ≤ 15
theorem leftN_mono {U u u' : List Str} (h : ∀ x ∈ u, x ∈ u') : leftN U u' ≤ leftN U u := by
 unfold leftN
 have e : (U.filter fun m => !decide (m ∈ u')) = (U.filter fun m => !decide (m ∈ u)).filter fun m => !decide (m ∈ u') := by
  rw [List.filter_filter]
  refine List.filter_congr fun m _ => ?_
  by_cases h1 : m ∈ u'
  ·simp [h1]
  ·have h2 : m ∉ u := fun z => h1 (h m z)
   simp [h1, h2]
 rw [e]; exact List.length_filter_le ..
theorem insS_new {u : List Str} {s : Str} (h : s ∉ u) : insS u s = u ++ [s] := by unfold insS; rw [if_neg h]
theorem leftN_app {U u : List Str} {s : Str} (h : s ∈ U) (h' : s ∉ u) : leftN U (u ++ [s]) < leftN U u :=
 Nat.lt_of_le_of_lt (leftN_mono (u := s :: u) fun x hx => by rcases List.mem_cons.mp hx with rfl | hx <;> simp [*]) (leftN_lt h h')
theorem clo_mem {cells : List (Str × Addr)} {y : Str} {c : Addr} (names : List (Str × NameKind)) : ∀ (acc : List (Str × Addr)), (clo cells names acc).lookup y = some c → (y, NameKind.free) ∈ names ∨ acc.lookup y = some c := by
 induction names with
 | nil => intro acc h; exact .inr h
 | cons p0 r ih =>
  obtain ⟨n, k⟩ := p0; intro acc h
  unfold clo at h
  split at h
  ·rename_i hk
   rcases ih _ h with z | z
   ·exact .inl (.tail _ z)
   ·rw [List.lookup_cons] at z
    cases e : (y == n) with
    | true => rw [beq_iff_eq.mp e, beq_iff_eq.mp hk]; exact .inl (.head _)
    | false => rw [e] at z; exact .inr z
  ·rcases ih _ h with z | z
   ·exact .inl (.tail _ z)
   ·exact .inr z
theorem clo_hasF {cells : List (Str × Addr)} {y : Str} (names : List (Str × NameKind)) : ∀ (acc : List (Str × Addr)), ((y, NameKind.free) ∈ names ∨ ∃ c, acc.lookup y = some c) → ∃ c, (clo cells names acc).lookup y = some c := by
 induction names with
 | nil => intro acc h; exact h.resolve_left (by simp)
 | cons p0 r ih =>
  obtain ⟨n, k⟩ := p0; intro acc h
  unfold clo
  split
  ·refine ih _ ?_
   rcases h with h | ⟨c, h⟩
   ·rcases List.mem_cons.mp h with h | h
    ·cases h; exact .inr ⟨(cells.lookup y).getD 0, by simp⟩
    ·exact .inl h
   ·right
    rw [List.lookup_cons]
    split
    ·exact ⟨_, rfl⟩
    ·exact ⟨c, h⟩
  ·rename_i hk
   refine ih _ (h.imp (fun h => ?_) id)
   rcases List.mem_cons.mp h with h | h
   ·cases h; simp at hk
   ·exact h
theorem kind_of {names : List (Str × NameKind)} {f : Str → Option NameKind} {kd : NameKind} {x : Str} (h : (names.all fun p => p.2 != .free || f p.1 == some kd) = true) (hx : (x, NameKind.free) ∈ names) : f x = some kd := by
 have := List.all_eq_true.mp h _ hx
 simpa using this
theorem Marks.old {suc : Str → List Str} {U u : List Str} {s : Str} (hnd : u.Nodup) (hin : ∀ x ∈ u, x ∈ U) (h : s ∈ u) : Marks suc U u s u := ⟨fun _ h => h, hnd, hin, h, fun _ h => .inl h, fun _ h => .inl h⟩
structure Marked (suc : Str → List Str) (U u : List Str) (s : Str) (u' : List Str) (done : List Str) : Prop where
 sub : ∀ x ∈ u ++ [s], x ∈ u'
 nd : u'.Nodup
 inU : ∀ x ∈ u', x ∈ U
 new : ∀ x ∈ u', x ∈ u ∨ Rch suc s x
 cl : ∀ x ∈ u', x ∈ u ++ [s] ∨ ∀ y ∈ suc x, y ∈ u'
 dn : ∀ y ∈ done, y ∈ u'
theorem Marked.start {suc : Str → List Str} {U u : List Str} {s : Str} (hnd : u.Nodup) (hin : ∀ x ∈ u, x ∈ U) (hs : s ∈ U) (h : s ∉ u) : Marked suc U u s (u ++ [s]) [] := by
 refine ⟨fun _ h => h, ?_, fun x hx => ?_, fun x hx => ?_, fun _ h => .inl h, fun y hy => by cases hy⟩
 ·rw [List.nodup_append]; exact ⟨hnd, by simp, fun a ha b hb z => h (by rw [List.mem_singleton.mp hb] at z; rw [← z]; exact ha)⟩
 ·rcases List.mem_append.mp hx with hx | hx
  ·exact hin x hx
  ·rw [List.mem_singleton.mp hx]; exact hs
 ·rcases List.mem_append.mp hx with hx | hx
  ·exact .inl hx
  ·rw [List.mem_singleton.mp hx]; exact .inr (.refl _)
theorem Marked.next {suc : Str → List Str} {U u u' u2 done : List Str} {s y : Str} (M : Marked suc U u s u' done) (hy : y ∈ suc s) (N : Marks suc U u' y u2) : Marked suc U u s u2 (done ++ [y]) := by
 refine ⟨fun x hx => N.sub x (M.sub x hx), N.nd, N.inU, fun x hx => ?_, fun x hx => ?_, fun z hz => ?_⟩
 ·rcases N.new x hx with h | h
  ·exact M.new x h
  ·exact .inr (.step hy h)
 ·rcases N.cl x hx with h | h
  ·exact (M.cl x h).imp id fun h z hz => N.sub z (h z hz)
  ·exact .inr h
 ·rcases List.mem_append.mp hz with hz | hz
  ·exact N.sub z (M.dn z hz)
  ·rw [List.mem_singleton.mp hz]; exact N.has
theorem Marked.done {suc : Str → List Str} {U u u' dn : List Str} {s : Str} (M : Marked suc U u s u' dn) (h : ∀ y ∈ suc s, y ∈ dn) : Marks suc U u s u' := by
 refine ⟨fun x hx => M.sub x (by simp [hx]), M.nd, M.inU, M.sub s (by simp), M.new, fun x hx => ?_⟩
 rcases M.cl x hx with z | z
 ·rcases List.mem_append.mp z with z | z
  ·exact .inl z
  ·rw [List.mem_singleton.mp z]; exact .inr fun y hy => M.dn y (h y hy)
 ·exact .inr z
set_option maxHeartbeats 4000000
theorem unr_ok {d : Addr} {sd no pn : List (Str × D)} {U ns : List Str} {rows : RowsOf} {start : Str} {r : List D} {k : Nat} (R : ARoom (k + 20) A) (hs : (d, C.dct sd) ∈ σ.ω) (hT : (176, C.raw (TabI markP markQ)) ∈ σ.ω)
  (h1 : sd.lookup ("Nonterminals" : Str) = some (.dct no)) (h2 : sd.lookup ("Prodnames" : Str) = some (.dct pn)) (h3 : sd.lookup ("Productions" : Str) = some (.list (p0D start :: r))) (hno : no.map (·.1) = ns) (hr : r.length ≤ 1000) (hnl : ns.length ≤ 100)
  (G : RowsU U pn rows) (hst : start ∈ U)
  (p : ∀ u, Marks (sucOf rows) U [] start u → P (.list ((ns.filter fun s => !decide (s ∈ u)).map .str)) σ) :
  OpL (X3 w mg mb fr) A env σ (fun vs => call (.ref 179) vs) [.obj aGr d] P := by
 refine fn_call (dbs := [("self", .obj aGr d)]) ⟨⟨_, _, _, rfl⟩, rfl, rfl, rfl, rfl, rfl, rfl, rfl, rfl, rfl, rfl, rfl, rfl⟩ R.room ?_ rfl rfl ?_
 ·intro s b vs T hb r
  obtain ⟨v1, rfl, r1⟩ := r.i_one
  exact ⟨_, BindsTo.of_eq rfl, .cons r1 .nil⟩
 ·intro L₀
  have hsl' := hsl
  have R' : ∀ e, ARoom (k + 19) (A.deeper e) := fun e => R.deeper
  try dsimp only
  refine exs_cons (ex_def (c := 178) (Pl := 176) (bm := 4) (q := markQ) rfl (tabK _) hT (by kernel_rfl) rfl rfl rfl rfl rfl (by intro e; kernel_rfl) fun fa fd hfd => ?_)
  try dsimp only
  walk_at "m"
  refine ev_callT0 (ev_blt rfl (by boot_fast) (by decide) rfl ⟨rfl, ol_setC fun rs => ?_⟩ rfl) rfl
  try dsimp only
  have mark : ∀ (m : Nat) {k : Nat} {A : Around} {fr : List Env} {env : Env} {ρ : List (Str × D)} {u : List Str} {s : Str} {P : D → Sg → Prop}, ARoom (k + m + 1) A → leftN U u < m → s ∈ U → u.Nodup → (∀ x ∈ u, x ∈ U) →
    (∀ x c, fd.closure.lookup x = some c → env.cells.lookup x = some c ∧ (env.kindOf x = some .cell ∨ env.kindOf x = some .free)) →
    ρ.lookup ("self" : Str) = some (.obj aGr d) → ρ.lookup ("mark_reachable_from" : Str) = some (.raw (.ref fa)) → ρ.lookup ("reachable" : Str) = some (.raw (.ref rs)) →
    (∀ u', Marks (sucOf rows) U u s u' → P .none ⟨ρ, (rs, .raw (SetC PySem.Challenge.rw_rp0001_01.row.prog w u')) :: (fa, .raw (FnI fd)) :: σ.ω⟩) →
    OpL (X3 w mg mb fr) A env ⟨ρ, (rs, .raw (SetC PySem.Challenge.rw_rp0001_01.row.prog w u)) :: (fa, .raw (FnI fd)) :: σ.ω⟩ (fun vs => call (.ref fa) vs) [.str s] P := by
   intro m
   induction m with
   | zero => intro k A fr env ρ u s P R hl; exact absurd hl (Nat.not_lt_zero _)
   | succ m ih =>
    intro k A fr env ρ u s P R hl hsU hnd hin hcl hρ1 hρ2 hρ3 p
    have hul : u.length ≤ 15 := Nat.le_trans (nodup_len hnd hin) G.len
    refine fn_clo (dps := [("s", .str s)]) (dfs := [("self", .obj aGr d), ("mark_reachable_from", .raw (.ref fa)), ("reachable", .raw (.ref rs))]) (mkFd_ok hfd rfl rfl rfl rfl) R.room (.tail _ (.head _)) ⟨hcl, fun x hx => ?_⟩ ?_ rfl rfl rfl (fun x d h => ?_) ?_
    ·rw [mkFd_cl hfd]; exact clo_hasF _ _ (.inl (lookup_mem_kind hx))
    ·intro s b vs T hb r
     obtain ⟨v1, rfl, r1⟩ := r.i_one
     exact ⟨_, mkFd_binds hfd fun _ _ _ => rfl, .cons r1 .nil⟩
    ·simp only [List.lookup_cons] at h
     split at h
     ·rename_i e; cases beq_iff_eq.mp e; obtain rfl := Option.some.inj h; exact hρ1
     ·split at h
      ·rename_i e; cases beq_iff_eq.mp e; obtain rfl := Option.some.inj h; exact hρ2
      ·split at h
       ·rename_i e; cases beq_iff_eq.mp e; obtain rfl := Option.some.inj h; exact hρ3
       ·exact nso h
    ·intro L
     have R'' : ∀ e, ARoom (k + m + 1) (A.deeper e) := fun e => R.deeper
     try dsimp only [List.cons_append, List.nil_append]
     refine exs_let ?_; intro X' A' e' q'
     walk_at "m"
     refine op_inset (.head _) (ob_bool ?_)
     by_cases hsu : s ∈ u
     ·refine ite_t (decide_eq_true hsu) (exs_cons (ex_ret0 ?_))
      exact p u (.old hnd hin hsu)
     ·refine ite_f (decide_eq_false hsu) (exs_nil ?_)
      walk_at "m"
      refine ev_meth (T := "set") (id := "set.add") ?_ F.plainAttrs_set F.slot_set_add F.type_set_add rfl rfl rfl rfl rfl
      walk_at "m"
      refine ⟨isTy_set (.head _), ?_⟩
      walk_at "m"
      refine ol_sadd .head (by exact lelt_c hul rfl) ⟨rfl, ?_⟩
      rw [insS_new hsu]
      let Iv1 : PI (rows s) := fun pre σ' => EA13 (fun u' => Marked (sucOf rows) U u s u' (pre.flatMap fun q => q.1.2)) (fun u' => Sub σ'.ρ [("s", .str s), ("self", .obj aGr d), ("mark_reachable_from", .raw (.ref fa)), ("reachable", .raw (.ref rs))]) (fun u' => σ'.ω = (rs, .raw (SetC PySem.Challenge.rw_rp0001_01.row.prog w u')) :: (fa, .raw (FnI fd)) :: σ.ω)
      refine exs_cons (ex_forP (rows s) (prodD aProd) Iv1 ?_ ?_ ?_ (fun _ => rfl))
      ·refine src_of ?_
       refine ev_meth (T := "dict") (id := "dict.get") ?_ F.plainAttrs_dict F.slot_dict_get F.type_dict_get rfl rfl rfl rfl rfl
       walk_at "m"
       refine ⟨aGr, sd, _, .cell (.tail _ (.tail _ hs)), rfl, h2, rfl, ?_⟩
       refine ⟨isTy_dct .data, ?_⟩
       walk_at "m"
       refine ev_list ?_
       walk_at "m"
       refine ol_get .data ?_
       rw [G.get s hsU]
       exact ⟨itb_list R.hd, _, .start hnd hin hsU hsu, .cons rfl (.cons rfl (.cons rfl (.cons rfl .nil))), rfl⟩
      ·rintro pre q post ⟨ρ', ω'⟩ hsp ⟨u', M, hsub, hω⟩
       dsimp only at hsub hω
       subst hω
       have hq : q ∈ rows s := by rw [hsp]; simp
       refine Asg.sub hsub (asg_name rfl ?_)
       clear hsub
       try dsimp only
       let Iv2 : PI q.1.2 := fun pre2 σ' => EA13 (fun u' => Marked (sucOf rows) U u s u' (pre.flatMap (fun q => q.1.2) ++ pre2)) (fun u' => Sub σ'.ρ [("p", prodD aProd q), ("s", .str s), ("self", .obj aGr d), ("mark_reachable_from", .raw (.ref fa)), ("reachable", .raw (.ref rs))]) (fun u' => σ'.ω = (rs, .raw (SetC PySem.Challenge.rw_rp0001_01.row.prog w u')) :: (fa, .raw (FnI fd)) :: σ.ω)
       refine exs_cons (ex_forP q.1.2 D.str Iv2 ?_ ?_ ?_ (fun _ => rfl))
       ·refine src_of ?_
        walk_at "m"
        exact ⟨itb_tup R.hd, u', by simpa using M, .cons rfl (.cons rfl (.cons rfl (.cons rfl (.cons rfl .nil)))), rfl⟩
       ·rintro pre2 y post2 ⟨ρ', ω'⟩ hsp2 ⟨u2, M2, hsub, hω⟩
        dsimp only at hsub hω
        subst hω
        have hy : y ∈ q.1.2 := by rw [hsp2]; simp
        have hys : y ∈ sucOf rows s := List.mem_flatMap.mpr ⟨q, hq, hy⟩
        refine Asg.sub hsub (asg_name rfl ?_)
        clear hsub
        try dsimp only
        refine exs_cons (ex_expr (ev_callFn (fa := fa) (fd := fd) (ev_var rfl rfl ⟨⟨rfl, .tail _ (.head _)⟩, ?_⟩ rfl rfl) rfl rfl rfl) rfl rfl)
        walk_at "m"
        refine ⟨.tail _ (.head _), ih (k := k) (R'' _) ?_ (G.cl s hsU q hq y hy) M2.nd M2.inU (fun x c h => ⟨h, .inr ?_⟩) rfl rfl rfl fun u3 N => ⟨rfl, exs_nil ⟨u3, ?_, .cons rfl (.cons rfl (.cons rfl (.cons rfl (.cons rfl .nil)))), rfl⟩⟩⟩
        ·have h1 := leftN_mono (U := U) M2.sub
         have h2 := leftN_app hsU hsu
         lia
        ·have h : fd.closure.lookup x = some c := h
         rw [mkFd_cl hfd] at h
         exact kind_of rfl ((clo_mem _ _ h).resolve_right (by simp))
        ·rw [← List.append_assoc]; exact M2.next hys N
       ·rintro ⟨ρ', ω'⟩ ⟨u2, M2, hsub, hω⟩
        dsimp only at hsub hω
        subst hω
        refine TrF.sub hsub ?_
        clear hsub
        exact exs_nil (exs_nil ⟨u2, by simpa using M2, .cons rfl (.cons rfl (.cons rfl (.cons rfl .nil))), rfl⟩)
      ·rintro ⟨ρ', ω'⟩ ⟨u', M, hsub, hω⟩
       dsimp only at hsub hω
       subst hω
       exact exs_nil (exs_nil (p u' (M.done fun y hy => hy)))
  refine exs_cons (ex_expr (ev_callFn (fa := fa) (fd := fd) (ev_var rfl rfl ⟨⟨rfl, .tail _ (.head _)⟩, ?_⟩ rfl rfl) rfl rfl rfl) rfl rfl)
  refine trl_cons (ev_sub (ev_attr (ev_sub ?_) rfl)) rfl
  walk_at "m"
  refine ⟨aGr, sd, _, .cell (.tail _ (.tail _ hs)), rfl, h3, rfl, ?_⟩
  walk_at "m"
  refine op_item (x := p0D start) .data (by decide) rfl (by simp; exact le_s (Nat.add_le_add_right hr _) rfl) ?_ (fun _ _ => rfl)
  unfold p0D
  walk_at "m"
  refine op_itemT (x := .str start) (by decide) rfl (Nat.le_of_ble_eq_true rfl) ?_ (fun _ _ => rfl)
  walk_at "m"
  have hU := G.len
  refine ⟨.tail _ (.head _), mark 16 (k := k + 2) (R' _) ?_ hst List.nodup_nil (by simp) (fun x c h => ?_) rfl rfl rfl fun u M => ⟨rfl, ?_⟩⟩
  ·exact Nat.lt_succ_of_le (Nat.le_trans (List.length_filter_le ..) hU)
  ·rw [mkFd_cl hfd] at h
   have hm := (clo_mem _ _ h).resolve_right (by simp)
   refine ⟨(clo_lookup _ _ (fun p hp hk => ?_) h).resolve_right (by simp), .inl (kind_of rfl hm)⟩
   obtain ⟨n, kd⟩ := p
   cases hk
   have kc : ([("self", NameKind.cell), ("mark_reachable_from", NameKind.cell), ("reachable", NameKind.cell), ("set", NameKind.globalImplicit)] : List (Str × NameKind)).lookup n = some .cell := kind_of (f := fun n => ([("self", NameKind.cell), ("mark_reachable_from", NameKind.cell), ("reachable", NameKind.cell), ("set", NameKind.globalImplicit)] : List (Str × NameKind)).lookup n) rfl hp
   exact Option.isSome_iff_exists.mp (cellsFrom_some _ _ _ (.inl kc))
  refine exs_cons (ex_ret (tr_drop (ev_lc (c := fun s => !decide (s ∈ u)) ns D.str (fun s => .str s) (by rfl) (by exact le_s hnl rfl) (fun _ => rfl) ?_ ?_ ⟨σ.ω, .cons _ (.cons _ (.refl _)), p u M⟩)))
  ·have : ns.map D.str = no.map (fun p => D.str p.1) := by rw [← hno, List.map_map]; rfl
   rw [this]
   refine src_of ?_
   walk_at "m"
   exact ⟨aGr, sd, _, .cell (.tail _ (.tail _ hs)), rfl, h1, rfl, itb_dct R.hd, rfl, rfl⟩
  ·intro cl Ca acc pre s post hsp
   refine asg_name rfl (ts_one ?_)
   walk_at "m"
   refine op_ninset (.tail _ (.head _)) (ob_bool ?_)
   refine ⟨rfl, rfl, fun _ => ?_⟩
   walk_at "m"
   exact ⟨rfl, rfl⟩
end
section
variable {w : World} {mg mb : Str → Option Value} {fr : List Env} {A : Around} {env : Env} {σ : Sg} {P : D → Sg → Prop} {Q : Fl → Sg → Prop}
variable {qs : List CPr} {M : List Nat} {start : Nat} {TT NT PN : List NE}
noncomputable def qsAt (qs : List CPr) (n : Str) : List (GPr × Nat) := ((qs.map gpr).zipIdx 1).filter fun q => q.1.1 == n
theorem zip_mem {α : Type} {l : List α} {x : α} {i k : Nat} (h : (x, i) ∈ l.zipIdx k) : x ∈ l := List.fst_mem_of_mem_zipIdx h
theorem zip_has {α : Type} {l : List α} {x : α} (h : x ∈ l) : ∃ i, (x, i) ∈ l.zipIdx 1 := by
 have h1 : (l.zipIdx 1).map (·.1) = l := by simp
 rw [← h1] at h
 obtain ⟨⟨y, i⟩, hm, rfl⟩ := List.mem_map.mp h
 exact ⟨i, hm⟩
theorem qsAt_mem {n : Str} {q : GPr × Nat} (h : q ∈ qsAt qs n) : ∃ c ∈ qs, q.1 = gpr c ∧ symS c.1 = n := by
 obtain ⟨h1, h2⟩ := List.mem_filter.mp h
 obtain ⟨c, hc, e⟩ := List.mem_map.mp (zip_mem (x := q.1) (i := q.2) h1)
 exact ⟨c, hc, e.symm, by have := beq_iff_eq.mp h2; rw [← e] at this; exact this⟩
theorem qsAt_of {c : CPr} (h : c ∈ qs) : ∃ q ∈ qsAt qs (symS c.1), q.1 = gpr c := by
 obtain ⟨i, hi⟩ := zip_has (List.mem_map_of_mem (f := gpr) h)
 exact ⟨(gpr c, i), List.mem_filter.mpr ⟨hi, by simp [gpr]⟩, rfl⟩
theorem nts_end : ∀ c ∈ NTs, symS c ≠ ("$end" : Str) := by decide +kernel
theorem nts_tss : ∀ c ∈ NTs, c ∉ TSs := by decide
theorem Told.ns (T : Told qs start TT NT PN) (H : Gram qs M start) (k : Str) : k ∈ NT.map (·.1) ↔ ∃ c ∈ M, k = symS c := by
 rw [T.n.nk]
 constructor
 ·rintro ⟨p, hp, h⟩
  obtain ⟨q, hq, rfl⟩ := List.mem_map.mp hp
  rcases h with rfl | ⟨h, h'⟩
  ·exact ⟨q.1, H.lhM q hq, rfl⟩
  ·obtain ⟨c, hc, rfl⟩ := List.mem_map.mp h
   exact ⟨c, (H.rhM q hq c hc).resolve_right fun z => h' (tss_is c z), rfl⟩
 ·rintro ⟨c, hc, rfl⟩
  obtain ⟨q, hq, rfl⟩ := H.has c hc
  exact ⟨gpr q, List.mem_map_of_mem hq, .inl rfl⟩
theorem Told.nl (T : Told qs start TT NT PN) (H : Gram qs M start) : (NT.map (·.1)).length ≤ 4 := by
 refine Nat.le_trans (nodup_len (U := NTs.map symS) T.n.nn fun x hx => ?_) (by simp [NTs])
 obtain ⟨c, hc, rfl⟩ := (T.ns H x).mp hx
 exact List.mem_map_of_mem (H.sub c hc)
theorem Told.gr (T : Told qs start TT NT PN) (H : Gram qs M start) (fi fo us : D) : GrOk (grF qs start TT NT PN fi fo us) (TT.map fE) ((appE (symS start) (.int 0) NT).map fE) PN tsS (NT.map (·.1)) (qsAt qs) where
 t := rfl
 n := rfl
 p := rfl
 tk := by rw [List.map_map]; exact T.n.tk
 nk := by rw [List.map_map]; exact appE_keys _ _ _
 lk := fun e he => by
  obtain ⟨p, hp, h⟩ := (T.p.pk e.1).mp (List.mem_map_of_mem he)
  obtain ⟨q, hq, rfl⟩ := List.mem_map.mp hp
  exact ⟨(T.ns H _).mpr ⟨q.1, H.lhM q hq, h⟩, T.p.pc e he⟩
 ln := fun n hn => by
  obtain ⟨c, hc, rfl⟩ := (T.ns H n).mp hn
  obtain ⟨q, hq, rfl⟩ := H.has c hc
  exact (T.p.pk _).mpr ⟨gpr q, List.mem_map_of_mem hq, rfl⟩
 tn := by decide +kernel
 nd := by decide +kernel
 nn := T.n.nn
 dis := fun n hn => by
  obtain ⟨c, hc, rfl⟩ := (T.ns H n).mp hn
  exact ⟨nts_not c (H.sub c hc), nts_end c (H.sub c hc)⟩
 row := fun n hn q hq s hs => by
  obtain ⟨c, hc, e, _⟩ := qsAt_mem hq
  rw [e] at hs
  obtain ⟨x, hx, rfl⟩ := List.mem_map.mp hs
  rcases H.rhM c hc x hx with h | h
  ·exact .inr ((T.ns H _).mpr ⟨x, h, rfl⟩)
  ·exact .inl (tss_is x h)
 tl := by decide
 nl := Nat.le_trans (T.nl H) (by decide)
inductive Rc (qs : List CPr) : Nat → Nat → Prop
 | refl (x : Nat) : Rc qs x x
 | step {q : CPr} {y z : Nat} (hq : q ∈ qs) (hy : y ∈ q.2) (h : Rc qs y z) : Rc qs q.1 z
inductive Tm (qs : List CPr) : Nat → Prop
 | mk {q : CPr} (hq : q ∈ qs) (h : ∀ y ∈ q.2, y ∈ NTs → Tm qs y) : Tm qs q.1
theorem suc_mem {a : Nat} {y : Str} : y ∈ sucOf (qsAt qs) (symS a) ↔ ∃ q ∈ qs, q.1 = a ∧ ∃ x ∈ q.2, y = symS x := by
 constructor
 ·intro h
  obtain ⟨q, hq, hy⟩ := List.mem_flatMap.mp h
  obtain ⟨c, hc, e, e2⟩ := qsAt_mem hq
  rw [e] at hy
  obtain ⟨x, hx, rfl⟩ := List.mem_map.mp hy
  exact ⟨c, hc, symS_inj e2, x, hx, rfl⟩
 ·rintro ⟨q, hq, rfl, x, hx, rfl⟩
  obtain ⟨p, hp, e⟩ := qsAt_of hq
  exact List.mem_flatMap.mpr ⟨p, hp, by rw [e]; exact List.mem_map_of_mem hx⟩
theorem rch_rc {a : Nat} {s t : Str} (h : Rch (sucOf (qsAt qs)) s t) (e : s = symS a) : ∃ b, t = symS b ∧ Rc qs a b := by
 induction h generalizing a with
 | refl => exact ⟨a, e, .refl a⟩
 | step h1 _ ih =>
  subst e
  obtain ⟨q, hq, rfl, x, hx, rfl⟩ := suc_mem.mp h1
  obtain ⟨b, hb, h2⟩ := ih rfl
  exact ⟨b, hb, .step hq hx h2⟩
theorem rc_in {a b : Nat} (h : Rc qs a b) {u : List Str} (h0 : symS a ∈ u) (hc : ∀ x ∈ u, ∀ y ∈ sucOf (qsAt qs) x, y ∈ u) : symS b ∈ u := by
 induction h with
 | refl => exact h0
 | step hq hy _ ih => exact ih (hc _ h0 _ (suc_mem.mpr ⟨_, hq, rfl, _, hy, rfl⟩))
theorem lookup_fE {k : Str} {a : Addr} {l : List D} {L : List NE} : (L.map (·.1)).Nodup → (k, a, l) ∈ L → (L.map fE).lookup k = some (.list l) := by
 induction L with
 | nil => intro _ h; cases h
 | cons q r ih =>
  intro hn h
  simp only [List.map_cons, List.nodup_cons] at hn
  simp only [List.map_cons, fE, List.lookup_cons]
  rcases List.mem_cons.mp h with rfl | h
  ·simp
  ·have hne : (k == q.1) = false := ne_beq fun z => hn.1 (by rw [← z]; exact List.mem_map_of_mem (f := (·.1)) h)
   rw [hne]; exact ih hn.2 h
theorem pn_get (T : Told qs start TT NT PN) (s : Str) : ((PN.map fE).lookup s).getD (.list []) = .list ((qsAt qs s).map (prodD aProd)) := by
 by_cases h : s ∈ PN.map (·.1)
 ·obtain ⟨⟨k, a, l⟩, he, rfl⟩ := List.mem_map.mp h
  rw [lookup_fE T.p.pn he]
  have := T.p.pc _ he
  simp only at this
  rw [this]; rfl
 ·have h1 : (PN.map fE).lookup s = none := by
   have : (PN.map fE).map (·.1) = PN.map (·.1) := by rw [List.map_map]; rfl
   exact lookup_none_of (by rw [this]; exact h)
  have h2 : qsAt qs s = [] := by
   rw [List.eq_nil_iff_forall_not_mem]
   intro q hq
   obtain ⟨c, hc, _, e⟩ := qsAt_mem hq
   exact h ((T.p.pk s).mpr ⟨gpr c, List.mem_map_of_mem hc, e.symm⟩)
  rw [h1, h2]; rfl
theorem unrC_ok {d : Addr} {fi fo us : D} {k : Nat} (R : ARoom (k + 20) A) (H : Gram qs M start) (T : Told qs start TT NT PN) (hs : (d, C.dct (grF qs start TT NT PN fi fo us)) ∈ σ.ω) (hT : (176, C.raw (TabI markP markQ)) ∈ σ.ω)
  (p : ∀ res : List Str, res.Nodup → (∀ x, x ∈ res ↔ ∃ c ∈ M, x = symS c ∧ ¬ Rc qs start c) → P (.list (res.map .str)) σ) : OpL (X3 w mg mb fr) A env σ (fun vs => call (.ref 179) vs) [.obj aGr d] P := by
 have G := T.gr H fi fo us
 refine unr_ok (U := (TSs ++ M).map symS) (rows := qsAt qs) (start := symS start) R hs hT G.n G.p rfl G.nk (by simp [psD]; have := H.few; exact le_c this rfl) G.nl ⟨fun s _ => pn_get T s, fun s _ q hq y hy => ?_, ?_⟩ (List.mem_map_of_mem (List.mem_append_right _ H.stM)) fun u Mk => ?_
 ·obtain ⟨c, hc, e, _⟩ := qsAt_mem hq
  rw [e] at hy
  obtain ⟨x, hx, rfl⟩ := List.mem_map.mp hy
  refine List.mem_map_of_mem (List.mem_append.mpr ((H.rhM c hc x hx).symm))
 ·have := H.ml; simp [TSs]; exact le_c this rfl
 ·refine p _ (T.n.nn.filter _) fun x => ?_
  have hR : ∀ c, symS c ∈ u ↔ Rc qs start c := fun c => ⟨fun h => by
   rcases Mk.new _ h with z | z
   ·cases z
   ·obtain ⟨b, hb, h2⟩ := rch_rc z rfl
    exact symS_inj hb ▸ h2, fun h => rc_in h Mk.has fun x hx => (Mk.cl x hx).resolve_left (by simp)⟩
  rw [List.mem_filter, T.ns H]
  constructor
  ·rintro ⟨⟨c, hc, rfl⟩, h⟩
   exact ⟨c, hc, rfl, fun z => by rw [decide_eq_true ((hR c).mpr z)] at h; exact fet h⟩
  ·rintro ⟨c, hc, rfl, h⟩
   exact ⟨⟨c, hc, rfl⟩, by rw [decide_eq_false fun z => h ((hR c).mp z)]; rfl⟩
theorem cycC_ok {d : Addr} {fi fo us : D} {k : Nat} (R : ARoom (k + 1) A) (H : Gram qs M start) (T : Told qs start TT NT PN) (hs : (d, C.dct (grF qs start TT NT PN fi fo us)) ∈ σ.ω)
  (p : ∀ res : List Str, res.Nodup → (∀ x, x ∈ res ↔ ∃ c ∈ M, x = symS c ∧ ¬ Tm qs c) → P (.list (res.map .str)) σ) : OpL (X3 w mg mb fr) A env σ (fun vs => call (.ref 186) vs) [.obj aGr d] P := by
 have G := T.gr H fi fo us
 refine cyc_ok (Ter := fun s => ∃ c, s = symS c ∧ Tm qs c) R hs G (fun n hn q hq h => ?_) fun V hV hcl => ?_
 ·obtain ⟨c, hc, e, rfl⟩ := qsAt_mem hq
  refine ⟨c.1, rfl, .mk hc fun y hy hyn => ?_⟩
  have hyM : y ∈ M := (H.rhM c hc y hy).resolve_right (nts_tss y hyn)
  obtain ⟨b, hb, h2⟩ := h (symS y) (by rw [e]; exact List.mem_map_of_mem hy) ((T.ns H _).mpr ⟨y, hyM, rfl⟩)
  exact symS_inj hb ▸ h2
 ·refine p _ (T.n.nn.filter _) fun x => ?_
  have hT : ∀ c, Tm qs c → symS c ∈ V := fun c h => by
   induction h with
   | mk hq h ih =>
    rename_i q
    obtain ⟨p, hp, e⟩ := qsAt_of hq
    refine hcl _ ((T.ns H _).mpr ⟨q.1, H.lhM q hq, rfl⟩) p hp fun s hs hsn => ?_
    rw [e] at hs
    obtain ⟨y, hy, rfl⟩ := List.mem_map.mp hs
    obtain ⟨b, hb, e2⟩ := (T.ns H _).mp hsn
    cases symS_inj e2
    exact ih y hy (H.sub y hb)
  rw [List.mem_filter, T.ns H]
  constructor
  ·rintro ⟨⟨c, hc, rfl⟩, h⟩
   exact ⟨c, hc, rfl, fun z => by rw [decide_eq_true (hT c z)] at h; exact fet h⟩
  ·rintro ⟨c, hc, rfl, h⟩
   have hn : symS c ∉ V := fun z => by
    obtain ⟨b, hb, h2⟩ := (hV _ z).2
    exact h (symS_inj hb ▸ h2)
   exact ⟨⟨c, hc, rfl⟩, by rw [decide_eq_false hn]; rfl⟩
end
section
variable {w : World} {mg mb : Str → Option Value} {fr : List Env} {A : Around} {env : Env} {σ : Sg} {P : D → Sg → Prop} {Q : Fl → Sg → Prop}
variable {qs : List CPr} {M : List Nat} {start : Nat} {TT NT PN : List NE}
noncomputable def idle (qs : List CPr) (c : Nat) : Bool := qs.all fun q => !decide (c ∈ q.2)
theorem idle_iff {c : Nat} : idle qs c = true ↔ ∀ q ∈ qs, c ∉ q.2 := by simp [idle]
theorem gpr_has {c : Nat} {q : CPr} : symS c ∈ (gpr q).2 ↔ c ∈ q.2 := by
 constructor
 ·intro h
  obtain ⟨x, hx, e⟩ := List.mem_map.mp h
  exact symS_inj e ▸ hx
 ·exact fun h => List.mem_map_of_mem h
theorem idle_gpr {c : Nat} : (∀ p ∈ qs.map gpr, symS c ∉ p.2) ↔ idle qs c = true := by
 rw [idle_iff]
 constructor
 ·exact fun h q hq z => h _ (List.mem_map_of_mem hq) (gpr_has.mpr z)
 ·intro h p hp z
  obtain ⟨q, hq, rfl⟩ := List.mem_map.mp hp
  exact h q hq (gpr_has.mp z)
theorem utokC_ok {d : Addr} {fi fo us : D} {k : Nat} (R : ARoom (k + 1) A) (H : Gram qs M start) (T : Told qs start TT NT PN) (hs : (d, C.dct (grF qs start TT NT PN fi fo us)) ∈ σ.ω)
  (p : P (rowD (TSs.filter (idle qs))) σ) : OpL (X3 w mg mb fr) A env σ (fun vs => call (.ref 200) vs) [.obj aGr d] P := by
 have hl : TT.length = 4 := by have := congrArg List.length T.n.tk; simpa [tsS] using this
 refine utok_ok (L := TT) R hs rfl (by exact le_c (Nat.le_of_eq hl) rfl) (fun e he => Nat.le_trans (T.n.tl e he) (by decide)) (fun e he => ?_) ?_
 ·have : e.1 ∈ tsS := by rw [← T.n.tk]; exact List.mem_map_of_mem he
  revert this
  generalize e.1 = s
  intro h
  simp only [tsS, List.mem_cons, List.not_mem_nil, or_false] at h
  rcases h with rfl | rfl | rfl | rfl <;> decide +kernel
 ·have un : ∀ e ∈ TT, freeT e = (!(e.1 == ("error" : Str)) && decide (∀ p ∈ qs.map gpr, e.1 ∉ p.2)) := fun e he => by
   have h1 := T.n.tc e he
   unfold freeT noUse
   congr 1
   by_cases h : ∀ p ∈ qs.map gpr, e.1 ∉ p.2
   ·rw [decide_eq_true h, h1.mpr h]; rfl
   ·rw [decide_eq_false h, List.isEmpty_eq_false_iff]; exact fun z => h (h1.mp z)
  have e1 : (TT.filter freeT).map strE = ((TT.map (·.1)).filter fun s => !(s == ("error" : Str)) && decide (∀ p ∈ qs.map gpr, s ∉ p.2)).map D.str := by
   rw [List.filter_congr un, List.filter_map, List.map_map]; rfl
  have e2 : ∀ c, decide (∀ p ∈ qs.map gpr, symS c ∉ p.2) = idle qs c := fun c => by
   cases h : idle qs c with
   | true => exact decide_eq_true (idle_gpr.mpr h)
   | false => exact decide_eq_false fun z => by rw [idle_gpr.mp z] at h; exact tef h
  rw [e1, T.n.tk]
  have e3 : (tsS.filter fun s => !(s == ("error" : Str)) && decide (∀ p ∈ qs.map gpr, s ∉ p.2)) = (TSs.filter (idle qs)).map symS := by
   have et : tsS = TSs.map symS ++ [("error" : Str)] := rfl
   have ea : ∀ c ∈ TSs, (!(symS c == ("error" : Str))) = true := by decide +kernel
   have ef : (["error"] : List Str).filter (fun s => !(s == ("error" : Str)) && decide (∀ p ∈ qs.map gpr, s ∉ p.2)) = [] := by rw [List.filter_cons]; rfl
   rw [et, List.filter_append, ef, List.append_nil, List.filter_map]
   congr 1
   refine List.filter_congr fun c hc => ?_
   show (!(symS c == ("error" : Str)) && decide (∀ p ∈ qs.map gpr, symS c ∉ p.2)) = _
   rw [ea c hc, e2]; rfl
  rw [e3, List.map_map]
  exact p
noncomputable def lhsOrd (qs : List CPr) : List Nat := qs.foldl (fun ks q => if q.1 ∈ ks then ks else ks ++ [q.1]) []
noncomputable def lone (qs : List CPr) (start c : Nat) : Bool := !decide (c = start) && idle qs c
noncomputable def loneS (qs : List CPr) (start : Nat) (s : Str) : Bool := !decide (s = symS start) && decide (∀ p ∈ qs.map gpr, s ∉ p.2)
theorem loneS_sym (c : Nat) : loneS qs start (symS c) = lone qs start c := by
 unfold loneS lone
 have h1 : decide (symS c = symS start) = decide (c = start) := decide_eq_decide.mpr ⟨symS_inj, fun h => h ▸ rfl⟩
 rw [h1]
 congr 1
 cases h : idle qs c with
 | true => exact decide_eq_true (idle_gpr.mpr h)
 | false => exact decide_eq_false fun z => by rw [idle_gpr.mp z] at h; exact tef h
theorem row_drop {ts : List Str} {f : Str → Bool} {l : List Str} : ∀ {ks : List Str}, (∀ x ∈ l, f x = false) → (l.foldl (insK ts) ks).filter f = ks.filter f := by
 induction l with
 | nil => intro _ _; exact rfl
 | cons x r ih =>
  intro ks h
  rw [List.foldl_cons, ih fun y hy => h y (.tail _ hy)]
  unfold insK
  split
  ·rfl
  ·rw [List.filter_append, List.filter_cons, h x (.head _)]; simp
theorem snoc_ind {α : Type} {motive : List α → Prop} (l : List α) (nil : motive []) (snoc : ∀ l x, motive l → motive (l ++ [x])) : motive l := by
 have h : ∀ r : List α, motive r.reverse := fun r => by
  induction r with
  | nil => exact nil
  | cons x r ih => rw [List.reverse_cons]; exact snoc _ _ ih
 have := h l.reverse
 rwa [List.reverse_reverse] at this
theorem lhsOrd_snoc (ps : List CPr) (q : CPr) : lhsOrd (ps ++ [q]) = if q.1 ∈ lhsOrd ps then lhsOrd ps else lhsOrd ps ++ [q.1] := by
 unfold lhsOrd; rw [List.foldl_append]; rfl
theorem ord_lone (H : Gram qs M start) : ∀ ps : List CPr, (∀ q ∈ ps, q ∈ qs) → (keysOf tsS (ps.map gpr)).filter (loneS qs start) = ((lhsOrd ps).filter (lone qs start)).map symS := by
 intro ps
 refine snoc_ind (motive := fun ps => (∀ q ∈ ps, q ∈ qs) → (keysOf tsS (ps.map gpr)).filter (loneS qs start) = ((lhsOrd ps).filter (lone qs start)).map symS) ps (fun _ => rfl) ?_
 ·intro ps q ih h
  have ih := ih fun x hx => h x (by simp [hx])
  have hq : q ∈ qs := h q (by simp)
  have e1 : keysOf tsS ((ps ++ [q]).map gpr) = (q.2.map symS).foldl (insK tsS) (insK tsS (keysOf tsS (ps.map gpr)) (symS q.1)) := by
   simp [keysOf, gpr]
  rw [e1, row_drop (fun x hx => ?_), lhsOrd_snoc]
  ·have hn : symS q.1 ∉ tsS := nts_not _ (H.lhs q hq)
   cases hl : lone qs start q.1 with
   | false =>
    have hl' : loneS qs start (symS q.1) = false := (loneS_sym _).trans hl
    have a1 : (insK tsS (keysOf tsS (ps.map gpr)) (symS q.1)).filter (loneS qs start) = (keysOf tsS (ps.map gpr)).filter (loneS qs start) := row_drop (l := [symS q.1]) fun x hx => by rw [List.mem_singleton.mp hx]; exact hl'
    rw [a1, ih]
    split
    ·rfl
    ·rw [List.filter_append, List.filter_cons, hl]; simp
   | true =>
    have hl' : loneS qs start (symS q.1) = true := (loneS_sym _).trans hl
    have hm : symS q.1 ∈ keysOf tsS (ps.map gpr) ↔ q.1 ∈ lhsOrd ps := by
     have h1 : symS q.1 ∈ (keysOf tsS (ps.map gpr)).filter (loneS qs start) ↔ symS q.1 ∈ keysOf tsS (ps.map gpr) := by rw [List.mem_filter, hl']; simp
     rw [← h1, ih]
     constructor
     ·intro z
      obtain ⟨c, hc, e⟩ := List.mem_map.mp z
      rw [← symS_inj e]; exact (List.mem_filter.mp hc).1
     ·exact fun z => List.mem_map_of_mem (List.mem_filter.mpr ⟨z, hl⟩)
    by_cases hk : q.1 ∈ lhsOrd ps
    ·rw [if_pos hk, insK_old (.inr (hm.mpr hk)), ih]
    ·rw [if_neg hk, insK_new hn fun z => hk (hm.mp z), List.filter_append, ih, List.filter_append, List.map_append]
     simp [hl, hl']
  ·obtain ⟨c, hc, rfl⟩ := List.mem_map.mp hx
   rw [loneS_sym]
   unfold lone
   cases hi : idle qs c with
   | false => simp
   | true => exact absurd hc (idle_iff.mp hi q hq)
noncomputable def rowOf (qs : List CPr) (c : Nat) : CPr := (qs.find? fun q => q.1 == c).getD (c, [])
theorem head_at {c : Nat} (qs : List CPr) : ∀ (k : Nat), (∃ q ∈ qs, q.1 = c) → ∃ i r, (((qs.map gpr).zipIdx k).filter fun q => q.1.1 == symS c) = (gpr (rowOf qs c), i) :: r := by
 induction qs with
 | nil => intro _ h; obtain ⟨q, hq, _⟩ := h; cases hq
 | cons q r ih =>
  intro k h
  rw [List.map_cons, List.zipIdx_cons, List.filter_cons]
  by_cases hc : q.1 = c
  ·have e1 : ((gpr q, k).1.1 == symS c) = true := by subst hc; simp [gpr]
   rw [if_pos e1]
   refine ⟨k, ((r.map gpr).zipIdx (k + 1)).filter fun q => q.1.1 == symS c, ?_⟩
   have : rowOf (q :: r) c = q := by unfold rowOf; rw [List.find?_cons_of_pos (by simpa using hc)]; rfl
   rw [this]
  ·have e1 : ((gpr q, k).1.1 == symS c) = false := beq_eq_false_iff_ne.mpr fun z => hc (symS_inj z)
   rw [e1, if_neg (by simp)]
   have e2 : rowOf (q :: r) c = rowOf r c := by unfold rowOf; rw [List.find?_cons_of_neg (by simpa using hc)]
   rw [e2]
   refine ih (k + 1) ?_
   obtain ⟨x, hx, h⟩ := h
   rcases List.mem_cons.mp hx with rfl | hx
   ·exact absurd h hc
   ·exact ⟨x, hx, h⟩
noncomputable def hdD (qs : List CPr) (c : Nat) : D := ((qsAt qs (symS c)).map (prodD aProd)).headD .none
theorem hdD_eq {c : Nat} (h : ∃ q ∈ qs, q.1 = c) : ∃ i, hdD qs c = prodD aProd (gpr (rowOf qs c), i) := by
 obtain ⟨i, r, e⟩ := head_at qs 1 h
 exact ⟨i, by unfold hdD qsAt; rw [e]; rfl⟩
theorem uruleC_ok {d : Addr} {fi fo us : D} {k : Nat} (R : ARoom (k + 1) A) (H : Gram qs M start) (T : Told qs start TT NT PN) (hs : (d, C.dct (grF qs start TT NT PN fi fo us)) ∈ σ.ω)
  (p : P (.list (((lhsOrd qs).filter (lone qs start)).map (hdD qs))) σ) : OpL (X3 w mg mb fr) A env σ (fun vs => call (.ref 207) vs) [.obj aGr d] P := by
 have hk : (appE (symS start) (.int 0) NT).map (·.1) = NT.map (·.1) := appE_keys _ _ _
 have hlen : ∀ e ∈ appE (symS start) (.int 0) NT, e.2.2.length ≤ 201 := appE_len T.n.nl
 refine urule_ok (L := appE (symS start) (.int 0) NT) (hd := fun s => ((qsAt qs s).map (prodD aProd)).headD .none) R hs rfl rfl ?_ (fun e he => Nat.le_trans (hlen e he) (by decide)) (fun e he => ?_) ?_
 ·have h1 := congrArg List.length hk
  have h2 := T.nl H
  simp only [List.length_map] at h1 h2
  exact le_c (Nat.le_trans (Nat.le_of_eq h1) h2) rfl
 ·have hm : e.1 ∈ NT.map (·.1) := by rw [← hk]; exact List.mem_map_of_mem he
  obtain ⟨c, hc, e1⟩ := (T.ns H _).mp hm
  have h1 := pn_get T e.1
  obtain ⟨i, r, e2⟩ := head_at qs 1 (H.has c hc)
  have e3 : qsAt qs e.1 = (gpr (rowOf qs c), i) :: r := by rw [e1]; exact e2
  rw [e3] at h1 ⊢
  refine ⟨r.map (prodD aProd), ?_, ?_⟩
  ·cases h2 : (PN.map fE).lookup e.1 with
   | none => rw [h2] at h1; cases h1
   | some x => rw [h2] at h1; rw [show x = _ from h1]; rfl
  ·have h3 : (qsAt qs e.1).length ≤ qs.length := by
    unfold qsAt
    refine Nat.le_trans (List.length_filter_le ..) ?_
    simp
   rw [e3] at h3
   have := H.few
   simp at h3 ⊢; lia
 ·have un : ∀ e ∈ appE (symS start) (.int 0) NT, noUse e = loneS qs start e.1 := fun e he => by
   have h1 := appE_empty (t := symS start) (x := .int 0) (R := fun k => ∀ p ∈ qs.map gpr, k ∉ p.2) T.n.nn T.n.nc e he
   unfold noUse loneS
   by_cases h : e.2.2 = []
   ·have := h1.mp h
    rw [h, decide_eq_true this.1, decide_eq_false this.2]; rfl
   ·rw [List.isEmpty_eq_false_iff.mpr h]
    by_cases h2 : e.1 = symS start
    ·rw [decide_eq_true h2]; rfl
    ·rw [decide_eq_false h2, decide_eq_false fun z => h (h1.mpr ⟨z, h2⟩)]; rfl
  have e1 : ((appE (symS start) (.int 0) NT).filter noUse).map (fun e => ((qsAt qs e.1).map (prodD aProd)).headD .none) = (((appE (symS start) (.int 0) NT).map (·.1)).filter (loneS qs start)).map fun s => ((qsAt qs s).map (prodD aProd)).headD .none := by
   rw [List.filter_congr un, List.filter_map, List.map_map]; rfl
  rw [e1, hk, T.n.ord, ord_lone H qs fun _ h => h, List.map_map]
  exact p
end
section
variable {w : World} {mg mb : Str → Option Value} {fr : List Env} {A : Around} {env : Env} {σ : Sg} {P : D → Sg → Prop} {Q : Fl → Sg → Prop}
variable {qs : List CPr} {M : List Nat} {start : Nat} {TT NT PN : List NE}
inductive Vn (qs : List CPr) : Nat → Prop
 | mk {q : CPr} (hq : q ∈ qs) (h : ∀ y ∈ q.2, Vn qs y) : Vn qs q.1
inductive Bg (qs : List CPr) : Nat → Nat → Prop
 | term {q : CPr} {a b : List Nat} {x : Nat} (hq : q ∈ qs) (e : q.2 = a ++ x :: b) (hv : ∀ y ∈ a, Vn qs y) (hx : x ∈ TSs) : Bg qs q.1 x
 | step {q : CPr} {a b : List Nat} {x t : Nat} (hq : q ∈ qs) (e : q.2 = a ++ x :: b) (hv : ∀ y ∈ a, Vn qs y) (h : Bg qs x t) : Bg qs q.1 t
noncomputable def StT (qs : List CPr) (b : List Nat) (t : Nat) : Prop := ∃ a x c, b = a ++ x :: c ∧ (∀ y ∈ a, Vn qs y) ∧ ((x = t ∧ t ∈ TSs) ∨ Bg qs x t)
inductive Fol (qs : List CPr) (start : Nat) : Nat → Str → Prop
 | start : Fol qs start start "$end"
 | next {q : CPr} {a b : List Nat} {B t : Nat} (hq : q ∈ qs) (e : q.2 = a ++ B :: b) (hB : B ∈ NTs) (h : StT qs b t) : Fol qs start B (symS t)
 | last {q : CPr} {a b : List Nat} {B : Nat} {f : Str} (hq : q ∈ qs) (e : q.2 = a ++ B :: b) (hB : B ∈ NTs) (hv : ∀ y ∈ b, Vn qs y) (h : Fol qs start q.1 f) : Fol qs start B f
theorem Vn.lhs {c : Nat} (h : Vn qs c) : ∃ q ∈ qs, q.1 = c := by cases h with | mk hq _ => exact ⟨_, hq, rfl⟩
theorem Bg.lhs {c t : Nat} (h : Bg qs c t) : ∃ q ∈ qs, q.1 = c := by cases h with | term hq => exact ⟨_, hq, rfl⟩ | step hq => exact ⟨_, hq, rfl⟩
theorem Bg.ts {c t : Nat} (h : Bg qs c t) : t ∈ TSs := by induction h with | term _ _ _ hx => exact hx | step _ _ _ _ ih => exact ih
noncomputable def FsC (qs : List CPr) (c : Nat) (f : Str) : Prop := (f = epsS ∧ Vn qs c) ∨ ∃ t, f = symS t ∧ Bg qs c t
theorem eps_sym (c : Nat) : symS c ≠ epsS := fun z => absurd (show (1 : Nat) = 9 - 2 from by have := congrArg Str.length z; exact this) (by decide)
theorem opens_iff {lk : Str → List Str} {x : Str} {l : List Nat} : Opens lk x (l.map symS) ↔ ∃ a y b, l = a ++ y :: b ∧ (∀ z ∈ a, epsS ∈ lk (symS z)) ∧ x ∈ lk (symS y) := by
 induction l with
 | nil => exact ⟨fun h => h.elim, fun ⟨a, y, b, e, _⟩ => by cases a <;> cases e⟩
 | cons c r ih =>
  show (x ∈ lk (symS c) ∨ (epsS ∈ lk (symS c) ∧ Opens lk x (r.map symS))) ↔ _
  rw [ih]
  constructor
  ·rintro (h | ⟨h, a, y, b, rfl, ha, hy⟩)
   ·exact ⟨[], c, r, rfl, by simp, h⟩
   ·refine ⟨c :: a, y, b, rfl, fun z hz => ?_, hy⟩
    rcases List.mem_cons.mp hz with rfl | hz
    ·exact h
    ·exact ha z hz
  ·rintro ⟨a, y, b, e, ha, hy⟩
   cases a with
   | nil => cases e; exact .inl hy
   | cons z a => cases e; exact .inr ⟨ha _ (.head _), a, y, b, rfl, fun z hz => ha z (.tail _ hz), hy⟩
structure LkOk (qs : List CPr) (M : List Nat) (lk : Str → List Str) : Prop where
 nt : ∀ c ∈ M, ∀ f, f ∈ lk (symS c) ↔ FsC qs c f
 ts : ∀ c ∈ TSs, lk (symS c) = [symS c]
theorem LkOk.eps {lk : Str → List Str} (L : LkOk qs M lk) (H : Gram qs M start) {c : Nat} (hc : c ∈ M ∨ c ∈ TSs) : epsS ∈ lk (symS c) ↔ Vn qs c := by
 rcases hc with h | h
 ·rw [L.nt c h]
  constructor
  ·rintro (⟨_, h⟩ | ⟨t, e, _⟩)
   ·exact h
   ·exact absurd e.symm (eps_sym t)
  ·exact fun h => .inl ⟨rfl, h⟩
 ·rw [L.ts c h]
  constructor
  ·intro z; exact absurd (List.mem_singleton.mp z).symm (eps_sym c)
  ·intro z
   obtain ⟨q, hq, e⟩ := z.lhs
   exact absurd (e ▸ H.lhs q hq) fun z => nts_tss c z h
theorem LkOk.row {lk : Str → List Str} (L : LkOk qs M lk) (H : Gram qs M start) {l : List Nat} (hl : ∀ c ∈ l, c ∈ M ∨ c ∈ TSs) (f : Str) : f ∈ firstF lk (l.map symS) ↔ (f = epsS ∧ ∀ y ∈ l, Vn qs y) ∨ ∃ t, f = symS t ∧ StT qs l t := by
 have hx : ∀ c, c ∈ M ∨ c ∈ TSs → f ≠ epsS → (f ∈ lk (symS c) ↔ ∃ t, f = symS t ∧ ((c = t ∧ t ∈ TSs) ∨ Bg qs c t)) := fun c hc hf => by
  rcases hc with h | h
  ·rw [L.nt c h]
   constructor
   ·rintro (⟨e, _⟩ | ⟨t, e, h2⟩)
    ·exact absurd e hf
    ·exact ⟨t, e, .inr h2⟩
   ·rintro ⟨t, e, ⟨rfl, ht⟩ | h2⟩
    ·exact absurd ht (nts_tss _ (H.sub _ h))
    ·exact .inr ⟨t, e, h2⟩
  ·rw [L.ts c h, List.mem_singleton]
   constructor
   ·exact fun e => ⟨c, e, .inl ⟨rfl, h⟩⟩
   ·rintro ⟨t, e, ⟨rfl, _⟩ | h2⟩
    ·exact e
    ·obtain ⟨q, hq, e2⟩ := h2.lhs
     exact absurd h (nts_tss c (e2 ▸ H.lhs q hq))
 rw [mem_firstF, opens_iff]
 constructor
 ·rintro (⟨hf, a, y, b, rfl, ha, hy⟩ | ⟨e, h⟩)
  ·obtain ⟨t, e, h⟩ := (hx y (hl y (by simp)) hf).mp hy
   exact .inr ⟨t, e, a, y, b, rfl, fun z hz => (L.eps H (hl z (by simp [hz]))).mp (ha z hz), h⟩
  ·exact .inl ⟨e, fun y hy => (L.eps H (hl y hy)).mp (h _ (List.mem_map_of_mem hy))⟩
 ·rintro (⟨e, h⟩ | ⟨t, rfl, a, y, b, rfl, ha, h⟩)
  ·refine .inr ⟨e, fun s hs => ?_⟩
   obtain ⟨y, hy, rfl⟩ := List.mem_map.mp hs
   exact (L.eps H (hl y hy)).mpr (h y hy)
  ·exact .inl ⟨eps_sym t, a, y, b, rfl, fun z hz => (L.eps H (hl z (by simp [hz]))).mpr (ha z hz), (hx y (hl y (by simp)) (eps_sym t)).mpr ⟨t, rfl, h⟩⟩
structure FstOk (qs : List CPr) (M : List Nat) (NT : List NE) (FN : List FE) : Prop where
 keys : FN.map (·.1) = NT.map (·.1)
 nd : ∀ e ∈ FN, e.2.2.Nodup
 lk : LkOk qs M (lkF FN)
noncomputable def fstU : List Str := ["<empty>", "a", "b", "c"]
theorem tss_fst : ∀ c ∈ TSs, symS c ∈ fstU := by decide +kernel
theorem firstC_ok {d fi fo : Addr} {us : D} {k : Nat} {ρ : List (Str × D)} {ω : Om} (R : ARoom (k + 2) A) (H : Gram qs M start) (T : Told qs start TT NT PN)
  (p : ∀ FN, FstOk qs M NT FN → P (.raw (.ref fi)) ⟨ρ, (d, .dct (grF qs start TT NT PN (.raw (.ref fi)) (.raw (.ref fo)) us)) :: (fi, .dct (FD tsS FN)) :: (fo, .dct []) :: (FN.map cF ++ ω)⟩) :
  OpL (X3 w mg mb fr) A env ⟨ρ, (d, .dct (grF qs start TT NT PN (.raw (.ref fi)) (.raw (.ref fo)) us)) :: (fi, .dct []) :: (fo, .dct []) :: ω⟩ (fun vs => call (.ref 228) vs) [.obj aGr d] P := by
 have G := T.gr H .none .none us
 have hts : ∀ {FN : List FE}, FN.map (·.1) = NT.map (·.1) → ∀ c ∈ TSs, lkF FN (symS c) = [symS c] := fun hk c hc => lkF_none (by
  rw [hk, T.ns H]; rintro ⟨b, hb, e⟩; exact nts_tss b (H.sub b hb) (symS_inj e ▸ hc))
 have hpn : ∀ n ∈ NT.map (·.1), (PN.map fE).lookup n = some (.list ((qsAt qs n).map (prodD aProd))) := fun n hn => by
  have h1 := pn_get T n
  obtain ⟨e, he, rfl⟩ := List.mem_map.mp (G.ln n hn)
  obtain ⟨k, a, l⟩ := e
  rw [lookup_fE T.p.pn he] at h1 ⊢
  rw [show D.list l = _ from h1]
 refine cfirst_ok (ts := tsS) (ns := NT.map (·.1)) (qsOf := qsAt qs) (Snd := fun n f => ∃ c ∈ M, n = symS c ∧ FsC qs c f) (U := fstU) R G.tk G.nk G.tn G.nd G.nn G.dis hpn (fun n hn q hq => ⟨?_, G.row n hn q hq⟩)
  (fun n f h => ?_) (by decide) (by decide +kernel) (by decide +kernel) (fun FN GF n hn q hq f hf => ?_) (by decide) (Nat.le_trans G.nl (by decide)) fun FN GF hC => p FN ⟨GF.keys, GF.nd, ?_, hts GF.keys⟩
 ·obtain ⟨c, hc, e, _⟩ := qsAt_mem hq
  rw [e]; have := H.len c hc; simp [gpr]; exact le_c this rfl
 ·obtain ⟨c, hc, rfl, ⟨rfl, _⟩ | ⟨t, rfl, h2⟩⟩ := h
  ·exact .head _
  ·exact tss_fst t h2.ts
 ·obtain ⟨c, hc, e, rfl⟩ := qsAt_mem hq
  rw [e] at hf
  have heps : ∀ y ∈ c.2, epsS ∈ lkF FN (symS y) → Vn qs y := fun y hy h => by
   rcases H.rhM c hc y hy with hm | hm
   ·obtain ⟨b, hb, e2, ⟨_, h2⟩ | ⟨t, e3, _⟩⟩ := GF.snd ((T.ns H _).mpr ⟨y, hm, rfl⟩) h
    ·exact symS_inj e2 ▸ h2
    ·exact absurd e3.symm (eps_sym t)
   ·rw [hts GF.keys y hm] at h; exact absurd (List.mem_singleton.mp h).symm (eps_sym y)
  refine ⟨c.1, H.lhM c hc, rfl, ?_⟩
  rcases mem_firstF.mp hf with ⟨hne, h⟩ | ⟨rfl, h⟩
  ·obtain ⟨a, y, b, e2, ha, hy⟩ := opens_iff.mp h
   have hya : y ∈ c.2 := by rw [e2]; simp
   have hva : ∀ z ∈ a, Vn qs z := fun z hz => heps z (by rw [e2]; simp [hz]) (ha z hz)
   rcases H.rhM c hc y hya with hm | hm
   ·obtain ⟨b', hb, e3, ⟨h2, _⟩ | ⟨t, rfl, h2⟩⟩ := GF.snd ((T.ns H _).mpr ⟨y, hm, rfl⟩) hy
    ·exact absurd h2 hne
    ·cases symS_inj e3; exact .inr ⟨t, rfl, .step hc e2 hva h2⟩
   ·rw [hts GF.keys y hm] at hy
    rw [List.mem_singleton.mp hy]
    exact .inr ⟨y, rfl, .term hc e2 hva hm⟩
  ·exact .inl ⟨rfl, .mk hc fun y hy => heps y hy (h _ (List.mem_map_of_mem hy))⟩
 ·-- all that is asked is told
  have cl : ∀ q ∈ qs, ∀ f ∈ firstF (lkF FN) (q.2.map symS), f ∈ lkF FN (symS q.1) := fun q hq f hf => by
   obtain ⟨p, hp, e⟩ := qsAt_of hq
   exact hC _ ((T.ns H _).mpr ⟨q.1, H.lhM q hq, rfl⟩) p hp f (by rw [e]; exact hf)
  have hV : ∀ c, Vn qs c → epsS ∈ lkF FN (symS c) := fun c h => by
   induction h with
   | mk hq _ ih => exact cl _ hq _ (mem_firstF.mpr (.inr ⟨rfl, fun s hs => by obtain ⟨y, hy, rfl⟩ := List.mem_map.mp hs; exact ih y hy⟩))
  have hB : ∀ c t, Bg qs c t → symS t ∈ lkF FN (symS c) := fun c t h => by
   induction h with
   | term hq e hv hx => exact cl _ hq _ (mem_firstF.mpr (.inl ⟨eps_sym _, opens_iff.mpr ⟨_, _, _, e, fun z hz => hV z (hv z hz), by rw [hts GF.keys _ hx]; exact .head _⟩⟩))
   | step hq e hv _ ih => exact cl _ hq _ (mem_firstF.mpr (.inl ⟨eps_sym _, opens_iff.mpr ⟨_, _, _, e, fun z hz => hV z (hv z hz), ih⟩⟩))
  intro c hc f
  constructor
  ·intro h
   obtain ⟨b, hb, e, h2⟩ := GF.snd ((T.ns H _).mpr ⟨c, hc, rfl⟩) h
   exact symS_inj e ▸ h2
  ·rintro (⟨rfl, h⟩ | ⟨t, rfl, h⟩)
   ·exact hV c h
   ·exact hB c t h
end
section
variable {w : World} {mg mb : Str → Option Value} {fr : List Env} {A : Around} {env : Env} {σ : Sg} {P : D → Sg → Prop} {Q : Fl → Sg → Prop}
variable {qs : List CPr} {M : List Nat} {start : Nat} {TT NT PN : List NE}
theorem map_split {l : List Nat} {a b : List Str} {B : Str} (h : l.map symS = a ++ B :: b) : ∃ a' B' b', l = a' ++ B' :: b' ∧ a = a'.map symS ∧ B = symS B' ∧ b = b'.map symS := by
 obtain ⟨a', r, rfl, rfl, h2⟩ := List.map_eq_append_iff.mp h
 obtain ⟨B', b', rfl, rfl, rfl⟩ := List.map_eq_cons_iff.mp h2
 exact ⟨a', B', b', rfl, rfl, rfl, rfl⟩
theorem fF_at {k : Str} {L : List FE} : k ∈ L.map (·.1) → (L.map fF).lookup k = some (.list ((lkF L k).map .str)) := by
 induction L with
 | nil => intro h; cases h
 | cons e r ih =>
  intro h
  simp only [List.map_cons, fF, List.lookup_cons, lkF]
  by_cases hk : k = e.1
  ·have : (k == e.1) = true := by simpa using hk
   rw [this]; rfl
  ·have h2 : (k == e.1) = false := ne_beq hk
   simp only [List.map_cons, List.mem_cons, hk, false_or] at h
   rw [h2]; simpa using ih h
theorem fdf_at {FN : List FE} (F : FstOk qs M NT FN) (T : Told qs start TT NT PN) (H : Gram qs M start) {c : Nat} (hc : c ∈ M ∨ c ∈ TSs) : (FDf tsS FN).lookup (symS c) = some (.list ((lkF FN (symS c)).map .str)) := by
 unfold FDf
 rcases hc with h | h
 ·have h1 : symS c ∉ tsS ++ [("$end" : Str)] := by
   rw [List.mem_append, List.mem_singleton]
   exact fun z => z.elim (nts_not c (H.sub c h)) (nts_end c (H.sub c h))
  rw [lookup_app_none (by rw [tD_keys]; exact h1)]
  exact fF_at (by rw [F.keys]; exact (T.ns H _).mpr ⟨c, h, rfl⟩)
 ·rw [F.lk.ts c h]
  exact tD_lookup (List.mem_append_left _ (tss_is c h))
theorem fst_in {FN : List FE} (F : FstOk qs M NT FN) (T : Told qs start TT NT PN) (H : Gram qs M start) {c : Nat} (hc : c ∈ M ∨ c ∈ TSs) : (lkF FN (symS c)).length ≤ 4 ∧ ∀ f ∈ lkF FN (symS c), f ∈ fstU := by
 have hin : ∀ f ∈ lkF FN (symS c), f ∈ fstU := fun f hf => by
  rcases hc with h | h
  ·rcases (F.lk.nt c h f).mp hf with ⟨rfl, _⟩ | ⟨t, rfl, h2⟩
   ·exact .head _
   ·exact tss_fst t h2.ts
  ·rw [F.lk.ts c h] at hf
   rw [List.mem_singleton.mp hf]; exact tss_fst c h
 refine ⟨?_, hin⟩
 refine Nat.le_trans (nodup_len ?_ hin) (by decide)
 rcases hc with h | h
 ·obtain ⟨a, ha⟩ := lkF_mem (L := FN) (k := symS c) (by rw [F.keys]; exact (T.ns H _).mpr ⟨c, h, rfl⟩)
  exact F.nd _ ha
 ·rw [F.lk.ts c h]; simp
noncomputable def folU : List Str := ["$end", "a", "b", "c"]
theorem tss_fol : ∀ c ∈ TSs, symS c ∈ folU := by decide +kernel
theorem StT.ts {b : List Nat} {t : Nat} (h : StT qs b t) : t ∈ TSs := by
 obtain ⟨a, x, c, _, _, ⟨_, h⟩ | h⟩ := h
 ·exact h
 ·exact h.ts
theorem Fol.inU {c : Nat} {f : Str} (h : Fol qs start c f) : f ∈ folU := by
 induction h with
 | start => exact .head _
 | next _ _ _ h => exact tss_fol _ h.ts
 | last _ _ _ _ _ ih => exact ih
structure FolOk (qs : List CPr) (M : List Nat) (start : Nat) (NT : List NE) (FO : List FE) : Prop where
 keys : FO.map (·.1) = NT.map (·.1)
 nd : ∀ e ∈ FO, e.2.2.Nodup
 mem : ∀ c ∈ M, ∀ f, f ∈ lkF FO (symS c) ↔ Fol qs start c f
set_option maxHeartbeats 1000000
theorem followC_ok {d fo : Addr} {us : D} {FN : List FE} {k : Nat} {ρ : List (Str × D)} {ω : Om} (R : ARoom (k + 2) A) (H : Gram qs M start) (T : Told qs start TT NT PN) (F : FstOk qs M NT FN)
  (p : ∀ FO, FolOk qs M start NT FO → P (.raw (.ref fo)) ⟨ρ, (d, .dct (grF qs start TT NT PN (.dct (FDf tsS FN)) (.raw (.ref fo)) us)) :: (fo, .dct (FO.map dF)) :: (FO.map cF ++ ω)⟩) :
  OpL (X3 w mg mb fr) A env ⟨ρ, (d, .dct (grF qs start TT NT PN (.dct (FDf tsS FN)) (.raw (.ref fo)) us)) :: (fo, .dct []) :: ω⟩ (fun vs => call (.ref 236) vs) [.obj aGr d, sD start] P := by
 have G := T.gr H .none .none us
 have hFl : FN.length ≤ 4 := by have h1 := congrArg List.length F.keys; have h2 := T.nl H; simp only [List.length_map] at h1 h2; exact le_c (Nat.le_trans (Nat.le_of_eq h1) h2) rfl
 have hzip : ∀ q ∈ (qs.map gpr).zipIdx 1, ∃ c ∈ qs, q.1 = gpr c := fun q hq => by
  obtain ⟨c, hc, e⟩ := List.mem_map.mp (zip_mem (x := q.1) (i := q.2) hq)
  exact ⟨c, hc, e.symm⟩
 have hrow : ∀ {q : GPr × Nat} {a b : List Str} {B : Str}, q ∈ (qs.map gpr).zipIdx 1 → q.1.2 = a ++ B :: b → B ∈ NT.map (·.1) → ∃ c ∈ qs, q.1 = gpr c ∧ ∃ a' B' b', c.2 = a' ++ B' :: b' ∧ B = symS B' ∧ B' ∈ M ∧ b = b'.map symS := fun hq e hB => by
  obtain ⟨c, hc, e2⟩ := hzip _ hq
  rw [e2] at e
  obtain ⟨a', B', b', h1, _, rfl, h2⟩ := map_split e
  obtain ⟨x, hx, e3⟩ := (T.ns H _).mp hB
  exact ⟨c, hc, e2, a', B', b', h1, rfl, symS_inj e3 ▸ hx, h2⟩
 refine cfollow_ok (p0 := p0D (symS start)) (qs := (qs.map gpr).zipIdx 1) (no := (appE (symS start) (.int 0) NT).map fE) (ns := NT.map (·.1)) (lk := lkF FN) (fd := FDf tsS FN) (start := symS start) (Sn := fun n f => ∃ c ∈ M, n = symS c ∧ Fol qs start c f) (U := folU)
  R G.nk G.nn ((T.ns H _).mpr ⟨start, H.stM, rfl⟩) (by rw [sym_len]; decide) (by rw [sym_len]; decide) rfl (by simp [FDf, tsS]; exact le_c hFl rfl) (fun q hq => ?_) (fun n f h => ?_) (by decide) (by decide +kernel) ⟨start, H.stM, rfl, .start⟩ (fun q hq a B b e hB f hf hne => ?_) (fun q hq a B b e hB hf f h => ?_)
  (Nat.le_trans G.nl (by decide)) (by have := H.few; simp; exact le_c this rfl) fun FO GO hend hC => p FO ⟨GO.keys, GO.nd, ?_⟩
 ·obtain ⟨c, hc, e⟩ := hzip q hq
  rw [e]
  refine ⟨by have := H.len c hc; simp [gpr]; exact le_c this rfl, (T.ns H _).mpr ⟨c.1, H.lhM c hc, rfl⟩, fun s hs => ?_⟩
  obtain ⟨x, hx, rfl⟩ := List.mem_map.mp hs
  have hx' := H.rhM c hc x hx
  obtain ⟨h1, h2⟩ := fst_in F T H hx'
  have hU : ∀ f ∈ fstU, PyData.strOk f = true := by decide +kernel
  exact ⟨sym_okd x (hx'.elim (fun z => nts_sym x (H.sub x z)) (tss_sym x)), fdf_at F T H hx', by exact le_c h1 rfl, fun f hf => hU f (h2 f hf)⟩
 ·obtain ⟨c, hc, rfl, h⟩ := h
  exact h.inU
 ·obtain ⟨c, hc, e2, a', B', b', h1, rfl, hB', rfl⟩ := hrow hq e hB
  refine ⟨B', hB', rfl, ?_⟩
  rcases (F.lk.row H (fun x hx => H.rhM c hc x (by rw [h1]; simp [hx])) f).mp hf with ⟨h2, _⟩ | ⟨t, rfl, h2⟩
  ·exact absurd h2 hne
  ·exact .next hc h1 (H.sub _ hB') h2
 ·obtain ⟨c, hc, e2, a', B', b', h1, rfl, hB', rfl⟩ := hrow hq e hB
  obtain ⟨x, hx, e3, h⟩ := h
  rw [e2] at e3
  cases symS_inj e3
  refine ⟨B', hB', rfl, .last hc h1 (H.sub _ hB') ?_ h⟩
  rcases (F.lk.row H (fun x hx => H.rhM c hc x (by rw [h1]; simp [hx])) _).mp hf with ⟨_, h2⟩ | ⟨t, h2, _⟩
  ·exact h2
  ·exact absurd h2.symm (eps_sym t)
 ·intro c hc f
  constructor
  ·intro h
   obtain ⟨b, hb, e, h2⟩ := GO.snd ((T.ns H _).mpr ⟨c, hc, rfl⟩) h
   exact symS_inj e ▸ h2
  ·intro h
   clear hc
   have hin : ∀ {q : CPr} {a b : List Nat} {B : Nat}, q ∈ qs → q.2 = a ++ B :: b → B ∈ NTs → (∀ f ∈ firstF (lkF FN) (b.map symS), f ≠ epsS → f ∈ lkF FO (symS B)) ∧ (epsS ∈ firstF (lkF FN) (b.map symS) → ∀ f ∈ lkF FO (symS q.1), f ∈ lkF FO (symS B)) ∧ ∀ x ∈ b, x ∈ M ∨ x ∈ TSs := fun {q a b B} hq e hB => by
    obtain ⟨i, hi⟩ := zip_has (List.mem_map_of_mem (f := gpr) hq)
    have hBM : B ∈ M := (H.rhM _ hq _ (by rw [e]; simp)).resolve_right (nts_tss _ hB)
    have h1 := hC (gpr q, i) hi (a.map symS) (symS B) (b.map symS) (by simp [gpr, e]) ((T.ns H _).mpr ⟨B, hBM, rfl⟩)
    exact ⟨h1.1, h1.2, fun x hx => H.rhM _ hq x (by rw [e]; simp [hx])⟩
   induction h with
   | start => exact hend
   | next hq e hB h =>
    obtain ⟨h1, _, h3⟩ := hin hq e hB
    exact h1 _ ((F.lk.row H h3 _).mpr (.inr ⟨_, rfl, h⟩)) (eps_sym _)
   | last hq e hB hv _ ih =>
    obtain ⟨_, h2, h3⟩ := hin hq e hB
    exact h2 ((F.lk.row H h3 _).mpr (.inl ⟨rfl, hv⟩)) _ ih
end
section
variable {X : Cx} {A : Around} {env : Env} {σ : Sg} {P : D → Sg → Prop} {Q : Fl → Sg → Prop} {E : Value → Shared → Prop} {s : Shared}
noncomputable def RowAt (h : Heap) (v : Value) (a : Str) : Prop := ∃ x t u n, v = .ref x ∧ h.get? x = some (seqObj "tuple" #[.str a t, u] n)
noncomputable abbrev ltS (a b : Str) : Bool := decide (a.cps.toList < b.cps.toList)
theorem lt_rows {x y : Value} {a b : Str} {QQ : Bool → Shared → Prop} (hx : RowAt s.heap x a) (hy : RowAt s.heap y b) (hab : a ≠ b) (h : QQ (ltS a b) s) : wpAny X.M A (keyLt' (tuples' true) x y) QQ E s := by
 obtain ⟨x, t, u, n, rfl, gx⟩ := hx
 obtain ⟨y, t', u', n', rfl, gy⟩ := hy
 refine kat_lt gx rfl gy rfl (kat_cons ((strKind X.prog X.w).eqBool (a := a) (b := b) (strKind_is _ _ _ _) (strKind_is _ _ _ _) ?_))
 rw [decide_eq_false hab]
 exact kat_no (oneLt_str h)
noncomputable def rowsLt : List Str → Option (List Nat)
 | [] => some []
 | [_] => some [0]
 | [a, b] => if a = b then none else some (if ltS b a = true then [1, 0] else [0, 1])
 | [a, b, c] => if ltS b a && ltS c b then some [2, 1, 0] else if ltS a c && ltS c b then some [0, 2, 1] else none
 | _ => none
inductive RowsAt (h : Heap) : List Value → List Str → Prop
 | nil : RowsAt h [] []
 | cons {v a vs as} : RowAt h v a → RowsAt h vs as → RowsAt h (v :: vs) (a :: as)
theorem RowsAt.length {h : Heap} {vs : List Value} {as : List Str} (q : RowsAt h vs as) : vs.length = as.length := by
 induction q with
 | nil => rfl
 | cons _ _ ih => exact congrArg Nat.succ ih
theorem RowsAt.keep {h h' : Heap} (k : ∀ a ws n, h.get? a = some (seqObj "tuple" ws n) → h'.get? a = some (seqObj "tuple" ws n)) {vs : List Value} {as : List Str} (q : RowsAt h vs as) : RowsAt h' vs as := by
 induction q with
 | nil => exact .nil
 | cons r _ ih => obtain ⟨x, t, u, n, e, g⟩ := r; exact .cons ⟨x, t, u, n, e, k _ _ _ g⟩ ih
theorem kat_rows {h : Heap} {vs : List Value} {as : List Str} (q : RowsAt h vs as) : ∃ fs, KatTups h vs fs ∧ StrsAre fs as := by
 induction q with
 | nil => exact ⟨[], .nil, .nil⟩
 | cons r _ ih =>
  obtain ⟨x, t, u, n, rfl, g⟩ := r
  obtain ⟨fs, h1, h2⟩ := ih
  exact ⟨_, .cons g rfl rfl rfl h1, .cons _ t h2⟩
theorem strs_looks {M : Model} {h : Heap} {fs : List Value} {as : List Str} (q : StrsAre fs as) : ∀ v ∈ fs, Looks M h (typeOf v) (.type "str") := by
 induction q with
 | nil => exact fun v hv => nomatch hv
 | cons x t _ ih =>
  intro v hv
  rcases List.mem_cons.mp hv with rfl | hv
  ·exact Looks.now
  ·exact ih v hv
theorem strs_len {fs : List Value} {as : List Str} (q : StrsAre fs as) : fs.length = as.length := by
 induction q with
 | nil => rfl
 | cons _ _ _ ih => exact congrArg Nat.succ ih
noncomputable def pickV {α : Type} (vs : List α) (js : List Nat) : List α := js.filterMap (vs[·]?)
theorem rowsLt_len {as : List Str} {js : List Nat} (hj : rowsLt as = some js) : as.length ≤ 3 := by
 cases as with
 | nil => exact Nat.zero_le _
 | cons a as =>
 cases as with
 | nil => exact Nat.le_of_ble_eq_true rfl
 | cons b as =>
 cases as with
 | nil => exact Nat.le_of_ble_eq_true rfl
 | cons c as =>
 cases as with
 | nil => exact Nat.le_refl _
 | cons d as => exact nso hj
theorem rowsLt_js {as : List Str} {js : List Nat} (hj : rowsLt as = some js) : js.length ≤ 3 := by
 cases as with
 | nil => obtain rfl := Option.some.inj hj; exact Nat.zero_le _
 | cons a as =>
 cases as with
 | nil => obtain rfl := Option.some.inj hj; exact Nat.le_of_ble_eq_true rfl
 | cons b as =>
 cases as with
 | nil =>
  change (if a = b then none else some (if ltS b a = true then [1, 0] else [0, 1])) = some js at hj
  by_cases e : a = b
  ·rw [if_pos e] at hj; exact nso hj
  ·rw [if_neg e] at hj
   obtain rfl := Option.some.inj hj
   cases ltS b a <;> exact Nat.le_of_ble_eq_true rfl
 | cons c as =>
 cases as with
 | nil =>
  change (if (ltS b a && ltS c b) = true then some [2, 1, 0] else if (ltS a c && ltS c b) = true then some [0, 2, 1] else none) = some js at hj
  by_cases hc : (ltS b a && ltS c b) = true
  ·rw [if_pos hc] at hj; obtain rfl := Option.some.inj hj; exact Nat.le_refl _
  ·rw [if_neg hc] at hj
   by_cases hd : (ltS a c && ltS c b) = true
   ·rw [if_pos hd] at hj; obtain rfl := Option.some.inj hj; exact Nat.le_refl _
   ·rw [if_neg hd] at hj; exact nso hj
 | cons d as => exact nso hj
theorem rows_run {vs : List Value} {as : List Str} {js : List Nat} {QQ : SortSt → Shared → Prop} (h2 : 2 ≤ vs.length) (hr : RowsAt s.heap vs as) (hj : rowsLt as = some js)
  (hq : ∀ st', failedOf st' = none → (arrOf st').map (·.2) = (pickV vs js).toArray → QQ st' s) : wpAny X.M A (sortRuns'.run (SortSt.mk' (tuples' true) (vs.toArray.zip vs.toArray) #[] 7 none)) (fun r s' => QQ r.2 s') E s := by
 have key : vs.length < 64 ∧ ∃ p0 : List Nat, (p0.map fun i => vs.getD i Value.none) = pickV vs js ∧ (kas_sort vs.length).kasWp (kas_ask X.prog X.w A (tuples' true) vs) (fun p s' => s' = s ∧ p.toList = p0) s := by
  have ne : ∀ {a b : Str}, ltS b a = true → b ≠ a := fun {a b} h e => by
   subst e; exact List.lt_irrefl _ (of_decide_eq_true h)
  have as' : ∀ {a b : Str}, ltS b a = true → ltS a b = false := fun {a b} h => decide_eq_false (List.lt_asymm (of_decide_eq_true h))
  cases hr with
  | nil => exact absurd h2 (by decide)
  | cons q1 hr =>
  cases hr with
  | nil => exact absurd h2 (Nat.not_succ_le_self 1)
  | cons q2 hr =>
  cases hr with
  | nil =>
   rename_i v1 a1 v2 a2
   change (if a1 = a2 then none else some (if ltS a2 a1 = true then [1, 0] else [0, 1])) = some js at hj
   by_cases e : a1 = a2
   ·rw [if_pos e] at hj; exact nso hj
   ·rw [if_neg e] at hj
    obtain rfl := Option.some.inj hj
    refine ⟨Nat.le_of_ble_eq_true rfl, if ltS a2 a1 = true then [1, 0] else [0, 1], ?_, ?_⟩
    ·cases ltS a2 a1 <;> rfl
    ·refine lt_rows q2 q1 (Ne.symm e) ?_
     cases ltS a2 a1 with
     | true => exact (⟨rfl, rfl⟩ : s = s ∧ (kas_rev (List.toArray (List.range 2)) 0 2).toList = [1, 0])
     | false => exact (⟨rfl, rfl⟩ : s = s ∧ (List.toArray (List.range 2)).toList = [0, 1])
  | cons q3 hr =>
  cases hr with
  | nil =>
   rename_i v1 a1 v2 a2 v3 a3
   change (if (ltS a2 a1 && ltS a3 a2) = true then some [2, 1, 0] else if (ltS a1 a3 && ltS a3 a2) = true then some [0, 2, 1] else none) = some js at hj
   by_cases hc : (ltS a2 a1 && ltS a3 a2) = true
   ·rw [if_pos hc] at hj
    obtain rfl := Option.some.inj hj
    rw [Bool.and_eq_true] at hc
    refine ⟨Nat.le_of_ble_eq_true rfl, [2, 1, 0], rfl, ?_⟩
    refine lt_rows q2 q1 (ne hc.1) ?_
    rw [hc.1]
    refine lt_rows q3 q2 (ne hc.2) ?_
    rw [hc.2]
    exact (⟨rfl, rfl⟩ : s = s ∧ (kas_rev (List.toArray (List.range 3)) 0 3).toList = [2, 1, 0])
   ·rw [if_neg hc] at hj
    by_cases hd : (ltS a1 a3 && ltS a3 a2) = true
    ·rw [if_pos hd] at hj
     obtain rfl := Option.some.inj hj
     rw [Bool.and_eq_true] at hd
     have h12 : ltS a1 a2 = true := decide_eq_true (List.lt_trans (of_decide_eq_true hd.1) (of_decide_eq_true hd.2))
     refine ⟨Nat.le_of_ble_eq_true rfl, [0, 2, 1], rfl, ?_⟩
     change (kas_sort 3).kasWp _ _ s
     refine lt_rows q2 q1 (Ne.symm (ne h12)) ?_
     rw [as' h12]
     refine lt_rows q3 q2 (ne hd.2) ?_
     rw [hd.2]
     refine lt_rows q1 q2 (ne h12) ?_
     rw [h12]
     refine lt_rows q3 q2 (ne hd.2) ?_
     rw [hd.2]
     refine lt_rows q3 q1 (Ne.symm (ne hd.1)) ?_
     rw [as' hd.1]
     exact (⟨rfl, rfl⟩ : s = s ∧ (bubble (List.toArray (List.range 3)) 2 1).toList = [0, 2, 1])
    ·rw [if_neg hd] at hj; exact nso hj
  | cons q4 hr => exact nso hj
 obtain ⟨h64, p0, e, key⟩ := key
 exact kat_run rfl h2 h64 (fun p st' s' _ har hf hG => by
  obtain ⟨rfl, hp⟩ := hG
  refine hq st' hf ?_
  rw [kat_snds rfl har, hp, e]) key
theorem pick_short {vs : List Value} {as : List Str} {js : List Nat} (h2 : vs.length < 2) (hl : vs.length = as.length) (hj : rowsLt as = some js) : pickV vs js = vs ∧ (vs.toArray.zip vs.toArray).map (·.2) = vs.toArray := by
 cases vs with
 | nil =>
  cases as with
  | nil => obtain rfl := Option.some.inj hj; exact ⟨rfl, by simp⟩
  | cons a as => exact absurd hl (by simp)
 | cons v vs =>
 cases vs with
 | nil =>
  cases as with
  | nil => exact absurd hl (by simp)
  | cons a as =>
  cases as with
  | nil => obtain rfl := Option.some.inj hj; exact ⟨rfl, by simp⟩
  | cons b as => exact absurd hl (by simp)
 | cons w vs => exact absurd h2 (by simp)
theorem list_sort_rows {a : Addr} {vs : List Value} {as : List Str} {n : Nat} {js : List Nat} {PP : Fin → Shared → Prop} (ho : s.heap.get? a = some (seqObj "list" vs.toArray n)) (hr : RowsAt s.heap vs as) (hj : rowsLt as = some js)
  (h : PP (.done (.ret .none)) { s with heap := sortedHeap s.heap a vs (pickV vs js).toArray }) : wpAny X.M A (Builtin.«list.sort» ⟨[.ref a], []⟩) PP E s := by
 rw [list_sort_plain]
 have ha : a < s.heap.objs.size := Heap.lt_size ho
 have hl : vs.length = as.length := hr.length
 have h3 : vs.length ≤ sizeLine := by rw [hl, sizeLine_eq]; exact Nat.le_trans (rowsLt_len hj) (by decide)
 refine wpAny_bind (listItems_at ho rfl ?_)
 refine wpAny_bind (listUpdate_at ho rfl ?_ (by rw [List.size_toArray]; exact h3))
 obtain ⟨e1, ho1⟩ : ∃ e1, (s.heap.update a (Obj.mapSeq fun _ => #[])).get? a = some (seqObj "list" #[] e1) := ⟨_, get?_update_seq ho (fun _ => #[])⟩
 refine wpAny_bind (seqEpoch_at ho1 rfl ?_)
 refine wpAny_bind (wpAny_newTuple ?_ h3)
 refine wpAny_bind (wpAny_newList ?_)
 refine wpAny_holding ?_
 have ho6 : (((s.heap.update a (Obj.mapSeq fun _ => #[])).push (seqObj "tuple" vs.toArray 0)).push (seqObj "list" #[] 0)).get? a = some (seqObj "list" #[] e1) := Heap.get?_push_of_some _ (Heap.get?_push_of_some _ ho1)
 have hr' : RowsAt (((s.heap.update a (Obj.mapSeq fun _ => #[])).push (seqObj "tuple" vs.toArray 0)).push (seqObj "list" #[] 0)) vs as := by
  refine hr.keep fun x ws m g => ?_
  have hxa : x ≠ a := fun z => by rw [z, ho] at g; exact absurd (congrArg (fun o : Option Obj => o.map (·.cls)) g) (by simp [seqObj])
  exact Heap.get?_push_of_some _ (Heap.get?_push_of_some _ ((Heap.get?_update_other _ _ (Ne.symm hxa)).trans g))
 show wpAny X.M A _ PP E { s with heap := ((s.heap.update a (Obj.mapSeq fun _ => #[])).push (seqObj "tuple" vs.toArray 0)).push (seqObj "list" #[] 0) }
 change PP _ { s with heap := (((s.heap.update a (Obj.mapSeq fun _ => #[])).push (seqObj "tuple" vs.toArray 0)).push (seqObj "list" #[] 0)).update a (Obj.mapSeq fun _ => (pickV vs js).toArray) } at h
 dsimp only
 generalize ((s.heap.update a (Obj.mapSeq fun _ => #[])).push (seqObj "tuple" vs.toArray 0)).push (seqObj "list" #[] 0) = H at ho6 hr' h ⊢
 have hz : (pickV vs js).length ≤ sizeLine := by
  refine Nat.le_trans (List.length_filterMap_le (vs[·]?) js) ?_
  exact Nat.le_trans (rowsLt_js hj) (by decide)
 have fin : ∀ st' : SortSt, failedOf st' = none → (arrOf st').map (·.2) = (pickV vs js).toArray → wpAny X.M A (do
   let touched := (← seqEpoch a) != e1
   Builtin.List.listUpdate (.ref a) fun _ => (arrOf st').map (·.2)
   if let some e := failedOf st' then rule "list.sort.comparison-raised"; throw e
   if touched then rule "list.sort.modified"; raiseError "ValueError" "list modified during sort"
   ret .none) PP E { s with heap := H } := by
  intro st' hf hs
  refine wpAny_bind (seqEpoch_at ho6 rfl ?_)
  refine wpAny_bind (listUpdate_at ho6 rfl ?_ (hsz2 := by rw [hs, List.size_toArray]; exact Nat.le_succ_of_le hz))
  rw [hf, hs, bne_self_eq_false]
  exact wpAny_pure h
 clear ho ho6 hr h ha
 by_cases h2 : vs.length < 2
 ·rw [if_pos (show vs.toArray.size < 2 from h2), if_pos (show vs.toArray.size < 2 from h2)]
  refine wpAny_bind (wpAny_pure ?_)
  rw [StateT.run_pure]
  obtain ⟨z1, z2⟩ := pick_short h2 hl hj
  exact wpAny_bind (wpAny_pure (fin _ rfl (z2.trans (congrArg _ z1.symm))))
 ·rw [if_neg (show ¬ vs.toArray.size < 2 from h2), if_neg (show ¬ vs.toArray.size < 2 from h2)]
  obtain ⟨fs, t, hs⟩ := kat_rows hr'
  refine wpAny_bind (kat_kind t (by rw [strs_len hs, ← hl]; exact Nat.lt_of_lt_of_le (by decide) (Nat.le_of_not_lt h2)) (strs_looks hs) rfl ?_)
  exact wpAny_bind (wpAny_mono (rows_run (s := { s with heap := H }) (Nat.le_of_not_lt h2) hr' hj (QQ := fun st' s' => failedOf st' = none ∧ (arrOf st').map (·.2) = (pickV vs js).toArray ∧ s' = { s with heap := H }) fun st' hf hs => ⟨hf, hs, rfl⟩) (fun ⟨_, st'⟩ s' ⟨hf, hs, e⟩ => by subst e; exact fin st' hf hs) fun _ _ e => e)
theorem sorted_rows {l : Addr} {vs : List Value} {as : List Str} {js : List Nat} {QQ : Value → Shared → Prop} (hl : s.heap.IsList l vs.toArray) (hr : RowsAt s.heap vs as) (hj : rowsLt as = some js)
  (h : QQ (.ref (s.heap.objs.size + 1)) { s with heap := sortedAll s.heap vs (pickV vs js).toArray }) : wpAny X.M A (call (.builtin "sorted") [.ref l]) QQ E s := by
 have hle : vs.length ≤ 3 := hr.length ▸ rowsLt_len hj
 refine Calls.call_function_entry kind_sorted plain_sorted entry_sorted (args_sorted1 _) ?_
 unfold Builtin.«sorted»
 refine wpAny_bind (m := checkCount "sorted" 1 1 _) (wpAny_pure ?_)
 refine wpAny_bind (collect_list hl ?_ (by rw [sizeLine_eq]; exact le_c hle rfl))
 refine wpAny_bind (wpAny_newList ?_ (by rw [sizeLine_eq]; exact le_c hle rfl))
 have hsz : ((s.heap.push (seqObj "list" #[] 0)).update s.heap.objs.size (Obj.mapSeq (· ++ vs.toArray))).objs.size = s.heap.objs.size + 1 := by
  rw [Heap.size_update, size_push']
 have hoL : (((s.heap.push (seqObj "list" #[] 0)).update s.heap.objs.size (Obj.mapSeq (· ++ vs.toArray))).push (seqObj "list" vs.toArray 0)).get? (s.heap.objs.size + 1) = some (seqObj "list" vs.toArray 0) := by
  rw [← hsz]; exact Heap.get?_push_size _ rfl
 show wpAny _ _ _ _ _ { s with heap := ((s.heap.push (seqObj "list" #[] 0)).update s.heap.objs.size (Obj.mapSeq (· ++ vs.toArray))).push (seqObj "list" vs.toArray 0) }
 rw [hsz]
 have hr2 : RowsAt (((s.heap.push (seqObj "list" #[] 0)).update s.heap.objs.size (Obj.mapSeq (· ++ vs.toArray))).push (seqObj "list" vs.toArray 0)) vs as := hr.keep fun a _ _ e =>
  Heap.get?_push_of_some _ ((Heap.get?_update_other _ _ (Nat.ne_of_gt (Heap.lt_size e))).trans (Heap.get?_push_of_some _ e))
 refine wpAny_bind (wpAny_holding (wpAny_call_entry slot_list_sort ⟨_, hoL, rfl⟩ entry_list_sort (list_sort_rows hoL hr2 hj ⟨_, rfl, ?_⟩) (args_list_sort _)))
 exact wpAny_pure ⟨_, rfl, h⟩
theorem rows_at {b : Heap} {vs : List Value} {rs : List (Str × D)} (r : RpAll X b vs (rs.map kvD)) : RowsAt b vs (rs.map (·.1)) := by
 induction rs generalizing vs with
 | nil => obtain rfl := r.i_nil; exact .nil
 | cons p rs ih =>
  obtain ⟨v, vs, rfl, r1, q⟩ := r.i_cons
  refine .cons ?_ (ih q)
  obtain ⟨x, ws, n, rfl, g, ra⟩ := r1.i_tup
  obtain ⟨v1, v2, hw, h1, h2⟩ := ra.i_two
  obtain ⟨t, rfl⟩ := h1.i_str
  obtain ⟨ws⟩ := ws
  obtain rfl : ws = _ := hw
  exact ⟨_, _, _, _, rfl, g⟩
theorem pick_rp {b : Heap} {vs : List Value} {ds : List D} (r : RpAll X b vs ds) (js : List Nat) : RpAll X b (pickV vs js) (pickV ds js) := by
 induction js with
 | nil => exact .nil
 | cons j js ih =>
  unfold pickV
  rw [List.filterMap_cons, List.filterMap_cons]
  cases h : vs[j]? with
  | none =>
   have : ds[j]? = none := by
    rw [List.getElem?_eq_none_iff] at h ⊢
    rw [← r.length]; exact h
   rw [this]; exact ih
  | some v =>
   obtain ⟨d, h1, h2⟩ := r.get h
   rw [h1]; exact .cons h2 (ih)
theorem pick_map {α β : Type} (f : α → β) (l : List α) (js : List Nat) : pickV (l.map f) js = (pickV l js).map f := by
 unfold pickV
 rw [List.map_filterMap]
 congr 1
 funext j
 rw [List.getElem?_map]
theorem ol_sortedRows {d : D} {rs : List (Str × D)} {js : List Nat} (l : Lst X σ d (rs.map kvD)) (hj : rowsLt (rs.map (·.1)) = some js) (p : P (.list ((pickV rs js).map kvD)) σ) : OpL X A env σ (fun vs => call (.builtin "sorted") vs) [d] P := fun s b vs S r => by
 replace r := r.i_one; obtain ⟨_, rfl, r⟩ := r
 obtain ⟨a, vs, k, rfl, g, ra⟩ := l.at S r
 have hl : s.heap.IsList a vs.toList.toArray := by simpa using isList_of g
 refine sorted_rows hl ((rows_at ra).keep fun _ _ _ => S.hp.le _ _) hj ?_
 obtain ⟨e, he⟩ := sortedAll_at s.heap vs.toList (pickV vs.toList js).toArray
 have hle : Le s.heap (sortedAll s.heap vs.toList (pickV vs.toList js).toArray) := fun _ _ => sortedAll_old
 obtain ⟨S₁, E₁⟩ := S.extend (h' := sortedAll s.heap vs.toList (pickV vs.toList js).toArray) (b' := grow b (sortedAll s.heap vs.toList (pickV vs.toList js).toArray) (· == s.heap.objs.size + 1)) (tk := s.toks) hle (grow_le (S.hp.le.trans hle)) grow_in (fun y o q => by
  rcases grow_new q with z | z
  ·exact .inl z
  ·refine .inr ?_
   rw [beq_iff_eq.mp z]
   cases q : s.heap.get? (s.heap.objs.size + 1) with
   | none => rfl
   | some o => exact absurd (Heap.lt_size q) (Nat.not_lt.mpr (Nat.le_succ _)))
 refine ⟨.list ((pickV rs js).map kvD), σ, _, E₁, S₁, .list (grow_get (by simp) he) ?_, p⟩
 rw [← pick_map]
 simpa using (pick_rp ra js).mono (grow_le (S.hp.le.trans hle))
noncomputable def ledIn (X : Cx) : Bool := !(X.w.params.followText "set-order")
structure TabOk (X : Cx) (es : Array (Int × Value)) (t : SetTable) : Prop where
 fits : t.fits es.size = true
 led : t.led = ledIn X
 plain : es.size ≠ 0 → t.plain = false
structure ElOk (X : Cx) (es : List (Int × Value)) (l : List Str) : Prop where
 el : ElemsOf X.kd es
 mem : ∀ k, k ∈ l ↔ ∃ e ∈ es, X.kd.is k e.2 = true
 len : es.length = l.length
 nd : l.Nodup
inductive SetI (X : Cx) (h : Heap) (a : Addr) (l : List Str) : Prop
 | mk (o : Obj) (es : Array (Int × Value)) (ep : Nat) (t : SetTable) (g : h.get? a = some o) (ex : o.ExactSet) (d : o.data = .set es ep t) (T : TabOk X es t) (L : ElOk X es.toList l)
theorem SetI.keep {h h' : Heap} {a : Addr} {l : List Str} (x : SetI X h a l) (e : ∀ o, h.get? a = some o → h'.get? a = some o) : SetI X h' a l := by
 obtain ⟨o, es, ep, t, g, ex, d, T, L⟩ := x
 exact ⟨o, es, ep, t, e _ g, ex, d, T, L⟩
noncomputable def addS (u : List Str) (s : Str) : List Str := if (u.any fun y => y == s) = true then u else u ++ [s]
theorem orStandIn_led (t : SetTable) (n : Nat) : (t.orStandIn n).led = t.led ∧ (t.plain = false → (t.orStandIn n).plain = false) := by
 unfold SetTable.orStandIn
 split
 ·exact ⟨rfl, id⟩
 ·exact ⟨rfl, fun _ => rfl⟩
theorem layNew_led (t : SetTable) (es : Array (Int × Value)) (h : Int) (x : Value) : (layNew t es h x).2.1.led = t.led ∧ (t.plain = false → (layNew t es h x).2.1.plain = false) := by
 unfold layNew
 split
 ·dsimp only
  have := orStandIn_led (t.put ‹Nat›).1 (SetTable.insertAt es (t.put ‹Nat›).2 (h, x)).size
  exact ⟨this.1, fun z => this.2 z⟩
 ·exact ⟨rfl, fun _ => rfl⟩
theorem relaid_led {t t' : SetTable} {hs : Array Int} {w : Nat} {o : Array Nat} (h : t.relaid hs w = some (t', o)) : t'.led = t.led ∧ t'.plain = t.plain := by
 unfold SetTable.relaid SetTable.laid at h
 cases q : SetTable.layClean (SetTable.sizeAbove w - 1) hs with
 | none => rw [q] at h; exact nso h
 | some r => rw [q] at h; cases h; exact ⟨rfl, rfl⟩
theorem relayAll_led (t : SetTable) (es : Array (Int × Value)) (w : Nat) : (relayAll t es w).2.1.led = t.led ∧ (t.plain = false → (relayAll t es w).2.1.plain = false) := by
 unfold relayAll
 split
 ·rename_i t' order q
  have := relaid_led q
  dsimp only
  split
  ·exact ⟨this.1, fun z => this.2.trans z⟩
  ·exact ⟨rfl, fun _ => rfl⟩
 ·exact ⟨rfl, fun _ => rfl⟩
theorem setI_fresh {h : Heap} {a : Addr} (g : h.get? a = some { cls := .type "set", dict := none, data := .set #[] 0 (.fresh 0 0 (ledIn X)) }) : SetI X h a [] :=
 ⟨_, #[], 0, _, g, ⟨rfl, rfl, rfl⟩, rfl, ⟨rfl, rfl, fun z => absurd rfl z⟩, ⟨fun e he => by simp at he, fun k => by simp, rfl, List.nodup_nil⟩⟩
theorem SetI.stored {h : Heap} {a : Addr} {o : Obj} {es es' : Array (Int × Value)} {ep : Nat} {t t' : SetTable} {l : List Str} (g : h.get? a = some o) (ex : o.ExactSet) (d : o.data = .set es ep t) (T : TabOk X es' t') (L : ElOk X es'.toList l) :
  (h.update a (Obj.putSet es' t')).get? a = some { o with data := .set es' (ep + 1) t' } ∧ SetI X (h.update a (Obj.putSet es' t')) a l := by
 have hg : (h.update a (Obj.putSet es' t')).get? a = some { o with data := .set es' (ep + 1) t' } := by
  have := Heap.get?_update_self (Obj.putSet es' t') g (by rw [putSet_of es' t' d]; rfl)
  rw [putSet_of es' t' d] at this; exact this
 exact ⟨hg, _, es', ep + 1, t', hg, ex, rfl, T, L⟩
theorem ElOk.perm {es es' : List (Int × Value)} {l : List Str} (L : ElOk X es l) (p : es'.Perm es) : ElOk X es' l :=
 ⟨L.el.perm p, fun k => (L.mem k).trans ⟨fun ⟨e, he, q⟩ => ⟨e, p.mem_iff.mpr he, q⟩, fun ⟨e, he, q⟩ => ⟨e, p.mem_iff.mp he, q⟩⟩, p.length_eq.trans L.len, L.nd⟩
theorem setTail {g : Bool → Sem Unit} (hg : ∀ (b : Bool) (s₁ : Shared) (Q' : Unit → Shared → Prop), Q' () s₁ → wpAny X.M A (g b) Q' E s₁)
  {a : Addr} {o : Obj} {es es1 : Array (Int × Value)} {ep : Nat} {t t2 : SetTable} {l : List Str} (ho : s.heap.get? a = some o) (hex : o.ExactSet) (hd : o.data = .set es ep t) (T : TabOk X es1 t2) (L : ElOk X es1.toList l) (hb : es1.size < scanBound) (hp : t2.plain = false)
  {wasDummy : Bool} {R : Option Bool → Shared → Prop} (h : ∀ h', Heap.SameBut a s.heap h' → SetI X h' a l → R (some true) { s with heap := h' }) :
  wpAny X.M A (do
    storeSet a es1 t2
    if (!wasDummy && t2.tooFull) = true then do
      g (relayAll t2 es1 (SetTable.grown es1.size)).2.2
      storeSet a (relayAll t2 es1 (SetTable.grown es1.size)).1 (relayAll t2 es1 (SetTable.grown es1.size)).2.1
      pure (some true)
     else pure (some true)) R E s := by
 refine wpAny_bind (wpAny_storeSet_of ho hd ?_ (fits_of_scanBound hb))
 obtain ⟨ho1, I1⟩ := SetI.stored ho hex hd T L
 have sb1 := Heap.SameBut.update s.heap a (Obj.putSet es1 t2)
 split
 ·have p := relayAll_perm t2 es1 (SetTable.grown es1.size)
  have f := relayAll_fits t2 es1 (SetTable.grown es1.size)
  have q := relayAll_led t2 es1 (SetTable.grown es1.size)
  generalize relayAll t2 es1 (SetTable.grown es1.size) = Rl at p f q ⊢
  obtain ⟨es2, t3, gave⟩ := Rl
  dsimp only at p f q ⊢
  have hsz : es2.size = es1.size := by rw [← Array.length_toList, p.length_eq, Array.length_toList]
  refine wpAny_bind (hg _ _ _ ?_)
  refine wpAny_bind (wpAny_storeSet_of ho1 rfl ?_ (fits_of_scanBound (by rw [hsz]; exact hb)))
  obtain ⟨_, I2⟩ := SetI.stored (X := X) (l := l) ho1 hex rfl ⟨f, q.1.trans T.led, fun _ => q.2 hp⟩ (L.perm p)
  exact wpAny_pure (h _ (sb1.trans (Heap.SameBut.update _ a _)) I2)
 ·exact wpAny_pure (h _ sb1 I1)
theorem set_add {a : Addr} {l : List Str} {k : Str} {tk : Tok} {R : Bool → Shared → Prop} (hS : SetI X s.heap a l) (hroom : l.length + 1 < scanBound)
  (h : ∀ b h', Heap.SameBut a s.heap h' → SetI X h' a (addS l k) → R b { s with heap := h' }) : wpAny X.M A (setAddHashed a (.str k tk) (X.kd.hash k)) R E s := by
 have hkey : X.kd.is k (.str k tk) = true := strKind_is X.prog X.w k tk
 obtain ⟨o, es, ep, t, ho, hex, hd, T, L⟩ := hS
 have hn : es.size = l.length := by rw [← Array.length_toList]; exact L.len
 have hb : es.size < scanBound := by lia
 unfold setAddHashed setAddHashedIn
 refine wpAny_holding (wpAny_bind (wpAny_setState_of ho hd T.fits ?_))
 dsimp only
 rw [byScan_of (knd := X.kd) rfl hb L.el]
 simp only [↓reduceIte]
 unfold setAddByScan
 refine wpAny_bind ?_
 refine wpAny_bind (wpAny_rule ?_)
 refine wpAny_bind (wpAny_setScan_of (knd := X.kd) hkey ho hd T.fits L.el ?_)
 cases hr : List.findIdx? (fun e => X.kd.is k e.2) es.toList with
 | some j =>
  dsimp only
  obtain ⟨hj, hpj, _⟩ := List.findIdx?_eq_some_iff_getElem.mp hr
  have hk : k ∈ l := (L.mem k).mpr ⟨es.toList[j], List.getElem_mem hj, hpj⟩
  have ha : addS l k = l := by unfold addS; rw [if_pos (by simpa using hk)]
  exact wpAny_pure (wpAny_pure (h false s.heap (Heap.SameBut.refl a s.heap) (ha.symm ▸ ⟨o, es, ep, t, ho, hex, hd, T, L⟩)))
 | none =>
  dsimp only
  have hk : k ∉ l := fun z => by
   obtain ⟨e, he, hp⟩ := (L.mem k).mp z
   have := List.findIdx?_eq_none_iff.mp hr e he
   rw [hp] at this; exact tef this
  have ha : addS l k = l ++ [k] := by unfold addS; rw [if_neg (by simpa using hk)]
  have hgw : ∀ (b : Bool) {s₁ : Shared} {Q' : Unit → Shared → Prop}, Q' () s₁ → wpAny X.M A (match b with | true => rule "set.scan.the-table-gave-way" | false => pure ()) Q' E s₁ :=
   fun b s₁ Q' hq => by cases b <;> first | exact wpAny_pure hq | exact wpAny_rule hq
  have p := layNew_perm t es (X.kd.hash k) (.str k tk)
  have f := layNew_fits t es (X.kd.hash k) (.str k tk)
  have q := layNew_led t es (X.kd.hash k) (.str k tk)
  generalize layNew t es (X.kd.hash k) (.str k tk) = Ln at p f q ⊢
  obtain ⟨es1, t1, wasDummy, gave⟩ := Ln
  dsimp only at p f q ⊢
  rw [Array.toList_push] at p
  have L1 : ElOk X es1.toList (addS l k) := by
   rw [ha]
   refine (ElOk.perm ⟨L.el.push hkey rfl, fun k' => ?_, by simp [hn], ?_⟩ p)
   ·have := mem_push_iff (knd := X.kd) (S := fun k' => decide (k' ∈ l)) hkey (fun k' => by rw [decide_eq_true_eq]; exact L.mem k') (List.Perm.refl _) k'
    rw [← this]; simp
   ·rw [List.nodup_append]; exact ⟨L.nd, by simp, fun a ha b hb z => hk (by rw [List.mem_singleton.mp hb] at z; rw [← z]; exact ha)⟩
  have hsz : es1.size = es.size + 1 := by rw [← Array.length_toList, p.length_eq]; simp
  have hb1 : es1.size < scanBound := by lia
  refine wpAny_bind (hgw _ ?_)
  split
  ·refine wpAny_bind ?_
   rw [hashByValue_scannable 8 rfl]
   refine wpAny_pure ?_
   refine setTail (l := addS l k) ?_ ho hex hd ?_ L1 hb1 rfl ?_
   ·intro b s₁ Q' hq; cases b <;> first | exact wpAny_pure hq | exact wpAny_rule hq
   ·exact ⟨SetTable.fits_plain_off f, q.1.trans T.led, fun _ => rfl⟩
   ·intro h' hsb I'; dsimp only; exact wpAny_pure (h true h' hsb I')
  ·rename_i hpl
   have hpl : t1.plain = false := by simpa using hpl
   refine wpAny_bind (wpAny_pure ?_)
   simp only [↓reduceIte]
   refine setTail (l := addS l k) ?_ ho hex hd ⟨f, q.1.trans T.led, fun _ => hpl⟩ L1 hb1 hpl ?_
   ·intro b s₁ Q' hq; cases b <;> first | exact wpAny_pure hq | exact wpAny_rule hq
   ·intro h' hsb I'; dsimp only; exact wpAny_pure (h true h' hsb I')
noncomputable def setS (ss : List Str) : List Str := ss.foldl addS []
theorem addS_fold_le (l : List Str) : ∀ (u : List Str), u.length ≤ (l.foldl addS u).length := by
 induction l with
 | nil => intro u; exact Nat.le_refl _
 | cons x r ih => intro u; exact Nat.le_trans (by unfold addS; split <;> simp) (ih (addS u x))
theorem setS_take (ss : List Str) (i : Nat) : ((ss.take i).foldl addS []).length ≤ (setS ss).length := by
 have h := addS_fold_le (ss.drop i) ((ss.take i).foldl addS [])
 rwa [← List.foldl_append, List.take_append_drop] at h
theorem take_fold {ss : List Str} {i : Nat} {x : Str} (h : ss[i]? = some x) : (ss.take (i + 1)).foldl addS [] = addS ((ss.take i).foldl addS []) x := by
 rw [take_at h, List.foldl_append]; rfl
theorem set_loop {I : Addr} {fp wr : List Addr} {G : Array GenState → Array GenState → Prop} {n : Nat} {PP : Nat → Value → Prop} {St : Nat → Shared → Prop} {R : Result → Shared → Prop}
  (W : WalksS X.prog X.w A.in1 I fp wr G n PP St) (S : Addr) (hSf : S ∉ fp) (ss : List Str) (hn : n = ss.length) (hval : ∀ i v, PP i v → ∃ x t, ss[i]? = some x ∧ v = .str x t) (hb : (setS ss).length + 1 < scanBound) :
  ∀ (k i : Nat) (s : Shared), n - i = k → i ≤ n → St i s → SetI X s.heap S ((ss.take i).foldl addS []) →
   (∀ s', Moved (S :: wr) G s s' → SetI X s'.heap S (setS ss) → R (.ok (.ret .none)) s') →
   codeAny X.M A (.builtin "set.update.loop" ⟨[.ref S, .ref I], []⟩) R s := by
 have hSw : S ∉ wr := fun h => hSf (W.sub _ h)
 have hsub : ∀ b ∈ wr, b ∈ S :: wr := fun b hb => List.mem_cons_of_mem _ hb
 intro k
 induction k with
 | zero =>
  intro i s hk hi hst hS hR
  have hin : i = n := by lia
  subst hin
  refine codeAny_builtin F.entry_set_update_loop ?_
  rw [Around.under_plainId F.plain_set_update_loop _]
  show wpAny _ A.in1 (pyNext (.ref I) >>= _) _ _ s
  refine wpAny_bind (W.done s _ _ hst fun s' hm => ?_)
  show wpAny _ A.in1 (ret Value.none) _ _ s'
  refine wpAny_pure (hR s' (hm.mono hsub) ?_)
  rw [hn, List.take_length] at hS
  exact hS.keep fun o e => hm.heap S _ hSw e
 | succ k ih =>
  intro i s hk hi hst hS hR
  have hlt : i < n := by lia
  refine codeAny_builtin F.entry_set_update_loop ?_
  rw [Around.under_plainId F.plain_set_update_loop _]
  show wpAny _ A.in1 (pyNext (.ref I) >>= _) _ _ s
  refine wpAny_bind (W.item i s _ _ hlt hst fun v s' hP hst' hm => ?_)
  obtain ⟨x, t, hx, rfl⟩ := hval i v hP
  have hS' : SetI X s'.heap S ((ss.take i).foldl addS []) := hS.keep fun o e => hm.heap S _ hSw e
  show wpAny _ A.in1 (holding [Value.str x t] (setAdd S (.str x t)) >>= _) _ _ s'
  refine wpAny_bind (wpAny_holding ?_)
  unfold setAdd
  refine wpAny_holding ?_
  refine wpAny_bind (X.kd.pyHash (k := x) (strKind_is X.prog X.w x t) ?_)
  have hroom : ((ss.take i).foldl addS []).length + 1 < scanBound := by
   have := setS_take ss i
   lia
  refine set_add (s := { s' with toks := s'.toks + 1 }) hS' hroom fun b h' hsb hS2 => ?_
  rw [← take_fold hx] at hS2
  refine wpAny_pure ⟨plainId_quiet F.plain_set_update_loop _, ih (i + 1) _ (by lia) hlt (W.frame _ s' _ _ hst' (Nat.le_succ _) fun b hb o e => ?_) hS2 fun s'' hm'' hS'' => ?_⟩
  ·rw [hsb.2 b (fun h : b = S => hSf (by rw [← h]; exact hb))]; exact e
  ·refine hR s'' (Moved.trans W.gtrans ((hm.mono hsub).then_heap (Nat.le_succ _) fun b o hb e => ?_) hm'') hS''
   rw [hsb.2 b (fun h : b = S => hb (by rw [h]; exact List.mem_cons_self))]; exact e
theorem code_new_set (a : Value) {Q₁ : Value → Shared → Prop} (h : Q₁ (.ref s.heap.objs.size) { s with heap := s.heap.push { cls := .type "set", dict := none, data := .set #[] 0 (.fresh 0 0 (ledIn X)) } }) :
  codeAny X.M A (.call (.builtin "set.__new__") ⟨[.type "set", a], []⟩) (wants Q₁ E) s := by
 refine codeAny_of_tree ?_
 show wpAny _ A.in1 (do checkBuiltinCall "set.__new__" ⟨[.type "set", a], []⟩; again (.builtin "set.__new__" ⟨[.type "set", a], []⟩)) _ _ s
 refine wpAny_bind (wpAny_of_eq (F.newCall_set_1 a) (wpAny_pure ⟨plainId_quiet F.plain_set_new _, codeAny_builtin F.entry_set_new ?_⟩))
 rw [Around.under_plainId F.plain_set_new _]
 unfold Builtin.«set.__new__» Builtin.Frozenset.newClass
 have hsub := sub_set_self
 obtain ⟨hp, g, d, tk, os⟩ := s
 dsimp only
 wp_walk
 refine wpAny_askSetting (wpAny_pure ?_)
 dsimp only
 simp only [newObj]
 refine wpAny_bind (wpAny_alloc (wpAny_pure ?_))
 exact wpAny_pure h
set_option maxHeartbeats 3200000 in
theorem call_setS {l : Addr} {items : Array Value} {ss : List Str} {QQ : Value → Shared → Prop} (hh : A.handled = none) (hl : s.heap.IsList l items) (hi : StrsAre items.toList ss) (hb : (setS ss).length + 1 < scanBound)
  (h : ∀ (h' : Heap) (tk : Nat), SetI X h' s.heap.objs.size (setS ss) → (∀ b o, s.heap.get? b = some o → h'.get? b = some o) → QQ (.ref s.heap.objs.size) { s with heap := h', toks := tk }) :
  wpAny X.M A (call (.type "set") [.ref l]) QQ E s := by
 have hz : items.size = ss.length := by have := (strs_rpAll (X := X) (b := s.heap) hi).length; simpa using this
 obtain ⟨c, tl, hmro⟩ := F.called_set.mro
 have hmade := F.called_set.made
 have hsub := F.called_set.sub
 refine wpAny_call (codeAny_of_tree ?_)
 show wpAny _ _ (callAny (.type "set") _) _ _ _
 refine wpAny_pure ⟨Code.quiet_builtin _ (by decide +kernel), codeAny_builtin F.entry_type_call ?_⟩
 rw [Around.under_plain (weight_type_call_type "set" [.ref l] []) rfl]
 have h1 := F.called_set.notType
 have h2 := F.called_set.canCreate
 have hct := F.typeCall_set_1 (.ref l)
 repeat (any_goals (first | assumption | wp_step))
 refine codeAny_mono (code_new_set (X := X) (.ref l) (E := E) (Q₁ := fun obj s₁ => obj = .ref s.heap.objs.size ∧ s₁ = { s with heap := s.heap.push { cls := .type "set", dict := none, data := .set #[] 0 (.fresh 0 0 (ledIn X)) } }) ⟨rfl, rfl⟩) fun r s₁ hr => ?_
 cases r with
 | error e => exact hr
 | ok fl =>
  cases fl with
  | ret obj =>
   obtain ⟨rfl, rfl⟩ := hr
   have hS : (s.heap.push { cls := .type "set", dict := none, data := .set #[] 0 (.fresh 0 0 (ledIn X)) }).get? s.heap.objs.size = some { cls := .type "set", dict := none, data := .set #[] 0 (.fresh 0 0 (ledIn X)) } := Heap.get?_push_size _ rfl
   have hT : Shared.TypeIs { s with heap := s.heap.push { cls := .type "set", dict := none, data := .set #[] 0 (.fresh 0 0 (ledIn X)) } } (.ref s.heap.objs.size) "set" := ⟨_, hS, rfl⟩
   have hli := F.called_set.init.lookup
   have hbi := F.called_set.init.bind (.ref s.heap.objs.size)
   repeat (any_goals (first | assumption | wp_step))
   refine codeAny_mono (codeAny_call_builtin (R := wants (fun r s₂ => r = .none ∧ ∃ h' tk, s₂ = { s with heap := h', toks := tk } ∧ SetI X h' s.heap.objs.size (setS ss) ∧ (∀ b o, s.heap.get? b = some o → h'.get? b = some o)) E)
    F.called_set.init.plain F.entry_set_init (check_set_init_1 hT ?_)) fun r₂ s₂ hr₂ => ?_
   ·obtain ⟨ol, hol, hcl, nl, hdl⟩ := hl
    obtain ⟨ocls, odict, odata, oslots⟩ := ol
    simp only at hcl hdl
    subst hcl; subst hdl
    have hol' : (s.heap.push { cls := .type "set", dict := none, data := .set #[] 0 (.fresh 0 0 (ledIn X)) }).get? l = some { cls := .type "list", dict := odict, data := .seq items nl, slots := oslots } := Heap.get?_push_of_some _ hol
    have hsls := F.sub_list_set
    have hslf := F.sub_list_frozenset
    have hne : (Value.type "list" == Value.type "dict") = false := by decide
    have hl1 : (s.heap.push { cls := .type "set", dict := none, data := .set #[] 0 (.fresh 0 0 (ledIn X)) }).IsList l items := ⟨_, hol', rfl, nl, rfl⟩
    unfold Builtin.«set.__init__» noKeywords Builtin.Frozenset.updateFrom
    generalize hPI : pyIter = PI
    wp_walk
    subst hPI
    refine wpAny_pyIter_list hl1 ?_
    refine wpAny_bind (wpAny_runValue ?_)
    have hlS : l < s.heap.objs.size := Heap.lt_size hol
    have hh3 : A.in1.in1.in1.handled = none := by simp [hh]
    have hneI : l ≠ (s.heap.push { cls := .type "set", dict := none, data := .set #[] 0 (.fresh 0 0 (ledIn X)) }).objs.size := by
     rw [Heap.size_push]; exact Nat.ne_of_lt (Nat.lt_succ_of_lt hlS)
    have hSf : s.heap.objs.size ∉ [(s.heap.push { cls := .type "set", dict := none, data := .set #[] 0 (.fresh 0 0 (ledIn X)) }).objs.size, l] := by
     rw [Heap.size_push]; simp only [List.mem_cons, List.mem_singleton, List.not_mem_nil, or_false, not_or]
     exact ⟨Nat.ne_of_lt (Nat.lt_succ_self _), Nat.ne_of_gt hlS⟩
    refine set_loop ((Walks.list hh3 _ l hneI items).toS) s.heap.objs.size hSf ss hz (fun i v hv => ?_) (by exact room_c hb rfl) (items.size - 0) 0 _ (by lia) (Nat.zero_le _)
     ⟨⟨_, Heap.get?_push_size _ rfl, rfl, rfl⟩, (hl1.push _)⟩ (setI_fresh (Heap.get?_push_of_some _ hS)) fun s' hm hS' => ?_
    ·obtain ⟨d, hd, hr⟩ := (strs_rpAll (X := X) (b := s.heap) hi).get (i := i) (v := v) (by rw [Array.getElem?_toList]; exact hv)
     rw [List.getElem?_map] at hd
     cases q : ss[i]? with
     | none => rw [q] at hd; exact nso hd
     | some x => rw [q] at hd; obtain rfl := Option.some.inj hd; obtain ⟨_, rfl⟩ := hr.i_str; exact ⟨x, _, rfl, rfl⟩
    ·obtain ⟨h', g', d', tk', os'⟩ := s'
     have eg : g' = s.gens := hm.gens
     have ed : d' = s.drawn := hm.drawn
     have eo : os' = s.os := hm.os
     subst eg; subst ed; subst eo
     show wpAny _ _ _ _ _ _
     refine wpAny_pure ?_
     show wpAny _ _ (ret Value.none) _ _ _
     refine wpAny_pure ⟨rfl, h', tk', rfl, hS', fun b o e => ?_⟩
     have hb := Heap.lt_size e
     have hb1 : b ≠ s.heap.objs.size := Nat.ne_of_lt hb
     have hb2 : b ≠ (s.heap.push { cls := .type "set", dict := none, data := .set #[] 0 (.fresh 0 0 (ledIn X)) }).objs.size := by
      rw [Heap.size_push]; exact Nat.ne_of_lt (Nat.lt_succ_of_lt hb)
     exact hm.heap b o (by simp only [List.mem_cons, List.mem_singleton, List.not_mem_nil, or_false, not_or]; exact ⟨hb1, hb2⟩) (Heap.get?_push_of_some _ (Heap.get?_push_of_some _ e))
   ·cases r₂ with
    | error e => exact hr₂
    | ok fl₂ =>
     cases fl₂ with
     | ret r =>
      obtain ⟨rfl, h', tk, rfl, hS', hk'⟩ := hr₂
      repeat (any_goals (first | assumption | wp_step))
      exact h _ _ hS' hk'
     | _ => exact hr₂.elim
  | _ => exact hr.elim
theorem si_slot : Slot "set_iterator" "__next__" "set_iterator.__next__" :=
 .of (owner := "set_iterator") (n := "__next__") (by rw [typeLookup_type, builtinLookup_eq_fast]; kernel_rfl) (by decide +kernel) (by decide +kernel) (by decide +kernel)
  (by first | exact .inl (by decide +kernel) | exact .inr (by decide +kernel)) (by rw [isSubtype_type]; kernel_rfl)
theorem si_entry : entryFor table "set_iterator.__next__" = some Builtin.«set_iterator.__next__» := entryFor_of_tree (by kernel_rfl)
theorem si_owner : Manifest.owners.lookup (String.ofList ['r', 'o', 't', 'a', 'r', 'e', 't', 'i', '_', 't', 'e', 's'].reverse) = some Manifest.sig_set_iterator := by kernel_rfl
theorem si_args (a : Value) : argsOk "set_iterator.__next__" ⟨[a], []⟩ := by
 unfold argsOk; rw [signature?_of (id := "set_iterator.__next__") (n := ['_', '_', 't', 'x', 'e', 'n', '_', '_']) (o := ['r', 'o', 't', 'a', 'r', 'e', 't', 'i', '_', 't', 'e', 's']) (by kernel_rfl) si_owner]; kernel_rfl
theorem set_iter_entry : entryFor table "set.__iter__" = some Builtin.«frozenset.__iter__» :=
 entryFor_alias (id' := "frozenset.__iter__") (by kernel_rfl) rfl (by decide +kernel) (by kernel_rfl)
theorem set_len_look : typeLookup (.type "set") "__len__" = pure (some (.builtin "set.__len__")) := by rw [typeLookup_type, builtinLookup_eq_fast]; kernel_rfl
noncomputable def IsSI (h : Heap) (I : Addr) (first : Value) (i : Nat) (a : Addr) (n ep : Nat) : Prop :=
 ∃ o, h.get? I = some o ∧ o.cls = .type "set_iterator" ∧ o.data = .fields #[first, .int (i : Nat) 0, .ref a, .int (n : Nat) 0, .int (ep : Nat) 0]
theorem si_stop {I : Addr} {H : Heap} {QQ : Option Value → Shared → Prop} (hh : A.handled = none) (he : Heap.ExtBut I s.heap H) (hQ : ∀ h', Heap.ExtBut I s.heap h' → QQ none { s with heap := h' }) {Z : Fin → Shared → Prop} {E' : Value → Shared → Prop} :
  wpAny X.M A.in1 (newExc (.type "StopIteration") [] >>= fun e => (raiseNew e : Sem Fin)) Z (fun e s' => wpAny X.M A (match (Except.error e : Except Value (Option Value)) with
    | Except.ok (some v) => pure (some v)
    | Except.ok none => unsupported "iter:the-iterator's-class-has-lost-its-__next__-amid-the-walk"
    | Except.error e => do
     let r ← isInstance e (Value.type "StopIteration")
     if r = true then pure none else throw e) QQ E' s') { s with heap := H } := by
 refine wpAny_bind ?_
 simp only [newExc, newTuple]
 refine wpAny_bind (wpAny_newObj_type ?_ (by size_fits))
 refine wpAny_bind (m := firstArgMember _ _) (wpAny_of_eq (a := Value.none) (by first | rfl | (simp only [firstArgMember]; rfl)) ?_)
 refine wpAny_newObj_type ?_ (by size_fits)
 simp only [raiseNew]
 refine wpAny_bind (wpAny_handled ?_)
 rw [show A.in1.handled = none from hh]
 refine wpAny_bind (wpAny_pure (wpAny_throw ?_))
 refine wpAny_bind (wpAny_isInstance (T := "StopIteration") (b := true) ⟨_, Heap.get?_push_size _ rfl, rfl⟩ isSubtype_stop ?_)
 exact wpAny_pure (hQ _ ((he.push _).push _))
theorem si_next_plain {I a : Addr} {i n ep sl : Nat} {o : Obj} {es : Array (Int × Value)} {t : SetTable} {r : Option (Value × Nat)} {QQ : Option Value → Shared → Prop} (hh : A.handled = none) (hit : IsSI s.heap I (.int (sl : Nat) 0) i a n ep)
  (ho : s.heap.get? a = some o) (hd : o.data = .set es ep t) (hf : t.fits es.size = true) (hn : es.size = n) 
  (hx : ∀ (E' : Value → Shared → Prop) (Q' : Option (Value × Nat) → Shared → Prop), Q' r s → wpAny X.M A.in1 (setNext a sl i ep) Q' E' s)
  (hs : ∀ x nx, r = some (x, nx) → ∀ h', IsSI h' I (.int (nx : Nat) 0) (i + 1) a n ep → Heap.SameBut I s.heap h' → QQ (some x) { s with heap := h' })
  (he : r = none → ∀ h', Heap.ExtBut I s.heap h' → QQ none { s with heap := h' }) : wpAny X.M A (pyNext (.ref I)) QQ E s := by
 refine hide ?_; intro g; obtain ⟨oi, hoi, hc, hdi⟩ := id hit; dsimp only [g]
 have hT : s.TypeIs (.ref I) "set_iterator" := ⟨_, hoi, hc⟩
 unfold pyNext
 refine wpAny_bind (wpAny_attempt (wpAny_callSpecial?_slot (name := Str.ofString "__next__") hT si_slot (wpAny_call_entry si_slot hT si_entry ?_ (si_args _))))
 unfold Builtin.«set_iterator.__next__»
 refine wpAny_bind (wpAny_pure ?_)
 refine wpAny_bind (wpAny_fieldsOf hoi hdi ?_)
 show wpAny _ _ (setEntries a >>= _) _ _ s
 refine wpAny_bind (wpAny_setEntries_of ho hd hf ?_)
 rw [if_neg (by simp [hn])]
 dsimp only
 refine wpAny_bind ?_
 simp only [Int.toNat_natCast]
 refine hx _ _ ?_
 cases r with
 | none =>
  dsimp only
  refine wpAny_bind (wpAny_setField hoi hdi (by simp) ?_)
  exact si_stop hh (Heap.SameBut.update ..).extBut (he rfl)
 | some p =>
  obtain ⟨x, nx⟩ := p
  dsimp only
  refine wpAny_bind (wpAny_setField hoi hdi (by simp) ?_)
  have g1 := Heap.get?_update_self (Obj.mapFields (·.setIfInBounds 0 (rawInt ((nx : Nat) : Int)))) hoi (Obj.isFreed_of_fields (Obj.data_mapFields hdi _))
  have d1 := Obj.data_mapFields hdi (·.setIfInBounds 0 (rawInt ((nx : Nat) : Int)))
  refine wpAny_bind (wpAny_setField (s := { s with heap := _ }) g1 d1 (by simp) ?_)
  refine wpAny_pure ⟨x, rfl, wpAny_pure (hs x nx rfl _ ⟨_, Heap.get?_update_self _ g1 (Obj.isFreed_of_fields (Obj.data_mapFields d1 _)), ?_, ?_⟩ ((Heap.SameBut.update ..).trans (Heap.SameBut.update ..)))⟩
  ·rw [Obj.cls_mapFields, Obj.cls_mapFields]; exact hc
  ·rw [Obj.data_mapFields d1]; simp [rawInt]
theorem si_next_drawn {I a T : Addr} {i n ep : Nat} {o oT : Obj} {es : Array (Int × Value)} {t : SetTable} {ps : List Nat} {c : Nat} {QQ : Option Value → Shared → Prop} (hh : A.handled = none) (hit : IsSI s.heap I (.ref T) i a n ep)
  (ho : s.heap.get? a = some o) (hd : o.data = .set es ep t) (hf : t.fits es.size = true) (hn : es.size = n) (hT : s.heap.get? T = some oT) (hdT : oT.data = .seq (ps.map fun (j : Nat) => rawInt (j : Int)).toArray c)
  (hp : ∀ j ∈ ps, j < n)
  (hs : ∀ j h x p, ps[i]? = some j → es[j]? = some (p, x) → IsSI h I (.ref T) (i + 1) a n ep → Heap.SameBut I s.heap h → QQ (some x) { s with heap := h })
  (he : ps[i]? = none → ∀ h', Heap.ExtBut I s.heap h' → QQ none { s with heap := h' }) : wpAny X.M A (pyNext (.ref I)) QQ E s := by
 obtain ⟨oi, hoi, hc, hdi⟩ := id hit
 have hTy : s.TypeIs (.ref I) "set_iterator" := ⟨_, hoi, hc⟩
 unfold pyNext
 refine wpAny_bind (wpAny_attempt (wpAny_callSpecial?_slot (name := Str.ofString "__next__") hTy si_slot (wpAny_call_entry si_slot hTy si_entry ?_ (si_args _))))
 unfold Builtin.«set_iterator.__next__»
 refine wpAny_bind (wpAny_pure ?_)
 refine wpAny_bind (wpAny_fieldsOf hoi hdi ?_)
 show wpAny _ _ (setEntries a >>= _) _ _ s
 refine wpAny_bind (wpAny_setEntries_of ho hd hf ?_)
 rw [if_neg (by simp [hn])]
 dsimp only
 refine wpAny_bind ?_
 unfold seqItems?
 dsimp only
 refine wpAny_bind (wpAny_load hT ?_)
 rw [hdT]
 refine wpAny_pure ?_
 simp only [Int.toNat_natCast, List.getElem?_toArray, List.getElem?_map]
 cases hi : ps[i]? with
 | none =>
  dsimp only [Option.map]
  refine wpAny_bind (wpAny_setField hoi hdi (by simp) ?_)
  have g1 := Heap.get?_update_self (Obj.mapFields (·.setIfInBounds 0 (rawInt 0))) hoi (Obj.isFreed_of_fields (Obj.data_mapFields hdi _))
  have d1 := Obj.data_mapFields hdi (·.setIfInBounds 0 (rawInt 0))
  refine wpAny_bind (wpAny_setField (s := { s with heap := _ }) g1 d1 (by simp) ?_)
  exact si_stop hh ((Heap.SameBut.update ..).trans (Heap.SameBut.update ..)).extBut (he hi)
 | some j =>
  have hj : j < es.size := by rw [hn]; exact hp j (List.mem_of_getElem? hi)
  obtain ⟨⟨p, x⟩, hjx⟩ : ∃ y, es[j]? = some y := ⟨_, Array.getElem?_eq_getElem hj⟩
  dsimp only [Option.map, rawInt]
  refine wpAny_bind ?_
  unfold setNextDrawn
  refine wpAny_bind (wpAny_setState_of ho hd hf ?_)
  dsimp only
  rw [if_neg (by simp)]
  simp only [Int.toNat_natCast, hjx]
  refine wpAny_bind (wpAny_pure (wpAny_pure ?_))
  refine wpAny_bind (wpAny_setField hoi hdi (by simp) ?_)
  refine wpAny_pure ⟨x, rfl, wpAny_pure (hs j _ x p hi hjx ⟨_, Heap.get?_update_self _ hoi (Obj.isFreed_of_fields (Obj.data_mapFields hdi _)), ?_, ?_⟩ (Heap.SameBut.update ..))⟩
  ·rw [Obj.cls_mapFields]; exact hc
  ·rw [Obj.data_mapFields hdi]; simp [rawInt]
theorem erase_perm {α : Type} {l : List α} {i : Nat} {x : α} (h : l[i]? = some x) : (x :: l.eraseIdx i).Perm l := by
 rw [List.eraseIdx_eq_take_drop_succ]
 conv => rhs; rw [split_at h]
 exact List.perm_middle.symm
theorem pick_go {α : Type} (next : Nat → Nat) : ∀ (fuel k : Nat) (left : List α) (out : Array α), left.length ≤ fuel → (pickOrder.go next fuel k left out).toList.Perm (out.toList ++ left)
 | 0, k, left, out, h => by
  have : left = [] := List.length_eq_zero_iff.mp (by lia)
  subst this
  unfold pickOrder.go
  simp
 | fuel + 1, k, left, out, h => by
  unfold pickOrder.go
  split
  ·rename_i x hx
   have hlt : next k % left.length < left.length := (List.getElem?_eq_some_iff.mp hx).1
   refine (pick_go next fuel (k + 1) _ (out.push x) ?_).trans ?_
   ·rw [List.length_eraseIdx_of_lt hlt]; lia
   ·rw [Array.toList_push, List.append_assoc]
    exact (erase_perm hx).append_left _
  ·rename_i hx
   have : left = [] := by
    cases left with
    | nil => rfl
    | cons a r =>
     have := List.getElem?_eq_none_iff.mp hx
     exact absurd (Nat.mod_lt (next k) (by simp : 0 < (a :: r).length)) (by lia)
   subst this; simp
theorem pick_perm {α : Type} (next : Nat → Nat) (xs : Array α) : (pickOrder next xs).toList.Perm xs.toList := by
 have := pick_go next xs.size 0 xs.toList #[] (by simp)
 simpa [pickOrder] using this
theorem wpAny_choose {M : Model} {src : Source} {n : Nat} {QQ : Nat → Shared → Prop} (hn : n ≠ 0) (h : ∀ i dr, i < n → QQ i { s with drawn := dr }) : wpAny M A (choose src n) QQ E s := fun Γ p hΓ => by
 show Sem.wp M Γ (.choose src n .pure) _ _ p s
 rw [Sem.wp_choose]
 exact ⟨hn, h _ _ (Nat.mod_lt _ (Nat.pos_of_ne_zero hn))⟩
theorem draw_perm {M : Model} {α : Type} : ∀ (n : Nat) (xs : List α) {s : Shared} {QQ : List α → Shared → Prop}, n = xs.length → (∀ ys dr, ys.Perm xs → QQ ys { s with drawn := dr }) → wpAny M A (drawOrder n xs) QQ E s
 | 0, xs, s, QQ, e, h => by
  have : xs = [] := List.length_eq_zero_iff.mp e.symm
  subst this
  unfold drawOrder
  exact wpAny_pure (h [] s.drawn (.refl _))
 | n + 1, [], s, QQ, e, h => by simp at e
 | n + 1, y :: r, s, QQ, e, h => by
  unfold drawOrder
  refine wpAny_bind (wpAny_choose (by simp) fun i dr hi => ?_)
  obtain ⟨x, hx⟩ : ∃ x, (y :: r)[i]? = some x := ⟨_, List.getElem?_eq_getElem hi⟩
  rw [hx]
  dsimp only
  refine wpAny_bind (draw_perm n _ (s := { s with drawn := dr }) (by rw [List.length_eraseIdx_of_lt hi]; simp at e ⊢; exact e) fun ys dr' p => ?_)
  exact wpAny_pure (h (x :: ys) dr' ((p.cons x).trans (erase_perm hx)))
theorem perm_cover {α : Type} {l : List α} : ∀ {K : List α}, l.Nodup → (∀ x ∈ l, x ∈ K) → K.length ≤ l.length → l.Perm K := by
 induction l with
 | nil =>
  intro K _ _ h
  have : K = [] := List.length_eq_zero_iff.mp (by simpa using h)
  subst this; exact .refl _
 | cons x r ih =>
  intro K hn hs h
  rw [List.nodup_cons] at hn
  obtain ⟨p, q, rfl⟩ := List.append_of_mem (hs x (.head _))
  refine .trans (.cons x (ih hn.2 (fun y hy => ?_) ?_)) List.perm_middle.symm
  ·have := hs y (.tail _ hy)
   rcases List.mem_append.mp this with z | z
   ·exact List.mem_append_left _ z
   ·rcases List.mem_cons.mp z with z | z
    ·exact absurd (z ▸ hy) hn.1
    ·exact List.mem_append_right _ z
  ·simp only [List.length_append, List.length_cons] at h ⊢; lia
theorem ElOk.strs {es : List (Int × Value)} {l : List Str} (L : ElOk X es l) {vs : List Value} (p : vs.Perm (es.map (·.2))) : ∃ ss, StrsAre vs ss ∧ ss.Perm l := by
 have hv : ∀ v ∈ vs, ∃ x t, v = .str x t := fun v hv => by
  obtain ⟨e, he, rfl⟩ := List.mem_map.mp (p.mem_iff.mp hv)
  obtain ⟨⟨k, hk, _⟩, _⟩ := L.el e he
  obtain ⟨t, ht⟩ := Value.isStrOf_shape hk
  exact ⟨k, t, ht⟩
 refine ⟨vs.map strOf, strsAre_map _ hv, (p.map strOf).trans (List.Perm.symm (perm_cover L.nd (fun k hk => ?_) ?_))⟩
 ·obtain ⟨e, he, hk'⟩ := (L.mem k).mp hk
  obtain ⟨t, ht⟩ := Value.isStrOf_shape hk'
  exact List.mem_map.mpr ⟨e.2, List.mem_map_of_mem he, by rw [ht]; rfl⟩
 ·simp [L.len]
inductive SetWalk (X : Cx) (A : Around) (s : Shared) (a : Addr) (es : List (Int × Value)) (it : Value) (s' : Shared) : Prop
 | mk (I : Addr) (fp wr : List Addr) (n : Nat) (PP : Nat → Value → Prop) (St : Nat → Heap → Prop) (e : it = .ref I) (W : Walks X.prog X.w A I fp wr n PP St) (j : St 0 s'.heap) (fl : ∀ b ∈ fp, b < s'.heap.objs.size) (hn : n ≤ sizeLine)
  (nw : ∀ b ∈ wr, s.heap.get? b = none) (nf : ∀ b ∈ fp, s.heap.get? b = none ∨ b = a) (k : ∀ b o, s.heap.get? b = some o → s'.heap.get? b = some o) (gg : s'.gens = s.gens) (os : s'.os = s.os)
  (out : ∀ acc, ItemsOf PP acc n → acc.toList.Perm (es.map (·.2)))
theorem items_perm {PP : Nat → Value → Prop} {acc : Array Value} {n : Nat} {vs ws : List Value} (h : ItemsOf PP acc n) (hl : vs.length = n) (hP : ∀ i v, PP i v → vs[i]? = some v) (p : vs.Perm ws) : acc.toList.Perm ws := by
 have : acc.toList = vs := by
  apply List.ext_getElem?
  intro i
  by_cases hi : i < n
  ·have h1 : i < acc.size := by rw [h.1]; exact hi
   have h2 := h.2 i acc[i] (Array.getElem?_eq_getElem h1)
   rw [hP i _ h2, Array.getElem?_toList]
   exact Array.getElem?_eq_getElem h1
  ·rw [List.getElem?_eq_none (by rw [Array.length_toList, h.1]; lia), List.getElem?_eq_none (by rw [hl]; lia)]
 rw [this]; exact p
theorem setsText {M : Model} {QQ : Bool → Shared → Prop} (h : QQ (M.w.params.followText "set-order") s) : wpAny M A setsByText QQ E s := by
 unfold setsByText
 exact wpAny_bind (wpAny_askSetting (wpAny_pure h))
theorem IsSI.to {h h' : Heap} {I a : Addr} {f : Value} {i n ep : Nat} (x : IsSI h I f i a n ep) (e : ∀ o, h.get? I = some o → h'.get? I = some o) : IsSI h' I f i a n ep := by
 obtain ⟨o, g, r⟩ := x; exact ⟨o, e _ g, r⟩
theorem si_slot_it : Slot "set_iterator" "__iter__" "set_iterator.__iter__" :=
 .of (owner := "set_iterator") (n := "__iter__") (by rw [typeLookup_type, builtinLookup_eq_fast]; kernel_rfl) (by decide +kernel) (by decide +kernel) (by decide +kernel)
  (by first | exact .inl (by decide +kernel) | exact .inr (by decide +kernel)) (by rw [isSubtype_type]; kernel_rfl)
theorem si_entry_it : entryFor table "set_iterator.__iter__" = some Builtin.«dict_keyiterator.__iter__» :=
 entryFor_alias (id' := "dict_keyiterator.__iter__") (by kernel_rfl) rfl (by decide +kernel) (by kernel_rfl)
theorem si_args_it (a : Value) : argsOk "set_iterator.__iter__" ⟨[a], []⟩ := by
 unfold argsOk; rw [signature?_of (id := "set_iterator.__iter__") (n := ['_', '_', 'r', 'e', 't', 'i', '_', '_']) (o := ['r', 'o', 't', 'a', 'r', 'e', 't', 'i', '_', 't', 'e', 's']) (by kernel_rfl) si_owner]; kernel_rfl
theorem si_self {I a : Addr} {f : Value} {i n ep : Nat} {QQ : Value → Shared → Prop} (x : IsSI s.heap I f i a n ep) (h : QQ (.ref I) s) : wpAny X.M A (pyIter (.ref I)) QQ E s := by
 obtain ⟨o, g, hc, hd⟩ := x
 have hT : s.TypeIs (.ref I) "set_iterator" := ⟨o, g, hc⟩
 refine wpAny_pyIter_slot hT si_slot_it (wpAny_call_entry si_slot_it hT si_entry_it ?_ (si_args_it _))
 show wpAny _ _ (ret (.ref I)) _ _ s
 exact wpAny_pure ⟨_, rfl, "set_iterator", _, hT, si_slot.lookup, h⟩
theorem walk_plain {I a : Addr} {n ep : Nat} {o : Obj} {es : Array (Int × Value)} {t : SetTable} (sl : Nat → Nat) (r : Nat → Option (Value × Nat)) (hh : A.handled = none) (hIa : I ≠ a) (hd : o.data = .set es ep t) (hf : t.fits es.size = true) (hn : es.size = n)
  (hx : ∀ i (s : Shared) (E' : Value → Shared → Prop) (Q' : Option (Value × Nat) → Shared → Prop), s.heap.get? a = some o → Q' (r i) s → wpAny X.M A.in1 (setNext a (sl i) i ep) Q' E' s)
  (hr : ∀ i, i < n → ∃ x, r i = some (x, sl (i + 1))) (hr2 : r n = none) :
  Walks X.prog X.w A I [I, a] [I] n (fun i v => ∃ nx, r i = some (v, nx)) (fun i h => IsSI h I (.int (sl i : Nat) 0) i a n ep ∧ h.get? a = some o) where
 sub := fun b hb => by rw [List.mem_singleton.mp hb]; exact .head _
 frame := fun i h h' ⟨j1, j2⟩ k => ⟨j1.to (k I (.head _)), k a (.tail _ (.head _)) _ j2⟩
 item := fun i s Q E hi ⟨j1, j2⟩ h => by
  obtain ⟨x, hx'⟩ := hr i hi
  refine si_next_plain (X := X) hh j1 j2 hd hf hn (r := r i) (fun E' Q' q => hx i s E' Q' j2 q) (fun y nx e h' k1 k2 => ?_) (fun e => by rw [hx'] at e; exact sno e)
  rw [hx'] at e; cases e
  exact h x h' s.toks ⟨_, hx'⟩ ⟨k1, (k2.2 _ (Ne.symm hIa)).trans j2⟩ fun b o' hb e' => (k2.2 b (fun z => hb (by simp [z]))).trans e'
 done := fun s Q E ⟨j1, j2⟩ h => by
  refine si_next_plain (X := X) hh j1 j2 hd hf hn (r := r n) (fun E' Q' q => hx n s E' Q' j2 q) (fun y nx e h' k1 k2 => by rw [hr2] at e; exact nso e) (fun e h' k => ?_)
  exact h h' s.toks fun b o' hb e' => k b o' (fun z => hb (by simp [z])) e'
 self := fun i s Q E ⟨j1, _⟩ h => si_self j1 h
theorem walk_drawn {I a T : Addr} {n ep c : Nat} {o oT : Obj} {es : Array (Int × Value)} {t : SetTable} {ps : List Nat} (hh : A.handled = none) (hIa : I ≠ a) (hIT : I ≠ T) (hd : o.data = .set es ep t) (hf : t.fits es.size = true) (hn : es.size = n)
  (hdT : oT.data = .seq (ps.map fun (j : Nat) => rawInt (j : Int)).toArray c) (hp : ∀ j ∈ ps, j < n) (hl : ps.length = n) :
  Walks X.prog X.w A I [I, a, T] [I] n (fun i v => ∃ j p, ps[i]? = some j ∧ es[j]? = some (p, v)) (fun i h => IsSI h I (.ref T) i a n ep ∧ h.get? a = some o ∧ h.get? T = some oT) where
 sub := fun b hb => by rw [List.mem_singleton.mp hb]; exact .head _
 frame := fun i h h' ⟨j1, j2, j3⟩ k => ⟨j1.to (k I (.head _)), k a (.tail _ (.head _)) _ j2, k T (.tail _ (.tail _ (.head _))) _ j3⟩
 item := fun i s Q E hi ⟨j1, j2, j3⟩ h => by
  refine si_next_drawn (X := X) hh j1 j2 hd hf hn j3 hdT hp (fun j h' x p e1 e2 k1 k2 => ?_) (fun e => absurd (List.getElem?_eq_none_iff.mp e) (by lia))
  exact h x h' s.toks ⟨j, p, e1, e2⟩ ⟨k1, (k2.2 _ (Ne.symm hIa)).trans j2, (k2.2 _ (Ne.symm hIT)).trans j3⟩ fun b o' hb e' => (k2.2 b (fun z => hb (by simp [z]))).trans e'
 done := fun s Q E ⟨j1, j2, j3⟩ h => by
  refine si_next_drawn (X := X) hh j1 j2 hd hf hn j3 hdT hp (fun j h' x p e1 e2 k1 k2 => ?_) (fun e h' k => ?_)
  ·have := (List.getElem?_eq_some_iff.mp e1).1; lia
  ·exact h h' s.toks fun b o' hb e' => k b o' (fun z => hb (by simp [z])) e'
 self := fun i s Q E ⟨j1, _⟩ h => si_self j1 h
theorem set_iter {a : Addr} {o : Obj} {es : Array (Int × Value)} {ep : Nat} {t : SetTable} (hh : A.handled = none) (g : s.heap.get? a = some o) (ex : o.ExactSet) (hd : o.data = .set es ep t) (T : TabOk X es t) (hb : es.size < 4096) :
  wpAny X.M A (pyIter (.ref a)) (fun it s' => SetWalk X A s a es.toList it s') Never s := by
 have hT : s.TypeIs (.ref a) "set" := ⟨o, g, ex.1⟩
 have hs16 : es.size ≤ sizeLine := by rw [sizeLine_eq]; exact le_c (Nat.le_of_lt hb) rfl
 have hla := Heap.lt_size g
 refine wpAny_pyIter_slot hT F.slot_set_iter (wpAny_call_entry F.slot_set_iter hT set_iter_entry ?_ (F.args_set_iter_1 _))
 unfold Builtin.«frozenset.__iter__»
 refine wpAny_bind (wpAny_pure ?_)
 refine wpAny_bind ?_
 unfold Builtin.Frozenset.sizeOf
 refine wpAny_bind (wpAny_setEntries_of g hd T.fits (wpAny_pure ?_))
 refine wpAny_bind ?_
 unfold setDrawn
 refine wpAny_bind (wpAny_setState_of g hd T.fits ?_)
 dsimp only
 refine wpAny_bind (setsText (wpAny_pure ?_))
 have plainEnd : ∀ (r : Nat → Option (Value × Nat)) (sl : Nat → Nat), sl 0 = 0 → (∀ i (s : Shared) (E' : Value → Shared → Prop) (Q' : Option (Value × Nat) → Shared → Prop), s.heap.get? a = some o → Q' (r i) s → wpAny X.M A.in1 (setNext a (sl i) i ep) Q' E' s) →
   (∀ i, i < es.size → ∃ x, r i = some (x, sl (i + 1))) → r es.size = none → (∀ acc, ItemsOf (fun i v => ∃ nx, r i = some (v, nx)) acc es.size → acc.toList.Perm (es.toList.map (·.2))) →
   wpAny X.M A.in1 (do
    let first ← pure (rawInt 0)
    let e ← setEpoch a
    let v ← newFields "set_iterator" [first, rawInt 0, Value.ref a, rawInt ↑es.size, rawInt ↑e]
    ret v) (fun fin s' => ∃ v, fin = Fin.done (Flow.ret v) ∧ ∃ T' r, s'.TypeIs v T' ∧ typeLookup (Value.type T') (Str.ofString "__next__") = pure (some r) ∧ SetWalk X A s a es.toList v s') Never s := by
  intro r sl h0 hx hr hr2 hout
  refine wpAny_bind (wpAny_pure ?_)
  refine wpAny_bind (wpAny_setEpoch_of g hd T.fits ?_)
  refine wpAny_bind (wpAny_newObj_type (wpAny_pure ⟨_, rfl, "set_iterator", _, ⟨_, Heap.get?_push_size _ rfl, rfl⟩, si_slot.lookup, ?_⟩))
  refine ⟨s.heap.objs.size, _, _, es.size, _, _, rfl, walk_plain sl r hh (Ne.symm (Nat.ne_of_lt hla)) hd T.fits rfl hx hr hr2, ⟨⟨_, Heap.get?_push_size _ rfl, rfl, ?_⟩, Heap.get?_push_of_some _ g⟩, fun b hb => ?_, hs16, fun b hb => ?_, fun b hb => ?_, fun b o e => Heap.get?_push_of_some _ e, rfl, rfl, hout⟩
  ·rw [h0]; rfl
  ·rw [Heap.size_push]
   rcases List.mem_cons.mp hb with rfl | hb
   ·exact Nat.lt_succ_self _
   ·rw [List.mem_singleton.mp hb]; exact Nat.lt_succ_of_lt hla
  ·rw [List.mem_singleton.mp hb]; exact fresh_none _
  ·rcases List.mem_cons.mp hb with rfl | hb
   ·exact .inl (fresh_none _)
   ·exact .inr (List.mem_singleton.mp hb)
 cases hbt : X.w.params.followText "set-order" with
 | true =>
  rw [show X.M.w.params.followText "set-order" = true from hbt]
  rw [if_neg (by simp)]
  have hp := pick_perm (X.w.params.setOrder a ep) es
  generalize hxs : pickOrder (X.w.params.setOrder a ep) es = xs at hp
  have hsz : xs.size = es.size := by rw [← Array.length_toList, hp.length_eq, Array.length_toList]
  refine plainEnd (fun i => (xs[i]?).map fun e => (e.2, 0)) (fun _ => 0) rfl ?_ ?_ ?_ ?_
  ·intro i s₁ E' Q' g1 q
   unfold setNext
   refine wpAny_bind (wpAny_setState_of g1 hd T.fits ?_)
   dsimp only
   refine wpAny_bind (setsText ?_)
   rw [show X.M.w.params.followText "set-order" = true from hbt, if_pos rfl, if_neg (by simp)]
   refine wpAny_bind ?_
   unfold setWalk
   refine wpAny_bind (wpAny_setState_of g1 hd T.fits ?_)
   dsimp only
   refine wpAny_bind (setsText ?_)
   rw [show X.M.w.params.followText "set-order" = true from hbt, if_pos rfl]
   refine wpAny_bind (wpAny_askSetting (wpAny_pure ?_))
   refine wpAny_pure ?_
   rw [show X.M.w.params.setOrder a ep = X.w.params.setOrder a ep from rfl, hxs]
   exact q
  ·intro i hi
   exact ⟨(xs[i]'(by exact Nat.lt_of_lt_of_le hi (Nat.le_of_eq hsz.symm))).2, by rw [Array.getElem?_eq_getElem (by exact Nat.lt_of_lt_of_le hi (Nat.le_of_eq hsz.symm))]; rfl⟩
  ·show (xs[es.size]?).map _ = none
   rw [Array.getElem?_eq_none (by exact Nat.le_of_eq hsz)]; rfl
  ·intro acc hacc
   refine items_perm (vs := xs.toList.map (·.2)) hacc (by simp [hsz]) (fun i v ⟨nx, e⟩ => ?_) (hp.map _)
   rw [List.getElem?_map, Array.getElem?_toList]
   cases q : xs[i]? with
   | none => rw [q] at e; exact nso e
   | some y => rw [q] at e; cases e; rfl
 | false =>
  rw [show X.M.w.params.followText "set-order" = false from hbt]
  show wpAny _ _ (if (!false && (!t.plain && decide (es.size > 1))) = true then _ else _) _ _ s
  have hled : t.led = true := by rw [T.led, ledIn, hbt]; rfl
  by_cases h1 : es.size > 1
  ·have hpl : t.plain = false := T.plain (by lia)
   rw [if_pos (by simp [hpl, h1])]
   refine wpAny_bind (draw_perm es.size (List.range es.size) (by simp) fun ps dr hps => ?_)
   refine wpAny_bind (wpAny_newObj_type ?_ (by show (ps.map _).toArray.size ≤ sizeLine; simp [hps.length_eq]; exact hs16))
   have gT : (s.heap.push { cls := .type "tuple", data := .seq (ps.map fun (j : Nat) => rawInt (j : Int)).toArray }).get? s.heap.objs.size = some { cls := .type "tuple", data := .seq (ps.map fun (j : Nat) => rawInt (j : Int)).toArray } := Heap.get?_push_size _ rfl
   refine wpAny_bind (wpAny_setEpoch_of (s := { s with heap := _, drawn := dr }) (Heap.get?_push_of_some _ g) hd T.fits ?_)
   refine wpAny_bind (wpAny_newObj_type (wpAny_pure ⟨_, rfl, "set_iterator", _, ⟨_, Heap.get?_push_size _ rfl, rfl⟩, si_slot.lookup, ?_⟩))
   have hz : (s.heap.push { cls := .type "tuple", data := .seq (ps.map fun (j : Nat) => rawInt (j : Int)).toArray }).objs.size = s.heap.objs.size + 1 := Heap.size_push ..
   have hI1 : s.heap.get? (s.heap.push { cls := .type "tuple", data := .seq (ps.map fun (j : Nat) => rawInt (j : Int)).toArray }).objs.size = none := by
    rw [hz]
    cases q : s.heap.get? (s.heap.objs.size + 1) with
    | none => rfl
    | some o => exact absurd (Heap.lt_size q) (Nat.not_lt.mpr (Nat.le_succ _))
   have hl : ps.length = es.size := by rw [hps.length_eq]; simp
   refine ⟨_, _, _, es.size, _, _, rfl, walk_drawn (T := s.heap.objs.size) hh ?_ ?_ hd T.fits rfl (ps := ps) rfl (fun j hj => by simpa using hps.mem_iff.mp hj) hl, ⟨⟨_, Heap.get?_push_size _ rfl, rfl, rfl⟩, Heap.get?_push_of_some _ (Heap.get?_push_of_some _ g), Heap.get?_push_of_some _ gT⟩, fun b hb => ?_, hs16, fun b hb => ?_, fun b hb => ?_, fun b o e => Heap.get?_push_of_some _ (Heap.get?_push_of_some _ e), rfl, rfl, fun acc hacc => ?_⟩
   ·show (s.heap.push _).objs.size ≠ a
    rw [hz]; exact Nat.ne_of_gt (Nat.lt_succ_of_lt hla)
   ·show (s.heap.push _).objs.size ≠ _
    rw [hz]; exact Nat.succ_ne_self _
   ·show b < ((s.heap.push _).push _).objs.size
    rw [Heap.size_push, hz]
    rcases List.mem_cons.mp hb with rfl | hb
    ·show (s.heap.push _).objs.size < _
     rw [hz]; exact Nat.lt_succ_self _
    ·rcases List.mem_cons.mp hb with rfl | hb
     ·exact Nat.lt_succ_of_lt (Nat.lt_succ_of_lt hla)
     ·rw [List.mem_singleton.mp hb]; exact Nat.lt_succ_of_lt (Nat.lt_succ_self _)
   ·rw [List.mem_singleton.mp hb]; exact hI1
   ·rcases List.mem_cons.mp hb with rfl | hb
    ·exact .inl hI1
    ·rcases List.mem_cons.mp hb with rfl | hb
     ·exact .inr rfl
     ·rw [List.mem_singleton.mp hb]; exact .inl (fresh_none _)
   ·refine items_perm (vs := ps.map fun j => (es.getD j (0, .none)).2) hacc (by simpa using hl) (fun i v ⟨j, p, e1, e2⟩ => ?_) ?_
    ·rw [List.getElem?_map, e1]; simp [Array.getD_eq_getD_getElem?, e2]
    ·refine (hps.map _).trans (List.Perm.of_eq ?_)
     apply List.ext_getElem?
     intro i
     by_cases hi : i < es.size
     ·simp [hi, Array.getD_eq_getD_getElem?]
     ·simp [hi]
  ·rw [if_neg (by simp; intro _; lia)]
   have hpz : t.place.size = es.size := by
    have := T.fits
    simp only [SetTable.fits, Bool.and_eq_true, beq_iff_eq] at this
    exact this.1
   have hsn : ∀ (sl i : Nat) (s : Shared) (E' : Value → Shared → Prop) (Q' : Option (Value × Nat) → Shared → Prop), s.heap.get? a = some o → Q' (match es[SetTable.below t.place sl]?, t.place[SetTable.below t.place sl]? with | some (_, x), some j => some (x, j + 1) | _, _ => none) s → wpAny X.M A.in1 (setNext a sl i ep) Q' E' s := by
    intro sl i s₁ E' Q' g1 q
    unfold setNext
    refine wpAny_bind (wpAny_setState_of g1 hd T.fits ?_)
    dsimp only
    refine wpAny_bind (setsText ?_)
    rw [show X.M.w.params.followText "set-order" = false from hbt, if_neg (by simp)]
    show wpAny _ _ (if (!t.plain && decide (es.size > 1)) = true then _ else _) _ _ _
    rw [if_neg (by simp; intro _; lia)]
    refine wpAny_bind ?_
    show wpAny _ _ (if (!t.led && !es.isEmpty) = true then _ else _) _ _ _
    rw [if_neg (by simp [hled])]
    refine wpAny_pure (wpAny_pure q)
   by_cases h0 : es.size = 0
   ·have e0 : es = #[] := Array.size_eq_zero_iff.mp h0
    refine plainEnd (fun _ => none) (fun _ => 0) rfl (fun i s₁ E' Q' g1 q => hsn 0 i s₁ E' Q' g1 (by rw [e0]; simpa using q)) (fun i hi => by lia) rfl (fun acc hacc => ?_)
    have : acc = #[] := Array.size_eq_zero_iff.mp (by rw [hacc.1, h0])
    rw [this, e0]; exact .refl _
   ·obtain ⟨e, he⟩ : ∃ e, es = #[e] := by
     have h2 : es.size = 1 := by lia
     exact Array.size_eq_one_iff.mp h2
    obtain ⟨j, hj⟩ : ∃ j, t.place = #[j] := Array.size_eq_one_iff.mp (by rw [hpz, he]; rfl)
    obtain ⟨h, x⟩ := e
    have hz1 : es.size = 1 := by rw [he]; rfl
    refine plainEnd (fun i => if i = 0 then some (x, j + 1) else none) (fun i => if i = 0 then 0 else j + 1) rfl (fun i s₁ E' Q' g1 q => ?_) (fun i hi => ?_) (by simp [hz1]) (fun acc hacc => ?_)
    ·refine hsn _ i s₁ E' Q' g1 ?_
     by_cases hi : i = 0
     ·subst hi
      rw [hj, he]
      simpa [SetTable.below, SetTable.below.go] using q
     ·simp only [hi, if_false] at q ⊢
      rw [hj, he]
      simpa [SetTable.below, SetTable.below.go] using q
    ·have : i = 0 := by lia
     subst this
     exact ⟨x, by simp⟩
    ·refine items_perm (vs := [x]) hacc (by rw [hz1]; rfl) (fun i v ⟨nx, q⟩ => ?_) (by rw [he]; exact .refl _)
     by_cases hi : i = 0
     ·subst hi; simp at q; simp [q.1]
     ·simp [hi] at q
theorem collect_set {a : Addr} {l : List Str} {QQ : List Value → Shared → Prop} (hh : A.handled = none) (hS : SetI X s.heap a l) (hb : l.length < 4000)
  (h : ∀ vs ss s', StrsAre vs ss → ss.Perm l → (∀ b o, s.heap.get? b = some o → s'.heap.get? b = some o) → s'.gens = s.gens → s'.os = s.os → QQ vs s') : wpAny X.M A (collect (.ref a)) QQ Never s := by
 obtain ⟨o, es, ep, t, g, ex, hd, T, L⟩ := hS
 have hn : es.size = l.length := by rw [← Array.length_toList]; exact L.len
 have hla := Heap.lt_size g
 unfold collect
 refine wpAny_bind (wpAny_runValue (codeAny_builtin F.entry_proto_collect ?_))
 rw [Around.under_plainId F.plain_proto_collect _]
 show wpAny _ A.in1 (newList [] >>= fun l => again (.builtin "list.__iadd__" ⟨[l, .ref a], []⟩)) _ _ s
 refine wpAny_bind (wpAny_newObj_type ?_)
 refine wpAny_pure ⟨plainId_quiet F.plain_list_iadd _, codeAny_builtin F.entry_list_iadd ?_⟩
 rw [Around.under_plainId F.plain_list_iadd _]
 have hSa : s.heap.objs.size ≠ a := Ne.symm (Nat.ne_of_lt hla)
 have h1 : Builtin.List.listSameRef (.ref s.heap.objs.size) (.ref a) = false := by simp [Builtin.List.listSameRef, hSa]
 show wpAny _ A.in1 (Builtin.List.listExtendWith (.ref s.heap.objs.size) (.ref a) (.ref s.heap.objs.size)) _ _ _
 unfold Builtin.List.listExtendWith
 have hS₁ : (s.heap.push { cls := .type "list", data := .seq ([] : List Value).toArray }).get? s.heap.objs.size = some { cls := .type "list", data := .seq ([] : List Value).toArray } := Heap.get?_push_size _ rfl
 generalize hH : s.heap.push { cls := .type "list", data := .seq ([] : List Value).toArray } = H at hS₁ ⊢
 have g1 : H.get? a = some o := hH ▸ Heap.get?_push_of_some _ g
 have hT : Shared.TypeIs { s with heap := H } (.ref a) "set" := ⟨o, g1, ex.1⟩
 refine wpAny_bind (wpAny_typeOf hT ?_)
 rw [if_neg (by rw [h1]; decide)]
 refine wpAny_bind (wpAny_mono (set_iter (s := { s with heap := H }) hh g1 ex hd T (by exact lelt_c (Nat.le_trans (Nat.le_of_eq hn) (Nat.le_of_lt hb)) rfl)) ?_ (fun _ _ x => x.elim))
 rintro _ s₂ ⟨I, fp, wr, n, PP, St, rfl, W, j, fl, hsz, nw, nf, k, gg, os, out⟩
 refine wpAny_bind (wpAny_holding ?_)
 unfold Builtin.List.listLengthHint
 have hT2 : s₂.TypeIs (.ref a) "set" := ⟨o, k _ _ g1, ex.1⟩
 refine wpAny_bind (wpAny_specialOf hT2 set_len_look ?_)
 wp_delta
 refine wpAny_bind (wpAny_isInstance (b := true) hT2 sub_set_self ?_)
 show wpAny _ A.in1 (typeOf (Value.ref a) >>= _) _ _ _
 refine wpAny_bind (wpAny_typeOf hT2 ?_)
 refine wpAny_pure ?_
 rw [if_pos (by decide)]
 refine wpAny_bind (wpAny_rule ?_)
 have hS₁' := k _ _ hS₁
 refine wpAny_bind ?_
 show wpAny _ A.in1 (updateSeq s.heap.objs.size (·.push .none) >>= fun _ => updateSeq s.heap.objs.size (·.pop)) _ _ _
 refine wpAny_bind (wpAny_updateSeq hS₁' rfl ?_)
 have hS₂ := Heap.get?_update_self (Obj.mapSeq (·.push Value.none)) hS₁' rfl
 refine wpAny_updateSeq hS₂ rfl ?_
 have hS₃ := Heap.get?_update_self (Obj.mapSeq (·.pop)) hS₂ rfl
 have oth : ∀ b o, b ≠ s.heap.objs.size → s₂.heap.get? b = some o → ((s₂.heap.update s.heap.objs.size (Obj.mapSeq (·.push Value.none))).update s.heap.objs.size (Obj.mapSeq (·.pop))).get? b = some o :=
  fun b o hb e => (Heap.get?_update_other _ _ (Ne.symm hb)).trans ((Heap.get?_update_other _ _ (Ne.symm hb)).trans e)
 have hSf : s.heap.objs.size ∉ fp := fun z => by
  rcases nf _ z with q | q
  ·have q : H.get? s.heap.objs.size = none := q
   rw [hS₁] at q; exact sno q
  ·exact hSa q
 refine wpAny_pure ⟨plainId_quiet F.plain_extend_loop _, codeAny_extend_loopS W.toS hsz _ hSf _ n 0 _ _ _ rfl (Nat.zero_le _) (W.frame 0 _ _ j fun b hb o e => oth b o (fun h => hSf (h ▸ hb)) e) hS₃ (ItemsOf.nil PP) fun s' acc' c' hm hS' hacc => ?_⟩
 show wpAny _ A (load s.heap.objs.size >>= _) _ _ s'
 refine wpAny_bind (wpAny_load hS' ?_)
 obtain ⟨ss, h2, h3⟩ := L.strs (out acc' hacc)
 refine wpAny_pure (h _ ss s' h2 h3 (fun b o e => ?_) (hm.gens.trans gg) (hm.os.trans os))
 have hlt := Heap.lt_size e
 have e1 : H.get? b = some o := hH ▸ Heap.get?_push_of_some _ e
 refine hm.heap b o (fun z => ?_) (oth b o (Nat.ne_of_lt hlt) (k _ _ e1))
 rcases List.mem_cons.mp z with z | z
 ·exact Nat.lt_irrefl _ (z ▸ hlt)
 ·have := nw b z
  have q : H.get? b = none := this
  rw [e1] at q; exact sno q
theorem sorted_set {a : Addr} {l : List Str} {QQ : Value → Shared → Prop} (hh : A.handled = none) (hS : SetI X s.heap a l) (hb : l.length < 64)
  (h : ∀ r n (out : Array Value) s', s'.heap.get? r = some (seqObj "list" out n) → s.heap.get? r = none → StrsAre out.toList (sortS l) → (∀ b o, s.heap.get? b = some o → s'.heap.get? b = some o) → s'.gens = s.gens → s'.os = s.os → QQ (.ref r) s') :
  wpAny X.M A (call (.builtin "sorted") [.ref a]) QQ Never s := by
 refine Calls.call_function_entry kind_sorted plain_sorted entry_sorted (args_sorted1 _) ?_
 unfold Builtin.«sorted»
 refine wpAny_bind (m := checkCount "sorted" 1 1 _) (wpAny_pure ?_)
 refine wpAny_bind (collect_set (A := A.in1) hh hS (by exact lelt_c (Nat.le_of_lt hb) rfl) fun vs ss s₁ hv hp hk hg ho => ?_)
 have hvl : vs.length = ss.length := by have := (strs_rpAll (X := X) (b := s.heap) hv).length; simpa using this
 have h64 : vs.length < 64 := by rw [hvl, hp.length_eq]; exact hb
 refine wpAny_bind (wpAny_newList ?_ (hsz := by rw [sizeLine_eq]; exact le_c (Nat.le_of_lt h64) rfl))
 have hoL : (s₁.heap.push (seqObj "list" vs.toArray 0)).get? s₁.heap.objs.size = some (seqObj "list" vs.toArray 0) := Heap.get?_push_size _ rfl
 have hlt : ∀ b o, s₁.heap.get? b = some o → b ≠ s₁.heap.objs.size := fun b o e => Nat.ne_of_lt (Heap.lt_size e)
 refine wpAny_bind (wpAny_holding (wpAny_call_entry slot_list_sort ⟨_, hoL, rfl⟩ entry_list_sort (list_sort_treeK strKind_oneLt hoL hv.keysOf (fun v₁ v₂ rest e => keyKind_strs (by rw [← e]; exact hv)) h64 fun st' a1 a2 => ⟨_, rfl, ?_⟩) (args_list_sort _)))
 refine hide ?_; intro g; obtain ⟨ss', h1, h2, h3⟩ := sorted_out_str hv a1 a2; dsimp only [g]
 obtain ⟨e, he⟩ := sortedHeap_at (vs := vs) (out := (arrOf st').map (·.2)) hoL
 have hs : ss' = sortS l := sortS_of (h2.trans hp) h3
 refine wpAny_pure ⟨_, rfl, h s₁.heap.objs.size e _ _ he ?_ (hs ▸ h1) (fun b o q => ?_) hg ho⟩
 ·cases q : s.heap.get? s₁.heap.objs.size with
  | none => rfl
  | some o => exact absurd (Heap.lt_size (hk _ _ q)) (Nat.lt_irrefl _)
 ·have q1 := hk b o q
  have hb' := Heap.lt_size q1
  rw [sortedHeap_old (Nat.ne_of_lt hb') (by rw [Heap.size_push]; exact Nat.lt_succ_of_lt hb')]
  exact Heap.get?_push_of_some _ q1
theorem ev_sortset {f1 f2 e : Expr} {p1 p2 : Pos} (hh : A.handled = none)
  (h : Ev X A env σ f1 (fun d σ₁ => d = .raw (.builtin "sorted") ∧ Ev X A env σ₁ f2 (fun d2 σ₂ => d2 = .raw (.type "set") ∧ Ev X A env σ₂ e (fun d3 σ₃ =>
   ∃ ss : List Str, Lst X σ₃ d3 (ss.map .str) ∧ (setS ss).length < 64 ∧ P (.list ((sortS (setS ss)).map .str)) σ₃))))
  (he1 : eval (.Call f1 [.Call f2 [e] [] p2] [] p1) env = (do callWith p1 (← eval f1 env) [] (backTo p1 (starEach [.Call f2 [e] [] p2] env)) (backToKw p1 (keywordEach [] env))))
  (he2 : eval (.Call f2 [e] [] p2) env = (do callWith p2 (← eval f2 env) [] (backTo p2 (starEach [e] env)) (backToKw p2 (keywordEach [] env))))
  (hst : starEach [e] env = (false, eval e env) :: starEach [] env) : Ev X A env σ (.Call f1 [.Call f2 [e] [] p2] [] p1) P := fun s b S => by
 refine Call_ (wpAny_mono (h s b S) ?_ (fun _ _ x => x)) he1
 rintro v₁ s₁ ⟨d₁, σ₁, b₁, E₁, S₁, r₁, rfl, h₁⟩
 obtain rfl := r₁.i_raw
 refine PyProof.Rows.callWith_builtin1 (args_cons ?_ rfl) rfl rfl
 refine Call_ (wpAny_mono (h₁ s₁ b₁ S₁) ?_ (fun _ _ x => x)) he2
 rintro v₂ s₂ ⟨d₂, σ₂, b₂, E₂, S₂, r₂, rfl, h₂⟩
 obtain rfl := r₂.i_raw
 refine PySem.Pv.callWith_type1 (args_cons (wpAny_mono (h₂ s₂ b₂ S₂) ?_ (fun _ _ x => x)) hst) hst rfl
 rintro v₃ s₃ ⟨d₃, σ₃, b₃, E₃, S₃, r₃, ss, hl, h2, hp⟩
 refine args_nil ?_
 obtain ⟨a, vs, k, rfl, g, ra⟩ := hl.at S₃ r₃
 refine call_setS hh (isList_of g) (rpAll_strs ra) (by unfold scanBound; exact lelt_c (Nat.add_le_add_right (Nat.le_of_lt h2) _) rfl) fun h₄ tk hI hk => ?_
 refine args_nil ?_
 refine sorted_set (s := { s₃ with heap := h₄, toks := tk }) hh hI h2 fun r n out s₅ g5 n5 h5 k5 gg oo => ?_
 have hle : Le s₃.heap s₅.heap := fun b o e => k5 b o (hk b o e)
 have hn : s₃.heap.get? r = none := by
  cases q : s₃.heap.get? r with
  | none => rfl
  | some o => have := hk _ _ q; have n5 : h₄.get? r = none := n5; rw [this] at n5; exact sno n5
 have hbh : Le b₃ s₅.heap := S₃.hp.le.trans hle
 obtain ⟨S₄, E₄⟩ := S₃.extend (h' := s₅.heap) (b' := grow b₃ s₅.heap (· == r)) (tk := s₅.toks) hle (grow_le hbh) grow_in (fun y o q => by
  rcases grow_new q with z | z
  ·exact .inl z
  ·exact .inr (by rw [beq_iff_eq.mp z]; exact hn))
 have es : s₅ = { s₃ with heap := s₅.heap, toks := s₅.toks, drawn := s₅.drawn } := by
  obtain ⟨_, _, _, _, _⟩ := s₅
  dsimp only at gg oo ⊢
  rw [gg, oo]
 refine ⟨.list ((sortS (setS ss)).map .str), σ₃, _, ((E₁.trans E₂).trans E₃).trans (?_ : Evo X env σ₃ σ₃ s₃ b₃ s₅ (grow b₃ s₅.heap (· == r))), ?_, .list (grow_get (by simp) g5) (strs_rpAll h5), hp⟩
 ·exact ⟨⟨E₄.ext.keep, E₄.ext.le, E₄.ext.new, E₄.ext.live, oo, gg⟩, E₄.dom⟩
 ·exact ⟨S₄.ok, ⟨S₄.hp.le, S₄.hp.cell, S₄.hp.out, S₄.hp.nod, S₄.hp.top⟩, S₄.fm, S₄.fa, S₄.fr⟩
end
section
variable {w : World} {mg mb : Str → Option Value} {fr : List Env} {A : Around} {env : Env} {σ : Sg} {P : D → Sg → Prop} {Q : Fl → Sg → Prop}
theorem deq_self {n : Nat} {x : D} (h : okd n x = true) : deq x x = true := PySem.SeqAt.eqv_refl _ (okd_lay n x h).1
theorem ok_strL {l : List Str} (h : ∀ s ∈ l, PyData.strOk s = true) : okd 1 (.list (l.map .str)) = true := by
 show (l.map D.str).all (okd 0) = true
 exact ok_strs h 0
noncomputable def usedOf (l : List CPr) : List Nat := l.flatMap fun q => q.2
noncomputable def frontOf (l : List CPr) : List Nat := (l.filter fun q => q.1 == 83).flatMap fun q => q.2
noncomputable def reachOf (l : List CPr) : List Nat := if 65 ∈ frontOf l then usedOf l else frontOf l
noncomputable def lostOf (host : List CPr) (U1 : List Str) : List Str := (if 65 ∈ frontOf host then [] else [("A" : Str)]) ++ (if 84 ∈ reachOf host then U1 else [("T" : Str), "B"])
noncomputable def knownOf (D1 : List Str) : List Nat := [97, 98] ++ (if ("T" : Str) ∈ D1 then [] else [84])
noncomputable def endlessOf (host : List CPr) (D1 : List Str) : List Str := ([83, 65].filter fun c => !decide (c ∈ closN host 2 (knownOf D1))).map symS ++ D1
noncomputable def loneRows (qs : List CPr) (start : Nat) : List CPr := ((lhsOrd qs).filter (lone qs start)).map (rowOf qs)
noncomputable def uselessOf (host part : List CPr) : List CPr := ((if 65 ∈ usedOf host then [] else [host.getD 1 (0, [])]) ++ (if 84 ∈ usedOf host ++ usedOf part then [] else [part.getD 0 (0, [])])) ++ loneRows part 84
structure Others (host part whole : List CPr) : Prop where
 hok : HostOk host
 hostl : 2 ≤ host.length
 prows : Rows part
 plen : ∀ q ∈ part, q.2.length ≤ 3
 pl : 1 ≤ part.length ∧ part.length ≤ 7
 lost : ∀ U1 U2 : List Str, U1.Nodup → (∀ x, x ∈ U1 ↔ ∃ c ∈ [84, 66], x = symS c ∧ ¬ Rc part 84 c) → U2.Nodup → (∀ x, x ∈ U2 ↔ ∃ c ∈ NTs, x = symS c ∧ ¬ Rc whole 83 c) → U2.Perm (lostOf host U1)
 ends : ∀ U1 U2 : List Str, U1.Nodup → (∀ x, x ∈ U1 ↔ ∃ c ∈ [84, 66], x = symS c ∧ ¬ Tm part c) → U2.Nodup → (∀ x, x ∈ U2 ↔ ∃ c ∈ NTs, x = symS c ∧ ¬ Tm whole c) → U2.Perm (endlessOf host U1)
 tok1 : ∀ c, idle part c = !decide (c ∈ usedOf part)
 tok2 : ∀ c, idle whole c = !decide (c ∈ usedOf host ++ usedOf part)
 rules : ∃ j1 j2, rowsLt ((loneRows whole 83).map fun q => symS q.1) = some j1 ∧ rowsLt ((uselessOf host part).map fun q => symS q.1) = some j2 ∧ pickV (loneRows whole 83) j1 = pickV (uselessOf host part) j2
theorem used_len {l : List CPr} (h : ∀ q ∈ l, q.2.length ≤ 3) : (usedOf l).length ≤ 3 * l.length := by
 induction l with
 | nil => simp [usedOf]
 | cons q r ih =>
  have h1 := ih fun x hx => h x (.tail _ hx)
  have h2 := h q (.head _)
  simp only [usedOf, List.flatMap_cons, List.length_append, List.length_cons] at h1 ⊢
  lia
theorem used_sym {l : List CPr} (h : ∀ q ∈ l, q.ok) : ∀ c ∈ usedOf l, c ∈ symCodes := fun c hc => by
 obtain ⟨q, hq, h2⟩ := List.mem_flatMap.mp hc
 exact (h q hq).2 c h2
theorem front_used (l : List CPr) : ∀ c ∈ frontOf l, c ∈ usedOf l := fun c hc => by
 obtain ⟨q, hq, h2⟩ := List.mem_flatMap.mp hc
 exact List.mem_flatMap.mpr ⟨q, (List.mem_filter.mp hq).1, h2⟩
theorem front_len {l : List CPr} (h : ∀ q ∈ l, q.2.length ≤ 3) : (frontOf l).length ≤ 3 * l.length := by
 have h1 := used_len (l := l.filter fun q => q.1 == 83) fun q hq => h q (List.mem_filter.mp hq).1
 have h2 := List.length_filter_le (fun q : CPr => q.1 == 83) l
 show (usedOf _).length ≤ _
 lia
theorem str_ok4 : ∀ c ∈ NTs, PyData.strOk (symS c) = true := by decide +kernel
theorem toks_sorted (qs : List CPr) : sortS ((TSs.filter (idle qs)).map symS) = (TSs.filter (idle qs)).map symS := by
 refine (sortS_of (.refl _) ?_).symm
 simp only [TSs, List.filter_cons, List.filter_nil]
 cases idle qs 97 <;> cases idle qs 98 <;> cases idle qs 99 <;> decide +kernel
theorem lhsOrd_mem {c : Nat} : ∀ {qs : List CPr}, c ∈ lhsOrd qs → ∃ q ∈ qs, q.1 = c := fun {qs} h => by
 revert h
 refine snoc_ind (motive := fun qs => c ∈ lhsOrd qs → ∃ q ∈ qs, q.1 = c) qs (fun h => by cases h) fun ps q ih h => ?_
 rw [lhsOrd_snoc] at h
 split at h
 ·obtain ⟨x, hx, e⟩ := ih h; exact ⟨x, by simp [hx], e⟩
 ·rcases List.mem_append.mp h with h | h
  ·obtain ⟨x, hx, e⟩ := ih h; exact ⟨x, by simp [hx], e⟩
  ·exact ⟨q, by simp, (List.mem_singleton.mp h).symm⟩
theorem lhsOrd_len (qs : List CPr) : (lhsOrd qs).length ≤ qs.length := by
 refine snoc_ind (motive := fun qs => (lhsOrd qs).length ≤ qs.length) qs (Nat.le_refl _) fun ps q ih => ?_
 rw [lhsOrd_snoc, List.length_append]
 split
 ·exact Nat.le_trans ih (Nat.le_add_right _ _)
 ·rw [List.length_append]; simpa using ih
theorem rowOf_mem {qs : List CPr} {c : Nat} (h : ∃ q ∈ qs, q.1 = c) : rowOf qs c ∈ qs := by
 unfold rowOf
 cases e : qs.find? fun q => q.1 == c with
 | some q => exact List.mem_of_find?_eq_some e
 | none =>
  obtain ⟨q, hq, hc⟩ := h
  have := List.find?_eq_none.mp e q hq
  simp [hc] at this
noncomputable def kvQ (q : CPr) : Str × D := (symS q.1, rowD q.2)
theorem qD_kv (l : List CPr) : l.map qD = (l.map kvQ).map kvD := by rw [List.map_map]; rfl
theorem okQs {l : List CPr} (h : ∀ q ∈ l, q.ok) : okd 3 (.list (l.map qD)) = true := by
 show (l.map qD).all (okd 2) = true
 rw [List.all_map]
 refine List.all_eq_true.mpr fun q hq => ?_
 show [sD q.1, rowD q.2].all (okd 1) = true
 rw [List.all_cons, okSy 1 (h q hq).1, List.all_cons]
 show ((q.2.map sD).all (okd 0) && true) = true
 rw [okSys 0 (h q hq).2]; rfl
set_option maxHeartbeats 4000000
theorem others_ok {host part whole : List CPr} {d1 d2 : Addr} {TT1 NT1 PN1 TT2 NT2 PN2 : List NE} {fi1 fo1 us1 fi2 fo2 us2 : D} {k : Nat} (R : ARoom (k + 21) A) (O : Others host part whole) (H1 : Gram part [84, 66] 84) (T1 : Told part 84 TT1 NT1 PN1) (H2 : Gram whole NTs 83) (T2 : Told whole 83 TT2 NT2 PN2)
  (hs1 : (d1, C.dct (grF part 84 TT1 NT1 PN1 fi1 fo1 us1)) ∈ σ.ω) (hs2 : (d2, C.dct (grF whole 83 TT2 NT2 PN2 fi2 fo2 us2)) ∈ σ.ω) (hT : (176, C.raw (TabI markP markQ)) ∈ σ.ω) (p : P (.bool true) σ) :
  OpL (X3 w mg mb fr) A env σ (fun vs => call (.ref 298) vs) [.obj aGr d2, .obj aGr d1, qsD host, qsD part] P := by
 refine fn_call (dbs := [("whole", .obj aGr d2), ("alone", .obj aGr d1), ("host", qsD host), ("part", qsD part)]) ⟨⟨_, _, _, rfl⟩, rfl, rfl, rfl, rfl, rfl, rfl, rfl, rfl, rfl, rfl, rfl, rfl⟩ R.room ?_ rfl rfl ?_
 ·intro s b vs T hb r
  obtain ⟨v1, _, rfl, r1, r⟩ := r.inv
  obtain ⟨v2, _, rfl, r2, r⟩ := r.inv
  obtain ⟨v3, _, rfl, r3, r⟩ := r.inv
  obtain ⟨v4, _, rfl, r4, r⟩ := r.inv
  obtain rfl := r.inv0
  exact ⟨_, BindsTo.of_eq rfl, .cons r1 (.cons r2 (.cons r3 (.cons r4 .nil)))⟩
 ·intro L
  have hsl' := hsl
  have R' : ∀ e, ARoom (k + 20) (A.deeper e) := fun e => R.deeper
  have hH := O.hok
  have hfew := hH.few
  have hul := used_len hH.len
  have hfl := front_len hH.len
  have hus := used_sym hH.rows.ok
  try dsimp only
  refine exs_let ?_; intro X' A' e' q'
  refine exs_cons (ex_lc2 host qD (fun _ => true) (fun q => q.2.map sD) (by rfl) (by rw [filter_all, ← List.map_flatMap, List.length_map]; show (usedOf host).length ≤ _; exact le_s (Nat.le_trans hul (Nat.mul_le_mul_left _ hfew)) rfl) (fun _ => rfl) (fun _ _ => rfl) (fun _ _ => rfl) (fun _ _ => rfl) rfl rfl rfl rfl ?_ ?_ ?_)
  ·refine src_of ?_
   walk_at "m"
   exact ⟨itb_list R.hd, rfl, rfl⟩
  ·intro cl Ca acc pre q post hsp
   unfold qD
   refine asg_tup2 R.hd rfl rfl (ts_nil ⟨rfl, rfl, fun _ => src_of ?_⟩)
   walk_at "m"
   exact ⟨itb_list R.hd, rfl⟩
  rw [filter_all, ← List.map_flatMap]
  show QSeq _ _ _ _ _ _ ⟨("used", rowD (usedOf host)) :: _, _⟩
  refine exs_cons (ex_lc2 host qD (fun q => q.1 == 83) (fun q => q.2.map sD) (by rfl) (by rw [← List.map_flatMap, List.length_map]; show (frontOf host).length ≤ _; exact le_s (Nat.le_trans hfl (Nat.mul_le_mul_left _ hfew)) rfl) (fun _ => rfl) (fun _ _ => rfl) (fun _ _ => rfl) (fun _ _ => rfl) rfl rfl rfl rfl ?_ ?_ ?_)
  ·refine src_of ?_
   walk_at "m"
   exact ⟨itb_list R.hd, rfl, rfl⟩
  ·intro cl Ca acc pre q post hsp
   have hq : q ∈ host := by rw [hsp]; simp
   unfold qD
   refine asg_tup2 R.hd rfl rfl (ts_one ?_)
   walk_at "m"
   refine op_eq (n := 0) (x := sD q.1) (y := sD 83) (R' _) (okSy 0 (hH.rows.ok q hq).1) (okSy 0 (by decide)) (by decide) (ob_bool ⟨?_, rfl, fun _ => src_of ?_⟩)
   ·rw [deqSy]; rfl
   walk_at "m"
   exact ⟨itb_list R.hd, rfl⟩
  rw [← List.map_flatMap]
  show QSeq _ _ _ _ _ _ ⟨("front", rowD (frontOf host)) :: _, _⟩
  have hu := hus
  have hf' : ∀ c ∈ frontOf host, c ∈ symCodes := fun c hc => hus c (front_used host c hc)
  have inF : ∀ {env' : Env} {σ' : Sg} {PB : Bool → Sg → Prop}, PB (decide (65 ∈ frontOf host)) σ' → Op ((X3 w mg mb fr).push env') (A.deeper env') env' σ' (compareOp .In) (.str "A") (rowD (frontOf host)) (fun d σ₁ => OpB ((X3 w mg mb fr).push env') (A.deeper env') env' σ₁ truthy d PB) := fun {env' σ' PB} h => by
   refine op_in (n := 0) (x := sD 65) (R' _) .data (okSy 0 (by decide)) (okSys 0 hf') (by decide) (ob_bool ?_)
   rw [anySy]; exact h
  refine exs_cons (ex_assign (ev_cut (rowD (reachOf host)) ?_ ?_) rfl rfl)
  ·walk_at "m"
   refine inF ?_
   unfold reachOf
   by_cases h : 65 ∈ frontOf host
   ·refine ite_t (decide_eq_true h) ?_
    rw [if_pos h]
    walk_at "m"
    exact ⟨rfl, rfl⟩
   ·refine ite_f (decide_eq_false h) ?_
    rw [if_neg h]
    walk_at "m"
    exact ⟨rfl, rfl⟩
  refine exs_cons (ex_assign (ev_cut (strsD (if 65 ∈ frontOf host then [] else [("A" : Str)])) ?_ ?_) rfl rfl)
  ·walk_at "m"
   refine inF ?_
   by_cases h : 65 ∈ frontOf host
   ·refine ite_t (decide_eq_true h) ?_
    rw [if_pos h]
    exact ev_list (trl_nil ⟨Nat.le_of_ble_eq_true rfl, rfl, rfl⟩)
   ·refine ite_f (decide_eq_false h) ?_
    rw [if_neg h]
    refine ev_list ?_
    walk_at "m"
    exact ⟨rfl, rfl⟩
  have hreach : ∀ c ∈ reachOf host, c ∈ symCodes := fun c hc => by
   unfold reachOf at hc
   split at hc
   ·exact hu c hc
   ·exact hf' c hc
  let ρ1 : List (Str × D) := [("used", rowD (usedOf host)), ("whole", .obj aGr d2), ("alone", .obj aGr d1), ("host", qsD host), ("part", qsD part)]
  have sml : ∀ {l : List Str} {N : List Nat} {pr : Nat → Prop}, l.Nodup → (∀ x, x ∈ l ↔ ∃ c ∈ N, x = symS c ∧ pr c) → l.length ≤ N.length := fun {l N pr} hn hm => by
   have := nodup_len (U := N.map symS) hn fun x hx => by obtain ⟨c, hc, rfl, _⟩ := (hm x).mp hx; exact List.mem_map_of_mem hc
   simpa using this
  have okl : ∀ {l : List Str} {N : List Nat} {pr : Nat → Prop}, (∀ c ∈ N, c ∈ NTs) → (∀ x, x ∈ l ↔ ∃ c ∈ N, x = symS c ∧ pr c) → ∀ s ∈ l, PyData.strOk s = true := fun {l N pr} hN hm s hs => by
   obtain ⟨c, hc, rfl, _⟩ := (hm s).mp hs
   exact str_ok4 c (hN c hc)
  refine exs_cut (fun σ' => EA13 (fun U1 : List Str => U1.Nodup ∧ ∀ x, x ∈ U1 ↔ ∃ c ∈ [84, 66], x = symS c ∧ ¬ Rc part 84 c) (fun U1 => Sub σ'.ρ (("lost", strsD (lostOf host U1)) :: ρ1)) (fun U1 => σ'.ω = σ.ω)) ?_ ?_
  ·refine ex_assign ?_ rfl rfl
   walk_at "m"
   refine op_in (n := 0) (x := sD 84) (R' _) .data (okSy 0 (by decide)) (okSys 0 hreach) (by decide) (ob_bool ?_)
   rw [anySy]
   by_cases h : 84 ∈ reachOf host
   ·refine ite_t (decide_eq_true h) ?_
    refine ev_ometh0 ?_ rfl
    walk_at "m"
    refine ⟨aGr, _, 179, .cell hs1, rfl, rfl, ?_⟩
    refine unrC_ok (k := k) (R' _) H1 T1 hs1 hT fun U1 hn hm => ?_
    unfold strsD
    refine op_addl .data .data ?_ ?_
    ·have := sml hn hm; simp only [List.length_map, List.length_cons, List.length_nil] at this ⊢; split <;> simp <;> lia
    rw [← List.map_append]
    exact ⟨rfl, U1, ⟨hn, hm⟩, .cons (by rw [lostOf, if_pos h]; rfl) (.cons rfl (.cons rfl (.cons rfl (.cons rfl (.cons rfl .nil))))), rfl⟩
   ·refine ite_f (decide_eq_false h) ?_
    refine ev_list ?_
    walk_at "m"
    unfold strsD
    refine op_addl .data .data ?_ ?_
    ·simp only [List.length_map, List.length_cons, List.length_nil]; split <;> simp <;> exact le_s (Nat.le_refl _) rfl
    obtain ⟨U1, hn, hm⟩ : ∃ U1 : List Str, U1.Nodup ∧ ∀ x, x ∈ U1 ↔ ∃ c ∈ [84, 66], x = symS c ∧ ¬ Rc part 84 c := by
     classical
     refine ⟨([84, 66].filter fun c => decide (¬ Rc part 84 c)).map symS, ?_, fun x => ?_⟩
     ·exact List.Pairwise.map (R := (· ≠ ·)) symS (fun a b h z => h (symS_inj z)) (List.Pairwise.filter _ (by decide))
     ·simp only [List.mem_map, List.mem_filter, decide_eq_true_eq]
      exact ⟨fun ⟨c, ⟨h1, h2⟩, e⟩ => ⟨c, h1, e.symm, h2⟩, fun ⟨c, h1, e, h2⟩ => ⟨c, ⟨h1, h2⟩, e.symm⟩⟩
    exact ⟨rfl, U1, ⟨hn, hm⟩, .cons (by rw [lostOf, if_neg h, List.map_append]; rfl) (.cons rfl (.cons rfl (.cons rfl (.cons rfl (.cons rfl .nil))))), rfl⟩
  rintro ⟨ρ', ω'⟩ ⟨U1, ⟨hn1, hm1⟩, hsub, hω⟩
  dsimp only at hsub hω
  subst hω
  refine TrF.sub hsub ?_
  clear hsub
  refine exs_cons (ex_if (te_cmp (ev_callB (ev_blt rfl (by boot_fast) (by decide) rfl ⟨rfl, trl_cons (ev_ometh0 ?_ rfl) rfl⟩ rfl) rfl rfl rfl) rfl))
  walk_at "m"
  refine ⟨aGr, _, 179, .cell hs2, rfl, rfl, ?_⟩
  refine unrC_ok (k := k) (R' _) H2 T2 hs2 hT fun U2 hn2 hm2 => ?_
  have hp := O.lost U1 U2 hn1 hm1 hn2 hm2
  have l2 : U2.length ≤ 4 := sml hn2 hm2
  have o2 := okl (fun c h => h) hm2
  walk_at "m"
  refine ol_sortedF .data (by exact lelt_c l2 rfl) ?_
  refine ev_callB (ev_blt rfl (by boot_fast) (by decide) rfl ⟨rfl, ?_⟩ rfl) rfl rfl rfl
  walk_at "m"
  refine ol_sortedF .data (by rw [← hp.length_eq]; exact lelt_c l2 rfl) ?_
  rw [← sortS_congr hp]
  have okS : okd 1 (.list ((sortS U2).map .str)) = true := ok_strL fun s hs => o2 s (sortS_mem.mp hs)
  refine op_ne (n := 1) (R' _) okS okS (by decide) (ob_bool (ite_f (by rw [deq_self okS]; rfl) ?_))
  refine exs_nil ?_
  refine exs_cons (ex_assign (ev_ometh0 ?_ rfl) rfl rfl)
  walk_at "m"
  refine ⟨aGr, _, 186, .cell hs1, rfl, rfl, ?_⟩
  refine cycC_ok (k := k + 19) (R' _) H1 T1 hs1 fun D1 hd1 hdm1 => ?_
  have ld1 : D1.length ≤ 2 := sml hd1 hdm1
  have od1 := okl (by decide) hdm1
  have hkn : ∀ c ∈ knownOf D1, c ∈ symCodes := fun c hc => by
   unfold knownOf at hc
   rcases List.mem_append.mp hc with h | h
   ·simp at h; rcases h with rfl | rfl <;> decide
   ·split at h
    ·cases h
    ·rw [List.mem_singleton.mp h]; decide
  walk_at "m"
  refine ev_callO (ev_glob (v := .ref 269) rfl (fun _ _ => .raw _) rfl ⟨rfl, ?_⟩ rfl) rfl rfl rfl rfl
  refine trl_cons (ev_var rfl rfl (trl_cons (ev_cut (rowD (knownOf D1)) ?_ ?_) rfl) rfl rfl) rfl
  ·refine ev_bin (ev_list ?_)
   walk_at "m"
   refine op_in (n := 0) (x := sD 84) (R' _) .data (okSy 0 (by decide)) (ok_strs od1 0) (by decide) (ob_bool ?_)
   have e : ((D1.map D.str).any fun y => deq y (sD 84)) = decide (("T" : Str) ∈ D1) := by
    rw [show sD 84 = .str "T" from rfl, any_str]
    rw [Bool.eq_iff_iff, any_eq, decide_eq_true_iff]
   rw [e]
   by_cases h : ("T" : Str) ∈ D1
   ·refine ite_t (decide_eq_true h) (ev_list (trl_nil ⟨Nat.le_of_ble_eq_true rfl, ?_⟩))
    refine op_addl .data .data (Nat.le_of_ble_eq_true rfl) ⟨?_, rfl⟩
    rw [knownOf, if_pos h]; rfl
   ·refine ite_f (decide_eq_false h) (ev_list ?_)
    walk_at "m"
    refine op_addl .data .data (Nat.le_of_ble_eq_true rfl) ⟨?_, rfl⟩
    rw [knownOf, if_neg h]; rfl
  walk_at "m"
  refine closed_ok (k := k + 19) (R' _) hH.rows hkn (by unfold knownOf; split <;> simp) ?_
  have hsu : ∀ c ∈ closN host 2 (knownOf D1), c ∈ symCodes := closN_ok hkn (fun q hq => (hH.rows.ok q hq).1) 2
  have hel : ∀ U2 : List Str, U2.Nodup → (∀ x, x ∈ U2 ↔ ∃ c ∈ NTs, x = symS c ∧ ¬ Tm whole c) → U2.Perm (endlessOf host D1) := fun U2 => O.ends D1 U2 hd1 hdm1
  unfold endlessOf at hel
  generalize closN host 2 (knownOf D1) = sure at hsu hel ⊢
  walk_at "m"
  refine ev_lc [83, 65] sD (fun c => !decide (c ∈ sure)) sD (by rfl) (Nat.le_of_ble_eq_true rfl) (fun _ => rfl) ?_ ?_ ?_
  ·refine src_of (ev_list ?_)
   walk_at "m"
   exact ⟨itb_list R.hd, rfl, rfl⟩
  ·intro cl Ca acc pre c post hsp
   have hc : c ∈ symCodes := by
    have h1 : c ∈ [83, 65] := by rw [hsp]; simp
    have h2 : ∀ c ∈ [83, 65], c ∈ symCodes := by decide
    exact h2 c h1
   refine asg_name rfl (ts_one ?_)
   walk_at "m"
   refine op_notin (n := 0) (R' _) .data (okSy 0 hc) (okSys 0 hsu) (by decide) (ob_bool ?_)
   rw [anySy]
   refine ⟨rfl, rfl, fun _ => ?_⟩
   walk_at "m"
   exact ⟨rfl, rfl⟩
  have hlf := List.length_filter_le (fun c => !decide (c ∈ sure)) [83, 65]
  walk_at "m"
  rw [← sym_eq]
  refine op_addl .data .data (by simp only [List.length_append, List.length_map, List.length_cons, List.length_nil] at hlf ⊢; exact le_s (Nat.add_le_add (Nat.le_trans hlf (Nat.add_le_add_right (Nat.add_le_add_right (Nat.le_refl _) _) _)) ld1) rfl) ?_
  rw [← List.map_append]
  generalize (([83, 65].filter fun c => !decide (c ∈ sure)).map symS) ++ D1 = En at hel ⊢
  walk_at "m"
  refine ev_callB (ev_blt rfl (by boot_fast) (by decide) rfl ⟨rfl, trl_cons (ev_ometh0 ?_ rfl) rfl⟩ rfl) rfl rfl rfl
  walk_at "m"
  refine ⟨aGr, _, 186, .cell hs2, rfl, rfl, ?_⟩
  refine cycC_ok (k := k + 19) (R' _) H2 T2 hs2 fun D2 hd2 hdm2 => ?_
  have hp2 := hel D2 hd2 hdm2
  have ld2 : D2.length ≤ 4 := sml hd2 hdm2
  have od2 := okl (fun c h => h) hdm2
  walk_at "m"
  refine ol_sortedF .data (by exact lelt_c ld2 rfl) ?_
  refine ev_callB (ev_blt rfl (by boot_fast) (by decide) rfl ⟨rfl, ?_⟩ rfl) rfl rfl rfl
  walk_at "m"
  refine ol_sortedF .data (by rw [← hp2.length_eq]; exact lelt_c ld2 rfl) ?_
  rw [← sortS_congr hp2]
  have okS2 : okd 1 (.list ((sortS D2).map .str)) = true := ok_strL fun s hs => od2 s (sortS_mem.mp hs)
  refine op_ne (n := 1) (R' _) okS2 okS2 (by decide) (ob_bool (ite_f (by rw [deq_self okS2]; rfl) ?_))
  refine exs_nil ?_
  have hpl := O.pl
  have hpu := used_len O.plen
  have hps := used_sym O.prows.ok
  refine exs_cons (ex_lc2 part qD (fun _ => true) (fun q => q.2.map sD) (by rfl) (by rw [filter_all, ← List.map_flatMap, List.length_map]; show (usedOf part).length ≤ _; exact le_s (Nat.le_trans hpu (Nat.mul_le_mul_left _ hpl.2)) rfl) (fun _ => rfl) (fun _ _ => rfl) (fun _ _ => rfl) (fun _ _ => rfl) rfl rfl rfl rfl ?_ ?_ ?_)
  ·refine src_of ?_
   walk_at "m"
   exact ⟨itb_list R.hd, rfl, rfl⟩
  ·intro cl Ca acc pre q post hsp
   unfold qD
   refine asg_tup2 R.hd rfl rfl (ts_nil ⟨rfl, rfl, fun _ => src_of ?_⟩)
   walk_at "m"
   exact ⟨itb_list R.hd, rfl⟩
  rw [filter_all, ← List.map_flatMap]
  show QSeq _ _ _ _ _ _ ⟨("inner", rowD (usedOf part)) :: _, _⟩
  let ρ2 : List (Str × D) := ("inner", rowD (usedOf part)) :: ρ1
  have hui : ∀ c ∈ usedOf host ++ usedOf part, c ∈ symCodes := fun c hc => (List.mem_append.mp hc).elim (hu c) (hps c)
  have tokC : ∀ {qs : List CPr} {sp : List Nat}, (∀ c, idle qs c = !decide (c ∈ sp)) → TSs.filter (fun c => !decide (c ∈ sp)) = TSs.filter (idle qs) := fun h => List.filter_congr fun c _ => (h c).symm
  have okT : ∀ qs : List CPr, okd 1 (rowD (TSs.filter (idle qs))) = true := fun qs => okSys 0 fun c hc => tss_sym c (List.mem_filter.mp hc).1
  have stT : ∀ qs : List CPr, D.list ((sortS ((TSs.filter (idle qs)).map symS)).map .str) = rowD (TSs.filter (idle qs)) := fun qs => by rw [toks_sorted, sym_eq]; rfl
  let fB : Bool → D := fun b => if b then .tup [.obj aGr d2, rowD (usedOf host ++ usedOf part)] else .tup [.obj aGr d1, rowD (usedOf part)]
  refine exs_cons (ex_forL [false, true] fB (fun _ => ρ2) (fun _ => σ.ω) ?_ ?_ (exs_nil ?_) (fun _ => rfl))
  ·refine src_of (ev_list ?_)
   walk_at "m"
   unfold rowD
   refine op_addl .data .data (by simp only [List.length_append, List.length_map]; exact le_s (Nat.add_le_add (Nat.le_trans hul (Nat.mul_le_mul_left _ hfew)) (Nat.le_trans hpu (Nat.mul_le_mul_left _ hpl.2))) rfl) ?_
   rw [← List.map_append]
   walk_at "m"
   exact ⟨itb_list R.hd, .cons rfl (.cons rfl (.cons rfl (.cons rfl (.cons rfl (.cons rfl .nil))))), rfl⟩
  ·intro pre b post hsp
   obtain ⟨qs, sp, dx, Mx, stx, TTx, NTx, PNx, fx, ox, ux, e, Hx, Tx, hsx, hid, hsp, hl⟩ : ∃ (qs : List CPr) (sp : List Nat) (dx : Addr) (Mx : List Nat) (stx : Nat) (TTx NTx PNx : List NE) (fx ox ux : D), fB b = .tup [.obj aGr dx, rowD sp] ∧ Gram qs Mx stx ∧ Told qs stx TTx NTx PNx ∧ (dx, C.dct (grF qs stx TTx NTx PNx fx ox ux)) ∈ σ.ω ∧ (∀ c, idle qs c = !decide (c ∈ sp)) ∧ (∀ c ∈ sp, c ∈ symCodes) ∧ sp.length ≤ 100 := by
    cases b with
    | false => exact ⟨_, _, _, _, _, _, _, _, _, _, _, rfl, H1, T1, hs1, O.tok1, hps, by exact le_c (Nat.le_trans hpu (Nat.mul_le_mul_left _ hpl.2)) rfl⟩
    | true => exact ⟨_, _, _, _, _, _, _, _, _, _, _, rfl, H2, T2, hs2, O.tok2, hui, by rw [List.length_append]; exact le_c (Nat.add_le_add (Nat.le_trans hul (Nat.mul_le_mul_left _ hfew)) (Nat.le_trans hpu (Nat.mul_le_mul_left _ hpl.2))) rfl⟩
   rw [e]
   ·refine asg_tup2 R.hd rfl rfl ?_
    refine exs_cons (ex_if (te_cmp (ev_callB (ev_blt rfl (by boot_fast) (by decide) rfl ⟨rfl, trl_cons (ev_ometh0 ?_ rfl) rfl⟩ rfl) rfl rfl rfl) rfl))
    walk_at "m"
    refine ⟨aGr, _, 200, .cell hsx, rfl, rfl, ?_⟩
    refine utokC_ok (k := k + 19) (R' _) Hx Tx hsx ?_
    walk_at "m"
    unfold rowD
    rw [← sym_eq]
    refine ol_sortedF .data (by have := List.length_filter_le (idle qs) TSs; simp [TSs] at this ⊢; exact lelt_c this rfl) ?_
    rw [stT]
    refine ev_lc TSs sD (fun c => !decide (c ∈ sp)) sD (by rfl) (Nat.le_of_ble_eq_true rfl) (fun _ => rfl) ?_ ?_ ?_
    ·refine src_of (ev_list ?_)
     walk_at "m"
     exact ⟨itb_list R.hd, rfl, rfl⟩
    ·intro cl Ca acc pre c post hsp2
     have hc : c ∈ symCodes := tss_sym c (by rw [hsp2]; simp)
     refine asg_name rfl (ts_one ?_)
     walk_at "m"
     refine op_notin (n := 0) (R' _) .data (okSy 0 hc) (okSys 0 hsp) (by decide) (ob_bool ?_)
     rw [anySy]
     refine ⟨rfl, rfl, fun _ => ?_⟩
     walk_at "m"
     exact ⟨rfl, rfl⟩
    ·rw [tokC hid]
     refine op_ne (n := 1) (R' _) (okT qs) (okT qs) (by decide) (ob_bool (ite_f (by show (!deq (rowD _) (rowD _)) = false; rw [deq_self (okT qs)]; rfl) ?_))
     exact exs_nil (exs_nil ⟨.cons rfl (.cons rfl (.cons rfl (.cons rfl (.cons rfl (.cons rfl .nil))))), rfl⟩)
  let r0 : List CPr := if 65 ∈ usedOf host then [] else [host.getD 1 (0, [])]
  let r1 : List CPr := if 84 ∈ usedOf host ++ usedOf part then [] else [part.getD 0 (0, [])]
  have hh1 : ∃ q, host[1]? = some q ∧ host.getD 1 (0, []) = q := by
   have : 1 < host.length := O.hostl
   exact ⟨host[1], List.getElem?_eq_getElem this, by simp [List.getD, this]⟩
  have hp0 : ∃ q, part[0]? = some q ∧ part.getD 0 (0, []) = q := by
   have : 0 < part.length := hpl.1
   exact ⟨part[0], List.getElem?_eq_getElem this, by simp [List.getD, this]⟩
  have hr0 : r0.length ≤ 1 := by show (if _ then _ else _ : List CPr).length ≤ 1; split <;> simp
  have hr1 : r1.length ≤ 1 := by show (if _ then _ else _ : List CPr).length ≤ 1; split <;> simp
  refine exs_cons (ex_assign (ev_cut (.list (r0.map qD)) ?_ ?_) rfl rfl)
  ·walk_at "m"
   refine op_in (n := 0) (x := sD 65) (R' _) .data (okSy 0 (by decide)) (okSys 0 hu) (by decide) (ob_bool ?_)
   rw [anySy]
   by_cases h : 65 ∈ usedOf host
   ·refine ite_t (decide_eq_true h) (ev_list (trl_nil ⟨Nat.le_of_ble_eq_true rfl, ?_, rfl⟩))
    show D.list [] = .list (r0.map qD)
    rw [show r0 = [] from if_pos h]; rfl
   ·refine ite_f (decide_eq_false h) (ev_list (trl_cons (ev_sub ?_) rfl))
    walk_at "m"
    obtain ⟨q, hq, hqd⟩ := hh1
    refine op_item (x := qD q) (ds := host.map qD) .data (by decide) (by rw [List.getElem?_map]; show (host[1]?).map qD = _; rw [hq]; rfl) (by simp; exact le_s hfew rfl) ?_ (fun _ _ => rfl)
    walk_at "m"
    refine ⟨?_, rfl⟩
    rw [show r0 = [host.getD 1 (0, [])] from if_neg h, hqd]; rfl
  refine exs_cut (fun σ' => Sub σ'.ρ (("useless", .list ((r0 ++ r1).map qD)) :: ρ2) ∧ σ'.ω = σ.ω) ?_ ?_
  ·refine ex_if ?_
   walk_at "m"
   unfold rowD
   refine op_addl .data .data (by simp only [List.length_append, List.length_map]; exact le_s (Nat.add_le_add (Nat.le_trans hul (Nat.mul_le_mul_left _ hfew)) (Nat.le_trans hpu (Nat.mul_le_mul_left _ hpl.2))) rfl) ?_
   rw [← List.map_append]
   refine op_notin (n := 0) (x := sD 84) (R' _) .data (okSy 0 (by decide)) (okSys 0 hui) (by decide) (ob_bool ?_)
   rw [anySy]
   by_cases h : 84 ∈ usedOf host ++ usedOf part
   ·refine ite_f (by rw [decide_eq_true h]; rfl) (exs_nil ⟨rfl, .cons ?_ (.cons rfl (.cons rfl (.cons rfl (.cons rfl (.cons rfl (.cons rfl .nil)))))), rfl⟩)
    rw [show r1 = [] from if_pos h, List.append_nil]; rfl
   ·refine ite_t (by rw [decide_eq_false h]; rfl) ?_
    walk_at "m"
    refine ev_list (trl_cons (ev_sub ?_) rfl)
    walk_at "m"
    refine hide ?_; intro g; obtain ⟨q, hq, hqd⟩ := hp0; dsimp only [g]
    refine op_item (x := qD q) (ds := part.map qD) .data (by decide) (by rw [List.getElem?_map]; show (part[0]?).map qD = _; rw [hq]; rfl) (by simp; exact le_s hpl.2 rfl) ?_ (fun _ _ => rfl)
    walk_at "m"
    refine op_addl .data .data (by simp; exact le_s (Nat.add_le_add_right hr0 _) rfl) ?_
    refine exs_nil ⟨rfl, .cons ?_ (.cons rfl (.cons rfl (.cons rfl (.cons rfl (.cons rfl (.cons rfl .nil)))))), rfl⟩
    rw [show r1 = [part.getD 0 (0, [])] from if_neg h, hqd, List.map_append]; rfl
  rintro ⟨ρ', ω'⟩ ⟨hsub, hω⟩
  dsimp only at hsub hω
  subst hω
  refine TrF.sub hsub ?_
  clear hsub
  have lr : ∀ qs start, (loneRows qs start).length ≤ qs.length := fun qs start => by
   unfold loneRows
   rw [List.length_map]
   exact Nat.le_trans (List.length_filter_le ..) (lhsOrd_len qs)
  have lm : ∀ {qs : List CPr} {start : Nat}, ∀ c ∈ (lhsOrd qs).filter (lone qs start), ∃ q ∈ qs, q.1 = c := fun c hc => lhsOrd_mem (List.mem_filter.mp hc).1
  have lq : ∀ {qs : List CPr} (l : List Nat), l.map (fun c => qD (rowOf qs c)) = (l.map (rowOf qs)).map qD := fun l => by rw [List.map_map]; rfl
  have few1 := H1.few
  have few2 := H2.few
  walk_at "m"
  refine ev_lc ((lhsOrd part).filter (lone part 84)) (hdD part) (fun _ => true) (fun c => qD (rowOf part c)) (by rfl) (by have := List.length_filter_le (lone part 84) (lhsOrd part); have := lhsOrd_len part; lia) (fun _ => rfl) ?_ ?_ ?_
  ·refine src_of (ev_ometh0 ?_ rfl)
   walk_at "m"
   refine ⟨aGr, _, 207, .cell hs1, rfl, rfl, ?_⟩
   exact uruleC_ok (k := k + 19) (R' _) H1 T1 hs1 ⟨itb_list R.hd, rfl, rfl⟩
  ·intro cl Ca acc pre c post hsp
   have hc := lm c (by rw [hsp]; simp)
   obtain ⟨ix, hix⟩ := hdD_eq hc
   have hrow := O.plen _ (rowOf_mem hc)
   rw [hix]
   unfold prodD
   refine asg_name rfl (ts_nil ⟨rfl, rfl, fun _ => ?_⟩)
   walk_at "m"
   refine ev_callT (ev_blt rfl (by boot_fast) (by decide) rfl ⟨rfl, ?_⟩ rfl) rfl rfl rfl
   walk_at "m"
   refine ol_listOfT (by simp [gpr]; exact le_s hrow rfl) ?_
   walk_at "m"
   exact ⟨by rw [qD, rowD, ← sym_eq]; rfl, rfl⟩
  rw [filter_all, lq]
  walk_at "m"
  have hlr1 := lr part 84
  unfold loneRows at hlr1
  refine op_addl .data .data (by simp only [List.length_append, List.length_map] at hlr1 ⊢; exact le_s (Nat.add_le_add (Nat.add_le_add hr0 hr1) (Nat.le_trans hlr1 few1)) rfl) ?_
  rw [← List.map_append]
  refine hide ?_; intro g; obtain ⟨j1, j2, hj1, hj2, hj⟩ := O.rules; dsimp only [g]
  have eU : uselessOf host part = (r0 ++ r1) ++ ((lhsOrd part).filter (lone part 84)).map (rowOf part) := rfl
  rw [← eU]
  have okU : ∀ q ∈ loneRows whole 83, q.ok := fun q hq => by
   obtain ⟨c, hc, rfl⟩ := List.mem_map.mp hq
   exact H2.ok _ (rowOf_mem (lm c hc))
  have okP : ∀ q ∈ pickV (loneRows whole 83) j1, q.ok := fun q hq => by
   obtain ⟨j, _, hj⟩ := List.mem_filterMap.mp hq
   exact okU q (List.mem_of_getElem? hj)
  have kvk : ∀ l : List CPr, (l.map kvQ).map (·.1) = l.map fun q => symS q.1 := fun l => by rw [List.map_map]; rfl
  walk_at "m"
  refine ev_callB (ev_blt rfl (by boot_fast) (by decide) rfl ⟨rfl, trl_cons (ev_lc ((lhsOrd whole).filter (lone whole 83)) (hdD whole) (fun _ => true) (fun c => qD (rowOf whole c)) (by rfl) (by have := List.length_filter_le (lone whole 83) (lhsOrd whole); have := lhsOrd_len whole; lia) (fun _ => rfl) ?_ ?_ ?_) rfl⟩ rfl) rfl rfl rfl
  ·refine src_of (ev_ometh0 ?_ rfl)
   walk_at "m"
   refine ⟨aGr, _, 207, .cell hs2, rfl, rfl, ?_⟩
   exact uruleC_ok (k := k + 19) (R' _) H2 T2 hs2 ⟨itb_list R.hd, rfl, rfl⟩
  ·intro cl Ca acc pre c post hsp
   have hc := lm c (by rw [hsp]; simp)
   obtain ⟨ix, hix⟩ := hdD_eq hc
   have hrow := H2.len _ (rowOf_mem hc)
   rw [hix]
   unfold prodD
   refine asg_name rfl (ts_nil ⟨rfl, rfl, fun _ => ?_⟩)
   walk_at "m"
   refine ev_callT (ev_blt rfl (by boot_fast) (by decide) rfl ⟨rfl, ?_⟩ rfl) rfl rfl rfl
   walk_at "m"
   refine ol_listOfT (by simp [gpr]; exact le_s hrow rfl) ?_
   walk_at "m"
   exact ⟨by rw [qD, rowD, ← sym_eq]; rfl, rfl⟩
  rw [filter_all, lq]
  walk_at "m"
  have e1 : D.list ((loneRows whole 83).map qD) = .list (((loneRows whole 83).map kvQ).map kvD) := by rw [qD_kv]
  show OpL _ _ _ _ _ [D.list ((loneRows whole 83).map qD)] _
  rw [e1]
  refine ol_sortedRows .data (by rw [kvk]; exact hj1) ?_
  rw [pick_map, ← qD_kv]
  refine ev_callB (ev_blt rfl (by boot_fast) (by decide) rfl ⟨rfl, ?_⟩ rfl) rfl rfl rfl
  walk_at "m"
  rw [qD_kv (uselessOf host part)]
  refine ol_sortedRows .data (by rw [kvk]; exact hj2) ?_
  rw [pick_map, ← qD_kv, ← hj]
  refine op_eq (n := 3) (R' _) (okQs okP) (okQs okP) (by decide) ?_
  rw [deq_self (okQs okP)]
  exact p
end
section
open AutoSeq1 (wpAny_loadPart')
open MeetsSeq MeetsSeq2 MeetsSeq3 SeqRoads2
section
variable {prog : Program} {w : World} {A : Around} {E : Value → Shared → Prop} {s : Shared}
end
structure EqDct (n : Nat) (k1 k2 : List (Str × D)) : Prop where
 len : k1.length = k2.length
 all : ∀ p ∈ k1, ∃ d', k2.lookup p.1 = some d' ∧ okd n p.2 = true ∧ okd n d' = true ∧ deq p.2 d' = true
variable {X : Cx} {A : Around} {env : Env} {σ : Sg} {P : D → Sg → Prop} {Q : Fl → Sg → Prop}
theorem RpKv.len {b : Heap} {l : List (Str × Value)} {k : List (Str × D)} (r : RpKv X b l k) : l.length = k.length := r.length
theorem dct_hits {n kk : Nat} {s : Shared} {b : Heap} (S : St X env σ b s) (R : A.units + 100 < cLine) (hn : n ≤ 20) {kvs2 : List (Str × Value)} {k2 : List (Str × D)} (r2 : RpKv X b kvs2 k2) :
  ∀ {kvs1 : List (Str × Value)} {k1 : List (Str × D)}, RpKv X b kvs1 k1 → (∀ p ∈ k1, ∃ d', k2.lookup p.1 = some d' ∧ okd n p.2 = true ∧ okd n d' = true ∧ deq p.2 d' = true) → KeqHits A s kvs2 kvs1 true := by
 intro kvs1 k1 q
 induction q using RpKv.ind with
 | nil => exact fun _ => .nil
 | cons r q ih =>
  rename_i k v d kvs kds
  intro h
  obtain ⟨d', h1, h2, h3, h4⟩ := h _ (.head _)
  obtain ⟨y, hy, ry⟩ := r2.lookup h1
  obtain ⟨as, e1⟩ := reads_of n v d r h2
  obtain ⟨bs, e2⟩ := reads_of n y d' ry h3
  obtain ⟨l1, l2⟩ := okd_lay n _ h2
  obtain ⟨m1, m2⟩ := okd_lay n _ h3
  have e := SeqAt.eqAt_reads _ _ A s v y _ _ (S.hp.le.reads e1) (S.hp.le.reads e2) l1 m1 (by lia)
  have e' : PyData.eqv d.py d'.py = true := h4
  rw [e'] at e
  have := KeqHits.hit (k := k) (by rw [valueAt_lookup (V := Value)]; exact hy) e (ih fun p hp => h p (.tail _ hp))
  simpa using this
end
section
variable {X : Cx} {A : Around} {env : Env} {σ : Sg} {P : D → Sg → Prop} {Q : Fl → Sg → Prop}
theorem ev_slice_to {v hi : Expr} {p pos : Pos} (h : Ev X A env σ v (fun d σ₁ => Ev X A env σ₁ hi (fun i σ₂ => ∃ (ds : List D) (k : Nat), i = .int (k : Int) ∧ ds.length ≤ sizeLine ∧ Lst X σ₂ d ds ∧ P (.list (ds.take k)) σ₂)))
  (hp : evalPart (some hi) env = eval hi env) : Ev X A env σ (.Subscript v (.Slice none (some hi) none p) pos) P := fun s b S => by
 refine wpAny_SliceOf (T := "list") list_getitem_lookup (wpAny_mono (h s b S) ?_ fun _ _ x => x)
 rintro o s₁ ⟨d, σ₁, b₁, E₁, S₁, r₁, h₁⟩
 refine wpAny_Slice ?_
 rw [evalPart_none]
 refine wpAny_pure ?_
 rw [hp]
 refine wpAny_mono (h₁ s₁ b₁ S₁) ?_ fun _ _ x => x
 rintro vl s₂ ⟨i, σ₂, b₂, E₂, S₂, r₂, ds, k, rfl, hz, hl, p⟩
 refine wpAny_pure ?_
 obtain ⟨a, vs, n, rfl, g, ra⟩ := hl.at S₂ (r₁.mono E₂.ext.le)
 obtain ⟨_, rfl⟩ := r₂.i_int
 rename_i tk
 have e : vs.size = ds.length := by rw [← ra.length]; simp
 refine ⟨((isList_of g).push _).typeIs, wpAny_getItem_list_slice ((isList_of g).push _) (Heap.IsSliceOf.new ..) (lo := none) (hi := some (k : Int)) .none (.int ..) .none (by simp) ?_ (by exact Nat.le_trans (Nat.le_of_eq e) hz)⟩
 rw [slicePick_upto' vs k]
 refine hide ?_; intro g; obtain ⟨b₃, l₃, g₃, S₃, E₃⟩ := S₂.allocD { cls := .type "slice", data := .fields #[.none, .int (k : Int) tk, .none] }; dsimp only [g]
 refine hide ?_; intro g; obtain ⟨b₄, l₄, g₄, S₄, E₄⟩ := S₃.allocD (seqObj "list" (vs.toList.take k).toArray 0); dsimp only [g]
 refine ⟨.list (ds.take k), σ₂, b₄, ((E₁.trans E₂).trans E₃).trans E₄, S₄, ?_, p⟩
 refine .list g₄ ?_
 have ht : ∀ (k : Nat) {l : List Value} {m : List D}, RpAll X b₂ l m → RpAll X b₂ (l.take k) (m.take k) := by
  intro k
  induction k with
  | zero => intro l m h; simpa using RpAll.nil
  | succ k ih => intro l m h; cases h with
   | nil => simpa using RpAll.nil
   | cons r q => simpa using RpAll.cons r (ih q)
 simpa using (ht k ra).mono (l₃.trans l₄)
theorem fn_callTopW {fa : Addr} {qual : Str} {body : List Stmt} {scope : Scope} {cdv : Value} {fd : FuncData} {ds : List D} {dbs : List (Str × D)} {ω0 : Om} {PT : D → Sg → Prop} {R : Result → Shared → Prop} {s : Shared} {b : Heap} {vs : List Value} (hf : FnOk X fa qual body scope cdv fd) (hroom : A.depth < recursionLimit)
  (hfr : X.fr = []) (H : Hp X ω0 b s) (rv : RpAll X b vs ds)
  (hbind : ∀ s b vs, X.Top b → Le b s.heap → RpAll X b vs ds → ∃ binds, BindsTo s fd ⟨vs, []⟩ binds ∧ RpKv X b binds dbs)
  (hnd' : nodupS (dbs.map (·.1)) = true) (hkind : (dbs.all fun y => scope.names.lookup y.1 == some .local || scope.names.lookup y.1 == some .cell) = true)
  (hbody : ∀ L, Exs (X.push (envOfC qual scope L fa cdv)) (A.deeper (envOfC qual scope L fa cdv)) (envOfC qual scope L fa cdv) ⟨dbs, ω0⟩ body (fun fl σ' => match fl with | .ret d => PT d σ' | .next => PT .none σ' | _ => False))
  (fin : ∀ v d σ' s' b', Rp X b' v d → PT d σ' → Hp X σ'.ω b' s' → (∀ a o, a ∉ ω0.map (·.1) → s.heap.get? a = some o → s'.heap.get? a = some o) → s'.gens = s.gens → s'.os = s.os → R (.ok (.ret v)) s') :
  codeAny X.M A (.call (.ref fa) ⟨vs, []⟩) R s := by
 refine hide ?_; intro g; obtain ⟨⟨oc, od, osl, hlook⟩, hfb, rfl, rfl, hfg, hfbl, hfc, rfl, hcode, hco, hgen, hk, hnf⟩ := hf; dsimp only [g]
 have hnd := nodup_of hnd'
 have T := H.top
 have ho : s.heap.get? fa = some ⟨oc, od, .func fd, osl⟩ := H.le _ _ (T.inK _ _ hlook)
 have hcd : s.heap.CodeRec fd.code fd.qualname := codeRec_of (T.inK.keeps H.le) hcode
 obtain ⟨binds, hb, rb⟩ := hbind s b vs T H.le rv
 have hkeys : binds.map (·.1) = dbs.map (·.1) := rb.keys
 have hkb : ∀ x ∈ binds, fd.scope.names.lookup x.1 = some .local ∨ fd.scope.names.lookup x.1 = some .cell := fun x hx => by
  have : x.1 ∈ dbs.map (·.1) := by rw [← hkeys]; exact List.mem_map_of_mem hx
  obtain ⟨p, hp, e⟩ := List.mem_map.mp this
  have := List.all_eq_true.mp hkind p hp
  rw [e] at this
  rcases Bool.or_eq_true_iff.mp this with q | q
  ·exact .inl (by simpa using q)
  ·exact .inr (by simpa using q)
 refine codeAny_call_function hroom ho rfl hco hgen hfb hcd ?_
 refine hb _ _ _ _ ?_
 rw [hfc]
 refine wpAny_newFunctionEnv_cells hk (fun x hx => (hkb x hx).imp id fun q => ⟨q, cellsFrom_some _ _ _ (.inl q)⟩) ?_
 intro cenv hcenv s₁ x₁
 generalize hL : s.heap.objs.size = L at hcenv
 have hcenv' : cenv = envOfC fd.qualname fd.scope L fa fd.code := by
  rw [hcenv, hfg, hfbl]; rfl
 subst hcenv'
 clear hcenv
 obtain ⟨h₁, tk₁, rfl⟩ := x₁.toInCall.same
 have hle : Le s.heap h₁ := x₁.toInCall.keep
 have H₁ : Hp X ω0 b { s with heap := h₁, toks := tk₁ } := ⟨H.le.trans hle, (fun p hp => (H.cell p hp).mono (Le.refl _) (fun o e => hle _ _ e)), H.out, H.nod, H.top⟩
 have LNone : s.heap.get? L = none := hL ▸ fresh_none _
 have CNone : ∀ x c, (envOfC fd.qualname fd.scope L fa fd.code).cells.lookup x = some c → s.heap.get? c = none := fun x c e => by
  have h1 : L < c := x₁.above x c (PySem.mem_of_lookup e)
  cases q : s.heap.get? c with
  | none => rfl
  | some o =>
   have h2 := Heap.lt_size q
   rw [hL] at h2
   exact absurd (Nat.lt_trans h1 h2) (Nat.lt_irrefl _)
 have okC : EnvOk (envOfC fd.qualname fd.scope L fa fd.code) := by
  refine ⟨hk, rfl, rfl, fun x kx => ?_⟩
  rcases kx with kx | kx
  ·have := cellsFrom_some (x := x) fd.scope.names (L + 1) [] (.inl kx)
   exact Option.isSome_iff_exists.mp this
  ·have hm := lookup_mem_kind kx
   have := List.all_eq_true.mp hnf _ hm
   simp at this
 have fresh_b : ∀ a, s.heap.get? a = none → b.get? a = none := fun a e => by
  cases q : b.get? a with
  | none => rfl
  | some o => have := H.le _ _ q; rw [e] at this; exact nso this
 have fresh_w : ∀ a, s.heap.get? a = none → a ∉ ω0.map (·.1) := fun a e h => by
  obtain ⟨p, hp, rfl⟩ := List.mem_map.mp h
  obtain ⟨o, ho⟩ := (H.cell p hp).live
  rw [e] at ho; exact nso ho
 have hnb : (binds.map (·.1)).Nodup := by rw [hkeys]; exact hnd
 have SC : St (X.push (envOfC fd.qualname fd.scope L fa fd.code)) (envOfC fd.qualname fd.scope L fa fd.code) ⟨dbs, ω0⟩ b { s with heap := h₁, toks := tk₁ } := by
  refine ⟨okC, H₁.at, ⟨⟨_, x₁.toInCall.ns, fun x d kx e => ?_⟩, fun x d kx e => ?_, fun x c e => ⟨_, x₁.cell x c e⟩⟩, ⟨fresh_b _ LNone, fresh_w _ LNone, fun x c e => fresh_b _ (CNone x c e), fun x c e => fresh_w _ (CNone x c e), fun x c e => ?_, fun x y c e1 e2 => name_of_addr x₁.apart (PySem.mem_of_lookup e1) (PySem.mem_of_lookup e2)⟩, fun e he => ?_⟩
  ·obtain ⟨v, h1, h2⟩ := rb.lookup e
   exact ⟨v, bindL_some kx binds _ hnb h1, h2.at⟩
  ·obtain ⟨v, h1, h2⟩ := rb.lookup e
   obtain ⟨c, hc⟩ := okC.cells x kx
   have hne : (envOfC fd.qualname fd.scope L fa fd.code).kindOf x ≠ some .local := by
    rcases kx with kx | kx <;> rw [kx] <;> simp
   refine ⟨c, v, hc, ?_, h2.at⟩
   have := x₁.cell x c hc
   rw [bindC_some hne binds _ hnb h1] at this
   exact this
  ·exact Nat.ne_of_gt (x₁.above x c (PySem.mem_of_lookup e))
  ·rcases List.mem_cons.mp he with rfl | he
   ·refine hide ?_; intro g; obtain ⟨o, es, ep, h1, h2, _⟩ := x₁.toInCall.ns; dsimp only [g]
    exact ⟨hk, L, o, es, ep, rfl, fresh_b _ LNone, fresh_w _ LNone, h1, h2⟩
   ·rw [hfr] at he; cases he
 refine ⟨(T.tr.nolimit.keeps H.le).keeps hle, codeAny_func (wpAny_mono (hbody L _ b SC) (fun f s' hq => ?_) fun _ _ x => x.elim)⟩
 obtain ⟨fl, σ', b', E', S', rf, hp⟩ := hq
 have hF : ∀ a, Fx (envOfC fd.qualname fd.scope L fa fd.code) ω0 a → a ∈ ω0.map (·.1) ∨ s.heap.get? a = none := fun a f => by
  rcases f with f | ⟨x, _, _, f⟩ | f
  ·exact .inr (f ▸ LNone)
  ·exact .inr (CNone x a f)
  ·exact .inl f
 have hkeep : ∀ a o, a ∉ ω0.map (·.1) → s.heap.get? a = some o → s'.heap.get? a = some o := fun a o na e => by
  have nf : ¬ Fx (envOfC fd.qualname fd.scope L fa fd.code) ω0 a := fun z => by
   rcases hF a z with z | z
   ·exact na z
   ·rw [e] at z; exact sno z
  obtain ⟨sl, h1, h2⟩ := E'.ext.keep a o nf (hle _ _ e)
  have : sl = o.slots := h2 fun e' he => by
   rcases List.mem_cons.mp he with rfl | he
   ·intro z
    have : L = a := Option.some.inj z
    rw [← this, LNone] at e; exact nso e
   ·rw [hfr] at he; cases he
  rw [this] at h1; exact h1
 have hH : Hp X σ'.ω b' s' := S'.hp.at (l := X.fr)
 cases f with
 | next => cases fl with
  | next => exact fin .none .none σ' s' b' .none hp hH hkeep E'.ext.gens E'.ext.os
  | _ => exact rf.elim
 | ret v => cases fl with
  | ret d =>
   have rf' : Rp (X.push (envOfC fd.qualname fd.scope L fa fd.code)) b' v d := rf
   exact fin v d σ' s' b' (rf'.at (l := X.fr)) hp hH hkeep E'.ext.gens E'.ext.os
  | _ => exact rf.elim
 | brk => cases fl with
  | brk => exact hp.elim
  | _ => exact rf.elim
 | cont => cases fl with
  | cont => exact hp.elim
  | _ => exact rf.elim
theorem op_ne_dct {n kk : Nat} {x y : D} {k1 k2 : List (Str × D)} (R : ARoom kk A) (hn : n ≤ 20) (l1 : Dct X σ x k1) (l2 : Dct X σ y k2) (E : EqDct n k1 k2) (p : P (.bool false) σ) : Op X A env σ (compareOp .NotEq) x y P := fun s b v w S rx ry => by
 obtain ⟨a1, kvs1, ep1, rfl, n1, g1, r1⟩ := l1.at S rx
 refine hide ?_; intro g; obtain ⟨a2, kvs2, ep2, rfl, n2, g2, r2⟩ := l2.at S ry; dsimp only [g]
 have hu := R.units
 show wpAny X.M A (richCompare .NotEq (.ref a1) (.ref a2)) _ _ s
 refine keq_ne n1 n2 g1.dictOf g2.dictOf (by lia) (r := true) (fun _ => dct_hits (kk := 0) S (by show A.units + 1 + 100 < cLine; lia) hn r2 r1 E.all) ?_
 have : kvs1.length = kvs2.length := (r1.len.trans E.len).trans r2.len.symm
 rw [this]; simpa using Po.here S (.bool _) p
end
section
variable {w : World} {mg mb : Str → Option Value} {fr : List Env} {A : Around} {env : Env} {σ : Sg} {P : D → Sg → Prop} {Q : Fl → Sg → Prop}
noncomputable def PRTs : List Nat := [84, 66, 98, 99]
structure Hosted (host part : List CPr) : Prop where
 hhd : ∃ x y r, host = (83, x) :: (65, y) :: r
 phd : ∃ x y r, part = (84, x) :: (66, y) :: r
 hlhs : ∀ q ∈ host, q.1 = 83 ∨ q.1 = 65
 plhs : ∀ q ∈ part, q.1 = 84 ∨ q.1 = 66
 hrhs : ∀ q ∈ host, ∀ c ∈ q.2, c ∈ HSTs
 prhs : ∀ q ∈ part, ∀ c ∈ q.2, c ∈ PRTs
 hlen : ∀ q ∈ host, q.2.length ≤ 3
 plen : ∀ q ∈ part, q.2.length ≤ 2
 hnd : host.Nodup
 pnd : part.Nodup
 few : host.length + part.length ≤ 7
noncomputable def wholeOf (f : Bool) (host part : List CPr) : List CPr := if f = true then part ++ host else host ++ part
noncomputable def vanOf (host : List CPr) (t : List Str) : List Nat := closN host 2 (if epsS ∈ t then [84] else [])
noncomputable def innerOf (t : List Str) : List Str := t.filter fun f => !decide (f = epsS)
noncomputable def letOf (host : List CPr) (t : List Str) : Nat → List Str := let1 (innerOf t) (opensOf (vanOf host t) host)
noncomputable def folwOf (host : List CPr) (t : List Str) : Nat → List Str := folOf (baseOf (vanOf host t) (letOf host t) (occs host)) (endsOf (vanOf host t) (occs host))
structure PlainOk (host part whole : List CPr) : Prop where
 g1 : Gram part [84, 66] 84
 g2 : Gram whole NTs 83
 oth : Others host part whole
 fst : ∀ t : List Str, (∀ f, f ∈ t ↔ FsC part 84 f) → ∀ c, c = 83 ∨ c = 65 → ∀ f, FsC whole c f ↔ f ∈ letOf host t c ++ (if c ∈ vanOf host t then [epsS] else [])
 fst2 : ∀ c, c = 84 ∨ c = 66 → ∀ f, FsC whole c f ↔ FsC part c f
 fol : ∀ t : List Str, (∀ f, f ∈ t ↔ FsC part 84 f) → ∀ c, c = 83 ∨ c = 65 → ∀ f, Fol whole 83 c f ↔ f ∈ folwOf host t c
 fol2 : ∀ t : List Str, (∀ f, f ∈ t ↔ FsC part 84 f) → ∀ c, c = 84 ∨ c = 66 → ∀ f, Fol whole 83 c f ↔ (Fol part 84 c f ∧ f ≠ "$end") ∨ (Fol part 84 c "$end" ∧ f ∈ folwOf host t 84)
theorem trF_freezeM {X : Cx} {t : Sem Flow} {d fo : Addr} {pl pn pm te no fi us st : D} {FO : List FE} {ρ ρ' : List (Str × D)} {ω : Om}
  (hρ : ∀ x d', ρ'.lookup x = some d' → ρ.lookup x = some d' ∨ (ρ.lookup x = some (.raw (.ref fo)) ∧ d' = .dct (FO.map fF)))
  (h : TrF X A env ⟨ρ', (d, .dct (selfF pl pn pm te no fi (.dct (FO.map fF)) us st)) :: ω⟩ t Q) : TrF X A env ⟨ρ, (d, .dct (selfF pl pn pm te no fi (.raw (.ref fo)) us st)) :: (fo, .dct (FO.map dF)) :: (FO.map cF ++ ω)⟩ t Q := by
 generalize hW : ((d, C.dct (selfF pl pn pm te no fi (.raw (.ref fo)) us st)) :: (fo, .dct (FO.map dF)) :: (FO.map cF ++ ω) : Om) = W
 have mF : ∀ e ∈ FO, cF e ∈ W := fun e he => by rw [← hW]; exact .tail _ (.tail _ (List.mem_append_left _ (List.mem_map_of_mem he)))
 have mo : ∀ p ∈ ω, p ∈ W := fun p hp => by rw [← hW]; exact .tail _ (.tail _ (List.mem_append_right _ hp))
 have mfo : (fo, C.dct (FO.map dF)) ∈ W := by rw [← hW]; exact .tail _ (.head _)
 have hfo : Ret X W ([fo] ++ FO.map (·.2.1)) (.raw (.ref fo)) (.dct (FO.map fF)) :=
  .dct mfo (by simp) (ret_FE fun e he => ⟨mF e he, List.mem_append_right _ (List.mem_map_of_mem he)⟩)
 refine trF_refreeze ([fo] ++ FO.map (·.2.1)) ?_ ?_ (fun x d' e => ?_) h
 ·intro a ha
  rcases List.mem_append.mp ha with ha | ha
  ·rw [List.mem_singleton.mp ha]; exact List.mem_map_of_mem (f := (·.1)) mfo
  ·obtain ⟨e, he, rfl⟩ := List.mem_map.mp ha; exact List.mem_map_of_mem (f := (·.1)) (mF e he)
 ·intro hn
  have hp : (W.map (·.1)).Perm (([d] ++ ω.map (·.1)) ++ ([fo] ++ FO.map (·.2.1))) := by
   rw [← hW]
   have e1 : (FO.map cF).map (·.1) = FO.map (·.2.1) := by rw [List.map_map]; rfl
   rw [List.map_cons, List.map_cons, List.map_append, e1]
   exact (perm3 [fo] [] (FO.map (·.2.1)) (ω.map (·.1))).cons d
  have hn' := (hp.nodup_iff).mp hn
  rw [List.nodup_append] at hn'
  obtain ⟨n1, _, n3⟩ := hn'
  refine ⟨fun p hp => ⟨fun z => ?_, ?_⟩, by simpa using n1⟩
  ·refine n3 p.1 ?_ p.1 z rfl
   have := List.mem_map_of_mem (f := (·.1)) hp
   simpa using this
  ·rcases List.mem_cons.mp hp with rfl | hp
   ·refine ⟨C.dct (selfF pl pn pm te no fi (.raw (.ref fo)) us st), by rw [← hW]; exact .head _, ?_⟩
    exact .cons (.same _) (.cons (.same _) (.cons (.same _) (.cons (.same _) (.cons (.same _) (.cons (.same _) (.cons hfo (.same _)))))))
   ·exact ⟨_, mo p hp, RetC.same _⟩
 ·rcases hρ x d' e with e' | ⟨e', rfl⟩
  ·exact ⟨d', e', .same _⟩
  ·exact ⟨_, e', hfo⟩
theorem look_one {ρ : List (Str × D)} {x : Str} {a b d' : D} {y : Str} (h : ((x, b) :: ρ).lookup y = some d') : ((x, a) :: ρ).lookup y = some d' ∨ (((x, a) :: ρ).lookup y = some a ∧ d' = b) := by
 by_cases hx : y = x
 ·subst hx
  right
  have e1 : (y == y) = true := by simp
  simp only [List.lookup_cons, e1] at h ⊢
  exact ⟨trivial, (Option.some.inj h).symm⟩
 ·left
  have : (y == x) = false := ne_beq hx
  simp only [List.lookup_cons, this] at h ⊢
  exact h
theorem ob_int {X : Cx} {PB : Bool → Sg → Prop} {a : Int} (p : PB (a != 0) σ) : OpB X A env σ truthy (.int a) PB := fun s b v S r => by
 obtain ⟨_, rfl⟩ := r.i_int
 exact PySem.P.truthy_int (PoB.here S p)
theorem letOf_len {host : List CPr} {t : List Str} (h : ∀ q ∈ host, q.2.length ≤ 3) (hh : host.length ≤ 7) (ht : t.length ≤ 10) (c : Nat) : (letOf host t c).length ≤ 500 := by
 have hi : (innerOf t).length ≤ 10 := Nat.le_trans (List.length_filter_le _ _) ht
 have h0 : ∀ n, (plainOf (let0 (innerOf t)) (opensOf (vanOf host t) host n)).length ≤ 210 := fun n => by
  have h1 := flat_len (f := let0 (innerOf t)) (m := 10) (l := opensOf (vanOf host t) host n) fun c _ => let0_len hi c
  have h2 := opensOf_len (van := vanOf host t) (n := n) h
  unfold plainOf
  lia
 have h1 := h0 83
 have h2 := h0 65
 have h3 := let0_len hi c
 unfold letOf let1
 split
 ·rw [List.length_append]; split
  ·exact le_c (Nat.add_le_add h1 h2) rfl
  ·simp; exact le_c h1 rfl
 ·split
  ·rw [List.length_append]; split
   ·exact le_c (Nat.add_le_add h2 h1) rfl
   ·simp; exact le_c h2 rfl
  ·exact le_c h3 rfl
theorem setS_go (l : List Str) : ∀ (u : List Str), u.Nodup → (l.foldl addS u).Nodup ∧ ∀ x, x ∈ l.foldl addS u ↔ x ∈ u ∨ x ∈ l := by
 induction l with
 | nil => intro u h; exact ⟨h, fun x => by simp⟩
 | cons a r ih =>
  intro u h
  have e : addS u a = if a ∈ u then u else u ++ [a] := by
   unfold addS
   by_cases ha : a ∈ u
   ·rw [if_pos (any_eq.mpr ha), if_pos ha]
   ·rw [if_neg (fun z => ha (any_eq.mp z)), if_neg ha]
  have h1 : (addS u a).Nodup ∧ ∀ x, x ∈ addS u a ↔ x ∈ u ∨ x = a := by
   rw [e]
   split
   ·rename_i ha
    exact ⟨h, fun x => ⟨.inl, fun z => z.elim id fun z => z ▸ ha⟩⟩
   ·rename_i ha
    refine ⟨?_, fun x => by simp⟩
    rw [List.nodup_append]
    exact ⟨h, by simp, fun x hx y hy => by rw [List.mem_singleton.mp hy]; rintro rfl; exact ha hx⟩
  obtain ⟨h2, h3⟩ := ih (addS u a) h1.1
  refine ⟨h2, fun x => ?_⟩
  rw [List.foldl_cons, h3 x, h1.2 x, List.mem_cons, or_assoc]
theorem setS_in {l : List Str} {x : Str} : x ∈ setS l ↔ x ∈ l := by
 have := (setS_go l [] .nil).2 x
 show x ∈ l.foldl addS [] ↔ x ∈ l
 simpa using this
theorem setS_nd (l : List Str) : (setS l).Nodup := (setS_go l [] .nil).1
theorem setS_few {l U : List Str} (h : ∀ x ∈ l, x ∈ U) : (setS l).length ≤ U.length := nodup_len (setS_nd l) fun x hx => h x (setS_in.mp hx)
theorem sort_set {l m : List Str} (hl : l.Nodup) (h : ∀ x, x ∈ l ↔ x ∈ m) : sortS l = sortS (setS m) := sortS_congr (perm_of_mem hl (setS_nd m) fun x => (h x).trans setS_in.symm)
theorem FsC.inU {qs : List CPr} {c : Nat} {f : Str} (h : FsC qs c f) : f ∈ fstU := by
 rcases h with ⟨rfl, _⟩ | ⟨t, rfl, h⟩
 ·exact .head _
 ·exact tss_fst t h.ts
noncomputable def fiAll (host : List CPr) (t : List Str) (lk : Str → List Str) (c : Nat) : List Str := if c = 83 ∨ c = 65 then letOf host t c ++ (if c ∈ vanOf host t then [epsS] else []) else lk (symS c)
noncomputable def foAll (host : List CPr) (t : List Str) (lk : Str → List Str) (c : Nat) : List Str := if c = 83 ∨ c = 65 then folwOf host t c else ((lk (symS c)).filter fun f => !decide (f = ("$end" : Str))) ++ (if ("$end" : Str) ∈ lk (symS c) then folwOf host t 84 else [])
noncomputable def dueE (f : Nat → List Str) (c : Nat) : Str × D := (symS c, .list ((sortS (setS (f c))).map .str))
theorem put_dueE {f : Nat → List Str} {pre : List Nat} {c : Nat} {base : List (Str × D)} {d : D} (h : ∀ b ∈ base, b.1 ≠ symS c) (hc : c ∉ pre) (hd : d = .list ((sortS (setS (f c))).map .str)) : put (base ++ pre.map (dueE f)) (symS c) d = base ++ (pre ++ [c]).map (dueE f) := by
 rw [put_new (lookup_none_of ?_), hd, List.map_append, List.append_assoc]
 ·rfl
 ·intro z
  obtain ⟨p, hp, e⟩ := List.mem_map.mp z
  rcases List.mem_append.mp hp with hp | hp
  ·exact h p hp e
  ·obtain ⟨x, hx, rfl⟩ := List.mem_map.mp hp
   exact hc (symS_inj e ▸ hx)
theorem Upd.put {a : Addr} {x : Str} {v : D} {kds kds' : List (Str × D)} {r : Om} (h : Mine.put kds x v = kds') : Upd a (.dct kds) (.dct (Mine.put kds x v)) ((a, .dct kds) :: r) ((a, .dct kds') :: r) := h ▸ .head
end
section
variable {w : World} {mg mb : Str → Option Value} {fr : List Env} {A : Around} {env : Env} {σ : Sg} {P : D → Sg → Prop} {Q : Fl → Sg → Prop}
noncomputable abbrev LE := Str × List Str
noncomputable def gL (p : LE) : Str × D := (p.1, .list (p.2.map .str))
noncomputable def gS (p : LE) : Str × D := (p.1, .list ((sortS p.2).map .str))
noncomputable def five : List Str := tsS ++ [("$end" : Str)]
noncomputable def leF (FN : List FE) : List LE := five.map (fun t => (t, [t])) ++ FN.map fun e => (e.1, e.2.2)
noncomputable def leL (FO : List FE) : List LE := FO.map fun e => (e.1, e.2.2)
theorem leF_gL (FN : List FE) : (leF FN).map gL = FDf tsS FN := by
 simp [leF, FDf, gL, tD, fF, Function.comp_def, five]
 rfl
theorem leL_gL (FO : List FE) : (leL FO).map gL = FO.map fF := by
 simp [leL, gL, fF, Function.comp_def]
theorem leF_keys (FN : List FE) : (leF FN).map (·.1) = five ++ FN.map (·.1) := by
 simp [leF, Function.comp_def]
theorem leL_keys (FO : List FE) : (leL FO).map (·.1) = FO.map (·.1) := by
 simp [leL, Function.comp_def]
theorem gL_at {p : LE} {L : List LE} : (L.map (·.1)).Nodup → p ∈ L → (L.map gL).lookup p.1 = some (.list (p.2.map .str)) := by
 induction L with
 | nil => intro _ h; cases h
 | cons q r ih =>
  intro hn h
  simp only [List.map_cons, List.nodup_cons] at hn
  simp only [List.map_cons, gL, List.lookup_cons]
  rcases List.mem_cons.mp h with rfl | h
  ·simp
  ·have hne : (p.1 == q.1) = false := ne_beq fun z => hn.1 (by rw [← z]; exact List.mem_map_of_mem h)
   rw [hne]; exact ih hn.2 h
theorem fe_lk {FN : List FE} : (FN.map (·.1)).Nodup → ∀ {e : FE}, e ∈ FN → lkF FN e.1 = e.2.2 := by
 induction FN with
 | nil => intro _ _ h; cases h
 | cons q r ih =>
  intro hn e h
  simp only [List.map_cons, List.nodup_cons] at hn
  unfold lkF
  rcases List.mem_cons.mp h with rfl | h
  ·simp
  ·have hne : ¬ e.1 = q.1 := fun z => hn.1 (by rw [← z]; exact List.mem_map_of_mem (f := (·.1)) h)
   simpa [hne] using ih hn.2 h
theorem sort_one (t : Str) : sortS [t] = [t] := List.perm_singleton.mp (sortS_perm [t])
theorem eqd_of {L : List LE} {k2 : List (Str × D)} (hl : L.length = k2.length) (h : ∀ p ∈ L, (∀ f ∈ p.2, PyData.strOk f = true) ∧ k2.lookup p.1 = some (.list ((sortS p.2).map .str))) : EqDct 1 (L.map gS) k2 := by
 refine ⟨by rw [List.length_map]; exact hl, fun q hq => ?_⟩
 obtain ⟨p, hp, rfl⟩ := List.mem_map.mp hq
 obtain ⟨h1, h2⟩ := h p hp
 have ok : okd 1 (.list ((sortS p.2).map .str)) = true := ok_strL fun s hs => h1 s (sortS_mem.mp hs)
 exact ⟨_, h2, ok, ok, deq_self ok⟩
theorem due_at {f : Nat → List Str} {c : Nat} {l : List Nat} : c ∈ l → (l.map (dueE f)).lookup (symS c) = some (.list ((sortS (setS (f c))).map .str)) := by
 induction l with
 | nil => intro h; cases h
 | cons a r ih =>
  intro h
  simp only [List.map_cons, dueE, List.lookup_cons]
  by_cases e : c = a
  ·subst e; simp
  ·have : (symS c == symS a) = false := ne_beq fun z => e (symS_inj z)
   rw [this]
   exact ih ((List.mem_cons.mp h).resolve_left e)
theorem told_len {qs : List CPr} {TT NT PN : List NE} (T : Told qs 83 TT NT PN) (H : Gram qs NTs 83) : NT.length = 4 := by
 have h := (perm_of_mem (l := NT.map (·.1)) (m := NTs.map symS) T.n.nn (by decide +kernel) fun x => (T.ns H x).trans (by simp [List.mem_map, eq_comm])).length_eq
 simpa [NTs] using h
noncomputable def FrS : List Nat := [83, 65] ++ [84, 66]
theorem frS_iff : ∀ c, c ∈ FrS ↔ c ∈ NTs := by intro c; simp [FrS, NTs]
theorem nts_two {c : Nat} (h : c ∈ NTs) : (c = 83 ∨ c = 65) ∨ (c = 84 ∨ c = 66) := by revert c; decide
theorem five_no : ∀ c ∈ NTs, symS c ∉ five := by decide +kernel
theorem five_ok : ∀ t ∈ five, PyData.strOk t = true := by decide +kernel
variable {host part whole : List CPr} {TT1 NT1 PN1 TT2 NT2 PN2 : List NE} {FN1 FN2 FO1 FO2 : List FE}
theorem first_eq (PO : PlainOk host part whole) (T2 : Told whole 83 TT2 NT2 PN2) (F1 : FstOk part [84, 66] NT1 FN1) (F2 : FstOk whole NTs NT2 FN2) :
  EqDct 1 ((leF FN2).map gS) (five.map tD ++ FrS.map (dueE (fiAll host (lkF FN1 (symS 84)) (lkF FN1)))) := by
 have hl : FN2.length = 4 := by have := congrArg List.length F2.keys; rw [List.length_map, List.length_map, told_len T2 PO.g2] at this; exact this
 have hn : (FN2.map (·.1)).Nodup := by rw [F2.keys]; exact T2.n.nn
 have fU : ∀ f ∈ fstU, PyData.strOk f = true := by decide +kernel
 refine eqd_of (by simp [leF, FrS, hl]) fun p hp => ?_
 rcases List.mem_append.mp hp with hp | hp
 ·obtain ⟨t, ht, rfl⟩ := List.mem_map.mp hp
  refine ⟨fun f hf => by rw [List.mem_singleton.mp hf]; exact five_ok t ht, ?_⟩
  rw [tD_lookup ht]; show some (D.list [.str t]) = some (D.list ((sortS [t]).map .str)); rw [sort_one]; rfl
 ·obtain ⟨e, he, rfl⟩ := List.mem_map.mp hp
  have hk : e.1 ∈ NT2.map (·.1) := by rw [← F2.keys]; exact List.mem_map_of_mem (f := (·.1)) he
  obtain ⟨c, hc, ec⟩ := (T2.ns PO.g2 _).mp hk
  have hm : ∀ f, f ∈ e.2.2 ↔ FsC whole c f := fun f => by rw [← fe_lk hn he, ec]; exact F2.lk.nt c hc f
  refine ⟨fun f hf => fU f ((hm f).mp hf).inU, ?_⟩
  show List.lookup e.1 _ = some (D.list ((sortS e.2.2).map .str))
  rw [ec, lookup_app_none (by rw [tD_keys]; exact five_no c hc), due_at ((frS_iff c).mpr hc)]
  rw [sort_set (F2.nd e he) fun f => ?_]
  rw [hm f]
  unfold fiAll
  rcases nts_two hc with h | h
  ·rw [if_pos h]; exact PO.fst _ (F1.lk.nt 84 (by decide)) c h f
  ·rw [if_neg fun z => by rcases h with rfl | rfl <;> exact absurd z (by decide), PO.fst2 c h f]; exact (F1.lk.nt c (by simpa using h) f).symm
theorem follow_eq (PO : PlainOk host part whole) (T2 : Told whole 83 TT2 NT2 PN2) (F1 : FstOk part [84, 66] NT1 FN1) (O1 : FolOk part [84, 66] 84 NT1 FO1) (O2 : FolOk whole NTs 83 NT2 FO2) :
  EqDct 1 ((leL FO2).map gS) (FrS.map (dueE (foAll host (lkF FN1 (symS 84)) (lkF FO1)))) := by
 have hl : FO2.length = 4 := by have := congrArg List.length O2.keys; rw [List.length_map, List.length_map, told_len T2 PO.g2] at this; exact this
 have hn : (FO2.map (·.1)).Nodup := by rw [O2.keys]; exact T2.n.nn
 have fU : ∀ f ∈ folU, PyData.strOk f = true := by decide +kernel
 refine eqd_of (by simp [leL, FrS, hl]) fun p hp => ?_
 obtain ⟨e, he, rfl⟩ := List.mem_map.mp hp
 have hk : e.1 ∈ NT2.map (·.1) := by rw [← O2.keys]; exact List.mem_map_of_mem (f := (·.1)) he
 obtain ⟨c, hc, ec⟩ := (T2.ns PO.g2 _).mp hk
 have hm : ∀ f, f ∈ e.2.2 ↔ Fol whole 83 c f := fun f => by rw [← fe_lk hn he, ec]; exact O2.mem c hc f
 refine ⟨fun f hf => fU f ((hm f).mp hf).inU, ?_⟩
 show List.lookup e.1 _ = some (D.list ((sortS e.2.2).map .str))
 rw [ec, due_at ((frS_iff c).mpr hc)]
 rw [sort_set (O2.nd e he) fun f => ?_]
 rw [hm f]
 unfold foAll
 rcases nts_two hc with h | h
 ·rw [if_pos h]; exact PO.fol _ (F1.lk.nt 84 (by decide)) c h f
 ·rw [if_neg fun z => by rcases h with rfl | rfl <;> exact absurd z (by decide), PO.fol2 _ (F1.lk.nt 84 (by decide)) c h f]
  have hcm : c ∈ [84, 66] := by simpa using h
  rw [List.mem_append, List.mem_filter, O1.mem c hcm f]
  refine or_congr (and_congr Iff.rfl (by simp)) ?_
  by_cases he : ("$end" : Str) ∈ lkF FO1 (symS c)
  ·rw [if_pos he]; exact ⟨fun z => z.2, fun z => ⟨(O1.mem c hcm _).mp he, z⟩⟩
  ·rw [if_neg he]
   exact ⟨fun z => absurd ((O1.mem c hcm _).mpr z.1) he, fun z => by cases z⟩
theorem folw_len {t : List Str} (hH : HostOk host) (hf : ∀ c, (letOf host t c).length ≤ 500) (c : Nat) : (folwOf host t c).length ≤ 2000000 := by
 have ho := occs_len hH.len
 have hfw := hH.few
 have hb : ∀ n, (baseOf (vanOf host t) (letOf host t) (occs host) n).length ≤ 40000 := fun n => by
  have := base_len (van := vanOf host t) (n := n) hf (occ_len hH.len)
  lia
 have h2 : ∀ n, (fol2 (baseOf (vanOf host t) (letOf host t) (occs host)) (endsOf (vanOf host t) (occs host)) n).length ≤ 80000 := fun n => by
  have h83 := hb 83
  have h65 := hb 65
  unfold fol2
  split
  ·unfold folS; rw [List.length_append]; split <;> simp <;> lia
  ·unfold folA; rw [List.length_append]; split <;> simp <;> lia
 unfold folwOf folOf
 split
 ·have h1 := flat_len (f := fol2 (baseOf (vanOf host t) (letOf host t) (occs host)) (endsOf (vanOf host t) (occs host))) (m := 80000) (l := endsOf (vanOf host t) (occs host) 84) fun n _ => h2 n
  have he := ends_len (van := vanOf host t) (n := 84) (occs host)
  have h84 := hb 84
  rw [List.length_append]
  lia
 ·have := h2 c; exact le_c this rfl
theorem leF_nd (PO : PlainOk host part whole) (T2 : Told whole 83 TT2 NT2 PN2) (F2 : FstOk whole NTs NT2 FN2) : ((leF FN2).map (·.1)).Nodup := by
 rw [leF_keys, F2.keys, List.nodup_append]
 refine ⟨by decide, T2.n.nn, fun a ha b hb e => ?_⟩
 obtain ⟨c, hc, ec⟩ := (T2.ns PO.g2 b).mp hb
 rw [e, ec] at ha
 exact five_no c hc ha
theorem leF_few (PO : PlainOk host part whole) (T2 : Told whole 83 TT2 NT2 PN2) (F2 : FstOk whole NTs NT2 FN2) : ∀ p ∈ leF FN2, p.2.length ≤ 4 := fun p hp => by
 rcases List.mem_append.mp hp with hp | hp
 ·obtain ⟨t, ht, rfl⟩ := List.mem_map.mp hp; exact Nat.le_of_ble_eq_true rfl
 ·obtain ⟨e, he, rfl⟩ := List.mem_map.mp hp
  have hn : (FN2.map (·.1)).Nodup := by rw [F2.keys]; exact T2.n.nn
  have hk : e.1 ∈ NT2.map (·.1) := by rw [← F2.keys]; exact List.mem_map_of_mem (f := (·.1)) he
  obtain ⟨c, hc, ec⟩ := (T2.ns PO.g2 _).mp hk
  have := (fst_in F2 T2 PO.g2 (.inl hc)).1
  rw [← ec, fe_lk hn he] at this
  exact this
theorem leL_nd (T2 : Told whole 83 TT2 NT2 PN2) (O2 : FolOk whole NTs 83 NT2 FO2) : ((leL FO2).map (·.1)).Nodup := by
 rw [leL_keys, O2.keys]; exact T2.n.nn
theorem leL_few (PO : PlainOk host part whole) (T2 : Told whole 83 TT2 NT2 PN2) (O2 : FolOk whole NTs 83 NT2 FO2) : ∀ p ∈ leL FO2, p.2.length ≤ 4 := fun p hp => by
 obtain ⟨e, he, rfl⟩ := List.mem_map.mp hp
 have hn : (FO2.map (·.1)).Nodup := by rw [O2.keys]; exact T2.n.nn
 have hk : e.1 ∈ NT2.map (·.1) := by rw [← O2.keys]; exact List.mem_map_of_mem (f := (·.1)) he
 obtain ⟨c, hc, ec⟩ := (T2.ns PO.g2 _).mp hk
 refine nodup_len (U := folU) (O2.nd e he) fun f hf => ?_
 rw [← fe_lk hn he, ec] at hf
 exact ((O2.mem c hc f).mp hf).inU
theorem leF_len (PO : PlainOk host part whole) (T2 : Told whole 83 TT2 NT2 PN2) (F2 : FstOk whole NTs NT2 FN2) : (leF FN2).length ≤ 20 := by
 have := congrArg List.length F2.keys; rw [List.length_map, List.length_map, told_len T2 PO.g2] at this
 simp [leF, five, tsS]; exact le_c (Nat.le_of_eq this) rfl
theorem leL_len (PO : PlainOk host part whole) (T2 : Told whole 83 TT2 NT2 PN2) (O2 : FolOk whole NTs 83 NT2 FO2) : (leL FO2).length ≤ 20 := by
 have := congrArg List.length O2.keys; rw [List.length_map, List.length_map, told_len T2 PO.g2] at this
 simp [leL]; exact le_c (Nat.le_of_eq this) rfl
end
section
variable {w : World} {mg mb : Str → Option Value} {fr : List Env} {A : Around} {env : Env} {σ : Sg} {P : D → Sg → Prop} {Q : Fl → Sg → Prop}
theorem host_rp (b : Heap) (T : (X3 w mg mb fr).Top b) : Rp (X3 w mg mb fr) b (.ref 251) (rowD HSTs) := .list (T.inK _ _ rfl) (.cons (.str ..) (.cons (.str ..) (.cons (.str ..) (.cons (.str ..) (.cons (.str ..) .nil)))))
theorem part_rp (b : Heap) (T : (X3 w mg mb fr).Top b) : Rp (X3 w mg mb fr) b (.ref 252) (rowD PRTs) := .list (T.inK _ _ rfl) (.cons (.str ..) (.cons (.str ..) (.cons (.str ..) (.cons (.str ..) .nil))))
theorem deqQ (a b : CPr) : deq (qD a) (qD b) = decide (a = b) := by
 have hs : ∀ l m : List Nat, PyData.eqvAll ((l.map sD).map D.py) ((m.map sD).map D.py) = decide (l = m) := by
  intro l
  induction l with
  | nil => intro m; cases m <;> simp [PyData.eqvAll]
  | cons x l ih =>
   intro m
   cases m with
   | nil => simp [PyData.eqvAll]
   | cons y m =>
    simp only [List.map_cons, PyData.eqvAll, ih]
    have h1 := deqSy x y
    unfold deq at h1
    rw [h1, ← Bool.decide_and]
    congr 1
    simp
 have hp : ∀ l : List D, D.py (.list l) = .list (l.map D.py) := fun l => by simp only [D.py, pyAll_eq]
 have ht : ∀ l : List D, D.py (.tup l) = .tuple (l.map D.py) := fun l => by simp only [D.py, pyAll_eq]
 unfold deq qD rowD
 rw [ht, ht]
 simp only [List.map_cons, List.map_nil, PyData.eqv, PyData.eqvAll, hp, hs]
 have h1 := deqSy a.1 b.1
 unfold deq at h1
 rw [h1, Bool.and_true, ← Bool.decide_and]
 congr 1
 rw [Prod.ext_iff]
theorem anyQ (l : List CPr) (x : CPr) : ((l.map qD).any fun y => deq y (qD x)) = decide (x ∈ l) := by
 induction l with
 | nil => rfl
 | cons y r ih =>
  rw [List.map_cons, List.any_cons, ih, deqQ]
  simp only [List.mem_cons, Bool.decide_or, eq_comm]
theorem okQ1 {q : CPr} (h : q.ok) : okd 2 (qD q) = true := by
 show [sD q.1, rowD q.2].all (okd 1) = true
 rw [List.all_cons, okSy 1 h.1, List.all_cons]
 show ((q.2.map sD).all (okd 0) && true) = true
 rw [okSys 0 h.2]; rfl
theorem okQl {l : List CPr} (h : ∀ q ∈ l, q.ok) : (l.map qD).all (okd 2) = true := by
 rw [List.all_map]
 exact List.all_eq_true.mpr fun q hq => okQ1 (h q hq)
theorem prt_sym : ∀ c ∈ PRTs, c ∈ symCodes := by decide
noncomputable def RwsOf (ns syms : List Nat) (m : Nat) (out : List CPr) : Prop := out.map (·.1) = ns ∧ ∀ q ∈ out, q.2.length ≤ m ∧ ∀ c ∈ q.2, c ∈ syms
theorem RwsOf.snoc {ns syms : List Nat} {m : Nat} {out : List CPr} {n : Nat} {r : List Nat} (h : RwsOf ns syms m out) (h1 : r.length ≤ m) (h2 : ∀ c ∈ r, c ∈ syms) : RwsOf (ns ++ [n]) syms m (out ++ [(n, r)]) := by
 refine ⟨by rw [List.map_append, h.1]; rfl, fun q hq => ?_⟩
 rcases List.mem_append.mp hq with hq | hq
 ·exact h.2 q hq
 ·rw [List.mem_singleton.mp hq]; exact ⟨h1, h2⟩
theorem rows2 {a b : Nat} {syms : List Nat} {m : Nat} {out : List CPr} (h : RwsOf [a, b] syms m out) : ∃ x y, out = [(a, x), (b, y)] := by
 obtain ⟨h1, _⟩ := h
 match out, h1 with
 | [p, q], h1 =>
  simp only [List.map_cons, List.map_nil, List.cons.injEq, and_true] at h1
  exact ⟨p.2, q.2, by rw [← h1.1, ← h1.2]⟩
theorem Hosted.hok {host part : List CPr} (H : Hosted host part) : ∀ q ∈ host, q.ok := fun q hq => ⟨by rcases H.hlhs q hq with h | h <;> rw [h] <;> decide, fun c hc => hst_sym c (H.hrhs q hq c hc)⟩
theorem Hosted.pok {host part : List CPr} (H : Hosted host part) : ∀ q ∈ part, q.ok := fun q hq => ⟨by rcases H.plhs q hq with h | h <;> rw [h] <;> decide, fun c hc => prt_sym c (H.prhs q hq c hc)⟩
theorem all_snoc {α : Type} {l : List α} {x : α} {p : α → Prop} (h : ∀ q ∈ l, p q) (hx : p x) : ∀ q ∈ l ++ [x], p q := fun q hq => by
 rcases List.mem_append.mp hq with hq | hq
 ·exact h q hq
 ·rw [List.mem_singleton.mp hq]; exact hx
theorem nodup_snoc {α : Type} {l : List α} {x : α} (h : l.Nodup) (hx : x ∉ l) : (l ++ [x]).Nodup := by
 rw [List.nodup_append]
 exact ⟨h, by simp, fun a ha b hb => by rw [List.mem_singleton.mp hb]; rintro rfl; exact hx ha⟩
theorem Hosted.addH {host part : List CPr} (H : Hosted host part) {c : Nat} {r : List Nat} (hc : c = 83 ∨ c = 65) (hf : host.length + part.length < 7) (hr : r.length ≤ 3) (hs : ∀ x ∈ r, x ∈ HSTs) (hn : (c, r) ∉ host) : Hosted (host ++ [(c, r)]) part := by
 obtain ⟨x, y, l, e⟩ := H.hhd
 exact ⟨⟨x, y, l ++ [(c, r)], by rw [e]; rfl⟩, H.phd, all_snoc H.hlhs hc, H.plhs, all_snoc H.hrhs hs, H.prhs, all_snoc H.hlen hr, H.plen, nodup_snoc H.hnd hn, H.pnd, by simp; lia⟩
theorem Hosted.addP {host part : List CPr} (H : Hosted host part) {c : Nat} {r : List Nat} (hc : c = 84 ∨ c = 66) (hf : host.length + part.length < 7) (hr : r.length ≤ 2) (hs : ∀ x ∈ r, x ∈ PRTs) (hn : (c, r) ∉ part) : Hosted host (part ++ [(c, r)]) := by
 obtain ⟨x, y, l, e⟩ := H.phd
 exact ⟨H.hhd, ⟨x, y, l ++ [(c, r)], by rw [e]; rfl⟩, H.hlhs, all_snoc H.plhs hc, H.hrhs, all_snoc H.prhs hs, H.hlen, all_snoc H.plen hr, H.hnd, nodup_snoc H.pnd hn, by simp; lia⟩
set_option maxHeartbeats 8000000
theorem law_body {ns : List Int} {k : Nat} (PL : ∀ f host part, Hosted host part → PlainOk host part (wholeOf f host part)) (R : ARoom (k + 30) A) (FR : A.frames = some []) (hz : ns.length ≤ 1000) {s : Shared} {b : Heap} {vs : List Value} {RR : Result → Shared → Prop}
  (H : Hp (X3 w mg mb []) [(176, C.raw (TabI markP markQ))] b s) (rv : RpAll (X3 w mg mb []) b vs [.list (ns.map .int)])
  (fin : ∀ v (σ' : Sg) s' b', Rp (X3 w mg mb []) b' v (.bool true) → (176, C.raw (TabI markP markQ)) ∈ σ'.ω → Hp (X3 w mg mb []) σ'.ω b' s' → (∀ a o, a ≠ 176 → s.heap.get? a = some o → s'.heap.get? a = some o) → s'.gens = s.gens → s'.os = s.os → RR (.ok (.ret v)) s') :
  codeAny (X3 w mg mb []).M A (.call (.ref 303) ⟨vs, []⟩) RR s := by
 refine fn_callTopW (dbs := [("script", .list (ns.map .int))]) (PT := fun d σ' => d = .bool true ∧ (176, C.raw (TabI markP markQ)) ∈ σ'.ω) ⟨⟨_, _, _, rfl⟩, rfl, rfl, rfl, rfl, rfl, rfl, rfl, rfl, rfl, rfl, rfl, rfl⟩ R.room rfl H rv ?_ rfl rfl ?_ ?_
 ·intro s b vs T hb r
  obtain ⟨v1, rfl, r1⟩ := r.i_one
  exact ⟨_, BindsTo.of_eq rfl, .cons r1 .nil⟩
 rotate_left
 ·rintro v d σ' s' b' r ⟨rfl, h⟩ hH hk hg ho
  exact fin v σ' s' b' r h hH (fun a o ha => hk a o (by simpa using ha)) hg ho
 ·intro L
  have hsl' := hsl
  have R' : ∀ e, ARoom (k + 29) (A.deeper e) := fun e => R.deeper
  generalize hω : [((176 : Addr), C.raw (TabI markP markQ))] = ω0
  have hT0 : ((176 : Addr), C.raw (TabI markP markQ)) ∈ ω0 := by rw [← hω]; exact .head _
  clear hω H rv fin
  try dsimp only
  refine exs_let ?_; intro X' A' e' q'
  refine exs_cons (ex_assign (ev_compG (e := .ListComp _ _ _ _) (by rfl) loop_l start_l new_l (preG (ns.take 30) D.int (fun pre out ω₁ => out = (pre.map fun n => n.fmod 720720).map D.int ∧ ω₁ = ω0) ?_ ?_ ?_) (fun _ => rfl) rfl rfl) rfl rfl)
  ·refine src_of (ev_slice_to ?_ rfl)
   walk_at "m"
   refine ⟨_, 30, rfl, by simp; exact le_s hz rfl, .data, ?_⟩
   rw [← List.map_take]
   exact ⟨itb_list R.hd, rfl, rfl, rfl⟩
  ·rintro cl Ca acc pre x post out ω₁ hsp ⟨rfl, e1⟩
   rw [e1]; clear e1 ω₁
   have hpre : pre.length < 30 := by have := congrArg List.length hsp; simp at this; lia
   refine asg_name rfl (ts_nil ?_)
   rw [QIt, if_pos rfl]
   refine tru_l ?_
   walk_at "m"
   refine op_mod (by decide) ⟨_, _, rfl, by simp; exact le_s (Nat.le_of_lt hpre) rfl, ⟨_, _, rfl, ?_, rfl⟩⟩
   simp
  rintro t out ω₁ ⟨rfl, e1⟩
  rw [e1]; clear e1 ω₁
  have hl0 : ((ns.take 30).map fun n => n.fmod 720720).length ≤ 30 := by simp; lia
  generalize ((ns.take 30).map fun n => n.fmod 720720) = ns0 at hl0 ⊢
  try dsimp only
  walk_at "m"
  refine ev_callO (ev_glob (v := .ref 259) rfl (fun _ _ => .raw _) rfl ⟨rfl, ?_⟩ rfl) rfl rfl rfl rfl
  walk_at "m"
  refine next_ok (k := k + 28) (R' _) (by walk_at "upd") (by exact le_c hl0 rfl) ?_
  walk_at "m"
  refine op_mod (by decide) ?_
  refine hide ?_; intro g; obtain ⟨sh, hsh, hsh3⟩ := fmod_at (ns0.headD 0) (n := 2) (by decide); dsimp only [g]
  rw [show ((2 : Nat) : Int) = 2 from rfl] at hsh
  rw [hsh]
  have hl1 : ns0.tail.length ≤ 30 := by rw [List.length_tail]; lia
  generalize ns0.tail = ns1 at hl1 ⊢
  try dsimp only
  refine exs_cons (ex_assign_compG (e := .ListComp _ _ _ _) (by rfl) loop_l start_l new_l (preG [83, 65] sD (fun pre out ω₁ => EA24 (fun (rs : List CPr) (tp : List Int) => RwsOf pre HSTs 3 rs) (fun rs tp => tp.length ≤ 30) (fun rs tp => out = rs.map qD) (fun rs tp => ω₁ = (t, .lst (tp.map .int)) :: ω0)) ?_ ?_ ?_) (fun _ => rfl) rfl (exec_Assign_Name_used _ _ _ _ rfl) rfl)
  ·refine src_of (ev_list ?_)
   walk_at "m"
   exact ⟨itb_list R.hd, rfl, [], ns1, ⟨rfl, fun q hq => by cases hq⟩, hl1, rfl, rfl⟩
  ·rintro cl Ca acc pre x post out ω₁ hsp ⟨rs, tp, hr, htl, e1, e2⟩
   rw [e1, e2]; clear e1 e2 out ω₁
   have hrl : rs.length ≤ 2 := by have h1 := congrArg List.length hsp; have h2 := congrArg List.length hr.1; simp at h1 h2; exact le_c (Nat.le_trans (Nat.le_of_eq h2) (Nat.le_trans (mid_l h1) (Nat.le_refl _))) rfl
   refine asg_name rfl (ts_nil ?_)
   rw [QIt, if_pos rfl]
   refine tru_l ?_
   walk_at "m"
   refine ev_callO (ev_glob (v := .ref 264) rfl (fun _ _ => .raw _) rfl ⟨rfl, ?_⟩ rfl) rfl rfl rfl rfl
   refine trl_cons (ev_var rfl rfl (trl_cons (ev_glob rfl host_rp rfl ?_ rfl) rfl) rfl rfl) rfl
   walk_at "m"
   refine row_ok (k := k + 27) (m := 3) (F := fun tp => (acc, .lst (rs.map qD)) :: (t, .lst (tp.map .int)) :: ω0) (R' _) rfl (fun _ _ => .tail .head) (by exact le_c htl rfl) (by decide) (by decide) (by decide) fun r tp' h1 h2 h3 => ?_
   walk_at "m"
   refine ⟨_, _, rfl, by simp; exact le_s hrl rfl, ⟨_, _, rfl, rs ++ [(x, r)], tp', hr.snoc h1 h2, by exact le_c (Nat.le_trans h3 htl) rfl, by simp [qD], rfl⟩⟩
  rintro hc out ω₁ ⟨rs, tp, hr, htl, e1, e2⟩
  rw [e1, e2]; clear e1 e2 out ω₁
  obtain ⟨hx, hy, rfl⟩ := rows2 hr
  have hrs := hr.2
  clear hr
  try dsimp only
  refine exs_cons (ex_assign_compG (e := .ListComp _ _ _ _) (by rfl) loop_l start_l new_l (preG [84, 66] sD (fun pre out ω₁ => EA24 (fun (rs : List CPr) (tp : List Int) => RwsOf pre PRTs 2 rs) (fun rs tp => tp.length ≤ 30) (fun rs tp => out = rs.map qD) (fun rs tp => ω₁ = (hc, .lst ([(83, hx), (65, hy)].map qD)) :: (t, .lst (tp.map .int)) :: ω0)) ?_ ?_ ?_) (fun _ => rfl) rfl (exec_Assign_Name_used _ _ _ _ rfl) rfl)
  ·refine src_of (ev_list ?_)
   walk_at "m"
   exact ⟨itb_list R.hd, rfl, [], tp, ⟨rfl, fun q hq => by cases hq⟩, htl, rfl, rfl⟩
  ·rintro cl Ca acc pre x post out ω₁ hsp ⟨rs, tp, hr, htl, e1, e2⟩
   rw [e1, e2]; clear e1 e2 out ω₁
   have hrl : rs.length ≤ 2 := by have h1 := congrArg List.length hsp; have h2 := congrArg List.length hr.1; simp at h1 h2; exact le_c (Nat.le_trans (Nat.le_of_eq h2) (Nat.le_trans (mid_l h1) (Nat.le_refl _))) rfl
   refine asg_name rfl (ts_nil ?_)
   rw [QIt, if_pos rfl]
   refine tru_l ?_
   walk_at "m"
   refine ev_callO (ev_glob (v := .ref 264) rfl (fun _ _ => .raw _) rfl ⟨rfl, ?_⟩ rfl) rfl rfl rfl rfl
   refine trl_cons (ev_var rfl rfl (trl_cons (ev_glob rfl part_rp rfl ?_ rfl) rfl) rfl rfl) rfl
   walk_at "m"
   refine row_ok (k := k + 27) (m := 2) (F := fun tp => (acc, .lst (rs.map qD)) :: (hc, .lst ([(83, hx), (65, hy)].map qD)) :: (t, .lst (tp.map .int)) :: ω0) (R' _) rfl (fun _ _ => .tail (.tail .head)) (by exact le_c htl rfl) (by decide) (by decide) (by decide) fun r tp' h1 h2 h3 => ?_
   walk_at "m"
   refine ⟨_, _, rfl, by simp; exact le_s hrl rfl, ⟨_, _, rfl, rs ++ [(x, r)], tp', hr.snoc h1 h2, by exact le_c (Nat.le_trans h3 htl) rfl, by simp [qD], rfl⟩⟩
  rintro pc out ω₁ ⟨rs, tp, hr, htl, e1, e2⟩
  rw [e1, e2]; clear e1 e2 out ω₁
  obtain ⟨px, py, rfl⟩ := rows2 hr
  have hps := hr.2
  have H0 : Hosted [(83, hx), (65, hy)] [(84, px), (66, py)] := by
   refine ⟨⟨_, _, _, rfl⟩, ⟨_, _, _, rfl⟩, by simp, by simp, fun q hq => (hrs q hq).2, fun q hq => (hps q hq).2, fun q hq => (hrs q hq).1, fun q hq => (hps q hq).1, by simp, by simp, by simp⟩
  clear hr hrs hps
  generalize ([(83, hx), (65, hy)] : List CPr) = host at H0 ⊢
  generalize ([(84, px), (66, py)] : List CPr) = part at H0 ⊢
  refine exs_cut (fun σ' => EA24 (fun host part => Hosted host part) (fun host part => Sub σ'.ρ [("part", .raw (.ref pc)), ("host", .raw (.ref hc)), ("flip", .int (sh : Nat))]) (fun host part => True) (fun host part => ∃ tp : List Int, σ'.ω = (pc, .lst (part.map qD)) :: (hc, .lst (host.map qD)) :: (t, .lst (tp.map .int)) :: ω0)) ?_ ?_
  ·let Iv1 : Nat → Sg → Prop := fun n σ' => EA34 (fun (host part : List CPr) (tp : List Int) => Hosted host part) (fun host part tp => n = tp.length ∧ n ≤ 30) (fun host part tp => Sub σ'.ρ [("part", .raw (.ref pc)), ("host", .raw (.ref hc)), ("flip", .int (sh : Nat)), ("tape", .raw (.ref t))]) (fun host part tp => σ'.ω = (pc, .lst (part.map qD)) :: (hc, .lst (host.map qD)) :: (t, .lst (tp.map .int)) :: ω0)
   refine ex_while Iv1 _ ⟨host, part, tp, H0, ⟨rfl, htl⟩, .cons rfl (.cons rfl (.cons rfl (.cons rfl .nil))), rfl⟩ ?_
   clear H0 htl tp host part
   rintro n ⟨ρ', ω'⟩ ⟨host, part, tp, HH, ⟨hn, htl⟩, hsub, hω⟩
   dsimp only at hsub hω
   subst hω
   refine TrB.sub hsub ?_
   clear hsub
   have hfw := HH.few
   walk_at "m"
   refine ob_list (ds := tp.map .int) (.cell (by walk_at "mem")) (by simp; lia) (ite_b (fun h1 => ?_) (fun h1 => ?_))
   rotate_left
   ·exact ite_f rfl (exs_nil ⟨rfl, host, part, HH, .cons rfl (.cons rfl (.cons rfl .nil)), trivial, tp, rfl⟩)
   have htp : 0 < tp.length := by cases tp with
    | nil => exact fet h1
    | cons a b => simp
   walk_at "m"
   refine ev_callB (ev_blt rfl (by boot_fast) (by decide) rfl ⟨rfl, ?_⟩ rfl) rfl rfl rfl
   walk_at "m"
   refine ol_len (.cell (by walk_at "mem")) (by simp; exact le_s (sub_l hfw) rfl) ?_
   walk_at "m"
   refine ev_callB (ev_blt rfl (by boot_fast) (by decide) rfl ⟨rfl, ?_⟩ rfl) rfl rfl rfl
   walk_at "m"
   refine ol_len (.cell (by walk_at "mem")) (by simp; exact le_s (sub_r hfw) rfl) ?_
   walk_at "m"
   refine op_add ?_
   walk_at "m"
   refine op_lt (ob_bool (ite_b (fun h6 => ?_) (fun h6 => ?_)))
   rotate_left
   ·exact ite_f rfl (exs_nil ⟨rfl, host, part, HH, .cons rfl (.cons rfl (.cons rfl .nil)), trivial, tp, rfl⟩)
   have h7 : host.length + part.length < 7 := by simp at h6; lia
   refine te_and_nil (ite_t rfl ?_)
   refine exs_cons (ex_assign (ev_sub (ev_list ?_)) rfl rfl)
   walk_at "m"
   refine ev_callO (ev_glob (v := .ref 259) rfl (fun _ _ => .raw _) rfl ⟨rfl, ?_⟩ rfl) rfl rfl rfl rfl
   walk_at "m"
   refine next_ok (k := k + 28) (R' _) (by walk_at "upd") (by lia) ?_
   walk_at "m"
   refine op_mod (by decide) ?_
   refine hide ?_; intro g; obtain ⟨j, hj, hj4⟩ := fmod_at (tp.headD 0) (n := 4) (by decide); dsimp only [g]
   rw [show ((4 : Nat) : Int) = 4 from rfl] at hj
   rw [hj]
   have htl2 : tp.tail.length < tp.length := by rw [List.length_tail]; lia
   generalize tp.tail = tp2 at htl2 ⊢
   refine op_item (x := sD (NTs.getD j 0)) .data (Int.natCast_nonneg j) ?_ (by show 4 ≤ sizeLine; exact le_s (Nat.le_refl _) rfl) ?_ (fun _ _ => rfl)
   ·have : j = 0 ∨ j = 1 ∨ j = 2 ∨ j = 3 := by lia
    rcases this with rfl | rfl | rfl | rfl <;> rfl
   have hc4 : (NTs.getD j 0 = 83 ∨ NTs.getD j 0 = 65) ∨ (NTs.getD j 0 = 84 ∨ NTs.getD j 0 = 66) := by
    have : j = 0 ∨ j = 1 ∨ j = 2 ∨ j = 3 := by lia
    rcases this with rfl | rfl | rfl | rfl <;> decide
   generalize NTs.getD j 0 = c at hc4 ⊢
   have hcs : c ∈ symCodes := by rcases hc4 with (rfl | rfl) | (rfl | rfl) <;> decide
   walk_at "m"
   refine ev_list ?_
   walk_at "m"
   have hin : (([D.str "S", D.str "A"] : List D).any fun y => deq y (sD c)) = decide (c = 83 ∨ c = 65) := by
    have := anySy [83, 65] c
    rw [show ([83, 65].map sD : List D) = [D.str "S", D.str "A"] from rfl] at this
    rw [this]; simp
   refine op_in (n := 0) (x := sD c) (R' _) .data (okSy 0 hcs) (by decide +kernel) (by decide) (ob_bool ?_)
   rw [hin]
   by_cases hcc : c = 83 ∨ c = 65
   ·refine ite_t (decide_eq_true hcc) ?_
    walk_at "m"
    refine ev_callO (ev_glob (v := .ref 264) rfl (fun _ _ => .raw _) rfl ⟨rfl, ?_⟩ rfl) rfl rfl rfl rfl
    refine trl_cons (ev_var rfl rfl (trl_cons (ev_glob rfl host_rp rfl ?_ rfl) rfl) rfl rfl) rfl
    walk_at "m"
    refine row_ok (k := k + 27) (m := 3) (tp := tp2) (F := fun tp => (pc, .lst (part.map qD)) :: (hc, .lst (host.map qD)) :: (t, .lst (tp.map .int)) :: ω0) (R' _) rfl (fun _ _ => .tail (.tail .head)) (by lia) (by decide) (by decide) (by decide) fun r tp3 hr1 hr2 hr3 => ?_
    walk_at "m"
    refine op_notin (n := 2) (x := qD (c, r)) (R' _) (.cell (by walk_at "mem")) (okQ1 ⟨hcs, fun x hx => hst_sym x (hr2 x hx)⟩) (okQl HH.hok) (by decide) (ob_bool ?_)
    rw [anyQ]
    refine ite_b (fun h9 => ?_) (fun h9 => ?_)
    ·have h9 : (c, r) ∉ host := by simpa using h9
     walk_at "m"
     refine ev_meth (T := "list") (id := "list.append") ?_ F.plainAttrs_list F.slot_list_append F.type_list_append rfl rfl rfl rfl rfl
     walk_at "m"
     refine ⟨isTy_lst (.cell (by walk_at "mem")), ?_⟩
     walk_at "m"
     refine ol_append (.tail .head) (by simp; exact le_s (sub_l hfw) rfl) ⟨rfl, ?_⟩
     walk_at "m"
     refine ⟨tp3.length, by exact Nat.lt_of_le_of_lt hr3 (Nat.lt_of_lt_of_le htl2 (Nat.le_of_eq hn.symm)), host ++ [(c, r)], part, tp3, HH.addH hcc h7 hr1 hr2 h9, ⟨rfl, by exact Nat.le_trans hr3 (Nat.le_trans (Nat.le_of_lt htl2) (Nat.le_trans (Nat.le_of_eq hn.symm) htl))⟩, .cons rfl (.cons rfl (.cons rfl (.cons rfl .nil))), by simp [qD]⟩
    ·walk_at "m"
     exact ⟨tp3.length, by exact Nat.lt_of_le_of_lt hr3 (Nat.lt_of_lt_of_le htl2 (Nat.le_of_eq hn.symm)), host, part, tp3, HH, ⟨rfl, by exact Nat.le_trans hr3 (Nat.le_trans (Nat.le_of_lt htl2) (Nat.le_trans (Nat.le_of_eq hn.symm) htl))⟩, .cons rfl (.cons rfl (.cons rfl (.cons rfl .nil))), rfl⟩
   ·refine ite_f (decide_eq_false hcc) ?_
    walk_at "m"
    refine ev_callO (ev_glob (v := .ref 264) rfl (fun _ _ => .raw _) rfl ⟨rfl, ?_⟩ rfl) rfl rfl rfl rfl
    refine trl_cons (ev_var rfl rfl (trl_cons (ev_glob rfl part_rp rfl ?_ rfl) rfl) rfl rfl) rfl
    walk_at "m"
    refine row_ok (k := k + 27) (m := 2) (tp := tp2) (F := fun tp => (pc, .lst (part.map qD)) :: (hc, .lst (host.map qD)) :: (t, .lst (tp.map .int)) :: ω0) (R' _) rfl (fun _ _ => .tail (.tail .head)) (by lia) (by decide) (by decide) (by decide) fun r tp3 hr1 hr2 hr3 => ?_
    walk_at "m"
    refine op_notin (n := 2) (x := qD (c, r)) (R' _) (.cell (by walk_at "mem")) (okQ1 ⟨hcs, fun x hx => prt_sym x (hr2 x hx)⟩) (okQl HH.pok) (by decide) (ob_bool ?_)
    rw [anyQ]
    refine ite_b (fun h9 => ?_) (fun h9 => ?_)
    ·have h9 : (c, r) ∉ part := by simpa using h9
     walk_at "m"
     refine ev_meth (T := "list") (id := "list.append") ?_ F.plainAttrs_list F.slot_list_append F.type_list_append rfl rfl rfl rfl rfl
     walk_at "m"
     refine ⟨isTy_lst (.cell (by walk_at "mem")), ?_⟩
     walk_at "m"
     refine ol_append .head (by simp; exact le_s (sub_r hfw) rfl) ⟨rfl, ?_⟩
     walk_at "m"
     refine ⟨tp3.length, by exact Nat.lt_of_le_of_lt hr3 (Nat.lt_of_lt_of_le htl2 (Nat.le_of_eq hn.symm)), host, part ++ [(c, r)], tp3, HH.addP (hc4.resolve_left hcc) h7 hr1 hr2 h9, ⟨rfl, by exact Nat.le_trans hr3 (Nat.le_trans (Nat.le_of_lt htl2) (Nat.le_trans (Nat.le_of_eq hn.symm) htl))⟩, .cons rfl (.cons rfl (.cons rfl (.cons rfl .nil))), by simp [qD]⟩
    ·walk_at "m"
     exact ⟨tp3.length, by exact Nat.lt_of_le_of_lt hr3 (Nat.lt_of_lt_of_le htl2 (Nat.le_of_eq hn.symm)), host, part, tp3, HH, ⟨rfl, by exact Nat.le_trans hr3 (Nat.le_trans (Nat.le_of_lt htl2) (Nat.le_trans (Nat.le_of_eq hn.symm) htl))⟩, .cons rfl (.cons rfl (.cons rfl (.cons rfl .nil))), rfl⟩
  rintro ⟨ρ', ω'⟩ ⟨host, part, HH, hsub, _, tp, hω⟩
  dsimp only at hsub hω
  subst hω
  refine TrF.sub hsub ?_
  clear hsub
  refine trF_freeze (ds := part.map qD) (ρ' := [("part", qsD part), ("host", .raw (.ref hc)), ("flip", .int (sh : Nat))]) (fun x d' e => look_one e) ?_
  refine TrF.sub (ρ' := [("host", .raw (.ref hc)), ("part", qsD part), ("flip", .int (sh : Nat))]) (.cons rfl (.cons rfl (.cons rfl .nil))) ?_
  refine trF_freeze (ds := host.map qD) (ρ' := [("host", qsD host), ("part", qsD part), ("flip", .int (sh : Nat))]) (fun x d' e => look_one e) ?_
  refine trF_drop (List.sublist_cons_self _ _) ?_
  have hfw := HH.few
  have hPL := fun f => PL f host part HH
  have hok1 := HH.hok
  have pok1 := HH.pok
  clear PL HH
  have g1 := (hPL true).g1
  try dsimp only
  refine exs_cons (ex_assign (ev_callO (ev_glob (v := .ref 293) rfl (fun _ _ => .raw _) rfl ⟨rfl, ?_⟩ rfl) rfl rfl rfl rfl) rfl rfl)
  walk_at "m"
  refine built_ok (start := 84) (k := k + 21) (R' _) (Around.frames_deeper FR) g1 fun ga TT1 NT1 PN1 T1 => ?_
  try dsimp only
  refine exs_cons (ex_assign (ev_callO (ev_glob (v := .ref 293) rfl (fun _ _ => .raw _) rfl ⟨rfl, ?_⟩ rfl) rfl rfl rfl rfl) rfl rfl)
  refine trl_cons (ev_cut (qsD (wholeOf ((sh : Int) != 0) host part)) ?_ ?_) rfl
  ·walk_at "m"
   refine ob_int ?_
   generalize ((sh : Int) != 0) = f
   cases f
   ·refine ite_f rfl ?_
    walk_at "m"
    refine op_addl .data .data (by simp; exact le_s hfw rfl) ⟨?_, rfl⟩
    simp [wholeOf, qsD]
   ·refine ite_t rfl ?_
    walk_at "m"
    refine op_addl .data .data (by simp; exact le_s (Nat.add_le_add (sub_r hfw) (sub_l hfw)) rfl) ⟨?_, rfl⟩
    simp [wholeOf, qsD]
  have PO := hPL ((sh : Int) != 0)
  clear hPL
  generalize wholeOf ((sh : Int) != 0) host part = whole at PO ⊢
  have g2 := PO.g2
  walk_at "m"
  refine built_ok (start := 83) (k := k + 21) (R' _) (Around.frames_deeper FR) g2 fun gw TT2 NT2 PN2 T2 => ?_
  refine trF_perm ((List.perm_append_comm (l₁ := [_, _, _]) (l₂ := [_, _, _])).append_right ω0) ?_
  try dsimp only [List.cons_append, List.nil_append]
  refine exs_cons (ex_assign (ev_ometh0 ?_ rfl) rfl rfl)
  walk_at "m"
  refine ⟨aGr, _, 228, .cell (.head _), rfl, rfl, ?_⟩
  refine firstC_ok (k := k + 27) (R' _) g1 T1 fun FN1 F1 => ?_
  refine trF_freezeF (fun x d' e => look_one e) ?_
  refine exs_cons (ex_assign (ev_ometh ?_ rfl rfl rfl) rfl rfl)
  walk_at "m"
  refine ⟨aGr, _, 236, .cell (.head _), rfl, rfl, ?_⟩
  walk_at "m"
  refine followC_ok (start := 84) (k := k + 27) (R' _) g1 T1 F1 fun FO1 O1 => ?_
  refine trF_freezeM (fun x d' e => look_one e) ?_
  have hH := PO.oth.hok
  have ht1 : ∀ f, f ∈ lkF FN1 (symS 84) ↔ FsC part 84 f := F1.lk.nt 84 (by decide)
  have lt1 := (fst_in F1 T1 g1 (c := 84) (.inl (by decide))).1
  have ot1 := (fst_in F1 T1 g1 (c := 84) (.inl (by decide))).2
  have hat : (FDf tsS FN1).lookup (symS 84) = some (.list ((lkF FN1 (symS 84)).map .str)) := fdf_at F1 T1 g1 (.inl (by decide))
  have hU : ∀ f ∈ fstU, PyData.strOk f = true := by decide +kernel
  have okt : ∀ f ∈ lkF FN1 (symS 84), PyData.strOk f = true := fun f hf => hU f (ot1 f hf)
  have pf := PO.fst _ ht1
  have pl := PO.fol _ ht1
  have pl2 := PO.fol2 _ ht1
  have hlet := letOf_len (t := lkF FN1 (symS 84)) hH.len hH.few (by exact le_c lt1 rfl)
  refine exs_cons (ex_assign (ev_callO (ev_glob (v := .ref 269) rfl (fun _ _ => .raw _) rfl ⟨rfl, ?_⟩ rfl) rfl rfl rfl rfl) rfl rfl)
  refine trl_cons (ev_var rfl rfl (trl_cons (ev_cut (rowD (if epsS ∈ lkF FN1 (symS 84) then [84] else [])) ?_ ?_) rfl) rfl rfl) rfl
  ·walk_at "m"
   refine ev_sub ?_
   walk_at "m"
   refine op_dget .data hat ?_ (fun _ _ => rfl)
   refine op_in (n := 0) (x := .str epsS) (R' _) .data (by decide +kernel) (ok_strs okt 0) (by decide) (ob_bool ?_)
   rw [any_str, Bool.eq_iff_iff.mpr (any_eq.trans (decide_eq_true_iff (p := epsS ∈ lkF FN1 (symS 84))).symm)]
   by_cases h : epsS ∈ lkF FN1 (symS 84)
   ·refine ite_t (decide_eq_true h) ?_
    rw [if_pos h]
    refine ev_list ?_
    walk_at "m"
    exact ⟨rfl, rfl⟩
   ·refine ite_f (decide_eq_false h) ?_
    rw [if_neg h]
    exact ev_list (trl_nil ⟨Nat.le_of_ble_eq_true rfl, rfl, rfl⟩)
  have hkn : ∀ c ∈ (if epsS ∈ lkF FN1 (symS 84) then [84] else []), c ∈ symCodes := fun c hc => by
   split at hc
   ·rw [List.mem_singleton.mp hc]; decide
   ·cases hc
  walk_at "m"
  refine closed_ok (k := k + 28) (R' _) hH.rows hkn (by split <;> simp) ?_
  have hvs : ∀ c ∈ vanOf host (lkF FN1 (symS 84)), c ∈ symCodes := closN_ok hkn (fun q hq => (hH.rows.ok q hq).1) 2
  change QAss _ _ (rowD (vanOf host (lkF FN1 (symS 84)))) _
  generalize ht1e : lkF FN1 (symS 84) = t1 at ht1 lt1 ot1 hat okt pf pl pl2 hlet hkn hvs ⊢
  refine exs_cons (ex_assign (ev_callO (ev_glob (v := .ref 281) rfl (fun _ _ => .raw _) rfl ⟨rfl, ?_⟩ rfl) rfl rfl rfl rfl) rfl rfl)
  refine trl_cons (ev_var rfl rfl (trl_cons (ev_var rfl rfl (trl_cons (ev_lc t1 .str (fun f => !decide (f = epsS)) .str (by rfl) (by exact le_s lt1 rfl) (fun _ => rfl) ?_ ?_ ?_) rfl) rfl rfl) rfl) rfl rfl) rfl
  ·refine src_of (ev_sub ?_)
   walk_at "m"
   exact op_dget .data hat ⟨itb_list R.hd, rfl, rfl⟩ (fun _ _ => rfl)
  ·intro cl Ca acc pre f post hsp
   have hf : PyData.strOk f = true := okt f (by rw [hsp]; simp)
   refine asg_name rfl (ts_one ?_)
   walk_at "m"
   refine op_ne (n := 0) (R' _) hf (by decide +kernel) (by decide) (ob_bool ⟨?_, rfl, fun _ => ?_⟩)
   ·show (!(f == epsS)) = !decide (f = epsS)
    rw [Bool.eq_iff_iff.mpr (beq_iff_eq.trans (decide_eq_true_iff (p := f = epsS)).symm)]
   walk_at "m"
   exact ⟨rfl, rfl⟩
  walk_at "m"
  refine firsts_ok (inner := innerOf t1) (k := k + 26) (R' _) hH hvs (Nat.le_trans (List.length_filter_le _ _) (by exact le_c lt1 rfl)) ?_
  refine exs_cons (ex_assign (ev_callO (ev_glob (v := .ref 286) rfl (fun _ _ => .raw _) rfl ⟨rfl, ?_⟩ rfl) rfl rfl rfl rfl) rfl rfl)
  walk_at "m"
  refine follows_ok (f := letOf host t1) (k := k + 26) (R' _) hH hvs hlet ?_
  refine exs_cons (ex_dcC (tsS ++ [("$end" : Str)]) .str tD (by rfl) (Nat.le_of_ble_eq_true rfl) (by decide) (fun _ => rfl) rfl rfl ?_ ?_ fun fi => ?_)
  ·refine src_of (ev_list ?_)
   walk_at "m"
   exact ⟨itb_list R.hd, rfl, rfl⟩
  ·intro cl Ca acc pre t post hsp
   refine asg_name rfl (ts_nil ⟨rfl, ?_⟩)
   walk_at "m"
   refine ⟨rfl, ev_list ?_⟩
   walk_at "m"
   exact ⟨rfl, rfl⟩
  refine exs_cons (ex_assign (ev_dictC fun fo => ?_) rfl rfl)
  let W : Om := (ga.d, .dct (grF part 84 TT1 NT1 PN1 (.dct (FDf tsS FN1)) (.dct (FO1.map fF)) (.raw (.ref ga.us)))) :: (gw.d, .dct (grD gw whole 83 TT2 NT2 PN2)) :: (gw.fi, .dct []) :: (gw.fo, .dct []) :: ω0
  let fa := fiAll host t1 (lkF FN1)
  let fb := foAll host t1 (lkF FO1)
  let ρc : List (Str × D) := [("follow", .raw (.ref fo)), ("first", .raw (.ref fi)), ("follows", .dct (threeD fun n => strsD (folwOf host t1 n))), ("letters", .dct (letD (letOf host t1))), ("vanish", rowD (vanOf host t1)), ("after", .dct (FO1.map fF)), ("begins", .dct (FDf tsS FN1)), ("whole", .obj aGr gw.d), ("alone", .obj aGr ga.d), ("host", qsD host), ("part", qsD part)]
  let ωc : List Nat → Om := fun pre => (fo, .dct (pre.map (dueE fb))) :: (fi, .dct ((tsS ++ [("$end" : Str)]).map tD ++ pre.map (dueE fa))) :: W
  have hbase : ∀ b ∈ (tsS ++ [("$end" : Str)]).map tD, ∀ c ∈ NTs, b.1 ≠ symS c := by decide +kernel
  refine exs_cons (ex_forL [83, 65] sD (fun _ => ρc) ωc ?_ ?_ (exs_nil ?_) (fun _ => rfl))
  ·refine src_of (ev_list ?_)
   walk_at "m"
   exact ⟨itb_list R.hd, .cons rfl (.cons rfl (.cons rfl (.cons rfl (.cons rfl (.cons rfl (.cons rfl (.cons rfl (.cons rfl (.cons rfl (.cons rfl .nil)))))))))), rfl⟩
  ·intro pre c post hsp
   have hc : c = 83 ∨ c = 65 := by
    have : c ∈ [83, 65] := by rw [hsp]; simp
    simpa using this
   have hcp : c ∉ pre := fun z => by
    have h1 : ([83, 65] : List Nat).Nodup := by decide
    rw [hsp, List.nodup_append] at h1
    exact h1.2.2 c z c (.head _) rfl
   have hcn : c ∈ NTs := by rcases hc with rfl | rfl <;> decide
   have hch : c ∈ HSTs := by rcases hc with rfl | rfl <;> decide
   refine asg_name rfl ?_
   refine exs_cons (ex_dset (ev_sortset R.hd (ev_blt rfl (by boot_fast) (by decide) rfl ⟨rfl, ev_blt rfl (by boot_fast) (by decide) rfl ⟨rfl, ev_bin (ev_sub ?_)⟩ rfl⟩ rfl) rfl rfl rfl) rfl)
   walk_at "m"
   refine op_dget .data (let_at (inner := t1) c hch) ?_ (fun _ _ => rfl)
   refine ev_cut (strsD (if c ∈ vanOf host t1 then [epsS] else [])) ?_ ?_
   ·walk_at "m"
    refine op_in (n := 0) (x := sD c) (R' _) .data (okSy 0 (hst_sym c hch)) (okSys 0 hvs) (by decide) (ob_bool ?_)
    rw [anySy]
    by_cases h : c ∈ vanOf host t1
    ·refine ite_t (decide_eq_true h) ?_
     rw [if_pos h]
     refine ev_list ?_
     walk_at "m"
     exact ⟨rfl, rfl⟩
    ·refine ite_f (decide_eq_false h) ?_
     rw [if_neg h]
     exact ev_list (trl_nil ⟨Nat.le_of_ble_eq_true rfl, rfl, rfl⟩)
   refine op_addl .data .data (by have := hlet c; simp only [List.length_map]; split <;> simp <;> lia) ?_
   rw [← List.map_append]
   refine ⟨_, .data, Nat.lt_of_le_of_lt (setS_few (U := fstU) fun x hx => ((pf c hc x).mpr hx).inU) (by decide), ?_⟩
   walk_at "m"
   have hpl : pre.length ≤ 2 := by have := congrArg List.length hsp; simp at this; exact le_c (Nat.le_trans (mid_l this) (Nat.le_refl _)) rfl
   refine ⟨_, _, _, _, rfl, rfl, .tail (.put (put_dueE (f := fa) (fun b hb => hbase b hb c hcn) hcp (by show _ = D.list ((sortS (setS (fiAll host t1 (lkF FN1) c))).map .str); rw [fiAll, if_pos hc]))), by simp [tsS]; lia, ?_⟩
   refine exs_cons (ex_dset (ev_sortset R.hd (ev_blt rfl (by boot_fast) (by decide) rfl ⟨rfl, ev_blt rfl (by boot_fast) (by decide) rfl ⟨rfl, ev_sub ?_⟩ rfl⟩ rfl) rfl rfl rfl) rfl)
   walk_at "m"
   refine op_dget .data (three_at _ (hc.imp id .inl)) ?_ (fun _ _ => rfl)
   refine ⟨_, .data, Nat.lt_of_le_of_lt (setS_few (U := folU) fun x hx => ((pl c hc x).mpr hx).inU) (by decide), ?_⟩
   walk_at "m"
   refine ⟨_, _, _, _, rfl, rfl, .put (put_dueE (base := []) (f := fb) (fun b hb => by cases hb) hcp (by show _ = D.list ((sortS (setS (foAll host t1 (lkF FO1) c))).map .str); rw [foAll, if_pos hc])), by simp; exact le_s hpl rfl, ?_⟩
   exact exs_nil ⟨.cons rfl (.cons rfl (.cons rfl (.cons rfl (.cons rfl (.cons rfl (.cons rfl (.cons rfl (.cons rfl (.cons rfl (.cons rfl .nil)))))))))), rfl⟩
  have hke : ∀ c ∈ [84, 66], symS c ∈ FO1.map (·.1) := fun c hc => by rw [O1.keys]; exact (T1.ns g1 _).mpr ⟨c, hc, rfl⟩
  have h84 : ∀ c : Nat, c = 84 ∨ c = 66 → c ∈ [84, 66] := fun c h => by simpa using h
  have ofU : ∀ c : Nat, c = 84 ∨ c = 66 → ∀ f ∈ lkF FO1 (symS c), f ∈ folU := fun c h f hf => ((O1.mem c (h84 c h) f).mp hf).inU
  have hnd2 : ∀ c : Nat, c = 84 ∨ c = 66 → (lkF FO1 (symS c)).length ≤ 4 := fun c h => by
   obtain ⟨a, ha⟩ := lkF_mem (hke c (h84 c h))
   exact nodup_len (O1.nd _ ha) (ofU c h)
  have oU : ∀ f ∈ folU, PyData.strOk f = true := by decide +kernel
  refine exs_cons (ex_forL [84, 66] sD (fun _ => ρc) (fun pre => ωc ([83, 65] ++ pre)) ?_ ?_ (exs_nil ?_) (fun _ => rfl))
  ·refine src_of (ev_list ?_)
   walk_at "m"
   exact ⟨itb_list R.hd, .cons rfl (.cons rfl (.cons rfl (.cons rfl (.cons rfl (.cons rfl (.cons rfl (.cons rfl (.cons rfl (.cons rfl (.cons rfl .nil)))))))))), rfl⟩
  ·intro pre c post hsp
   have hc : c = 84 ∨ c = 66 := by
    have : c ∈ [84, 66] := by rw [hsp]; simp
    simpa using this
   have hcp : c ∉ [83, 65] ++ pre := fun z => by
    have h1 : ([83, 65, 84, 66] : List Nat).Nodup := by decide
    rw [show ([83, 65, 84, 66] : List Nat) = [83, 65] ++ [84, 66] from rfl, hsp, ← List.append_assoc, List.nodup_append] at h1
    exact h1.2.2 c z c (.head _) rfl
   have hcn : c ∈ NTs := by rcases hc with rfl | rfl <;> decide
   have hcm := h84 c hc
   have hno : ¬ (c = 83 ∨ c = 65) := by rcases hc with rfl | rfl <;> decide
   have hpl : pre.length ≤ 2 := by have := congrArg List.length hsp; simp at this; exact le_c (Nat.le_trans (mid_l this) (Nat.le_refl _)) rfl
   refine asg_name rfl ?_
   refine exs_cons (ex_dset (ev_sortset R.hd (ev_blt rfl (by boot_fast) (by decide) rfl ⟨rfl, ev_blt rfl (by boot_fast) (by decide) rfl ⟨rfl, ev_sub ?_⟩ rfl⟩ rfl) rfl rfl rfl) rfl)
   walk_at "m"
   refine op_dget .data (fdf_at F1 T1 g1 (.inl hcm)) ?_ (fun _ _ => rfl)
   refine ⟨_, .data, Nat.lt_of_le_of_lt (setS_few (U := fstU) (fst_in F1 T1 g1 (.inl hcm)).2) (by decide), ?_⟩
   walk_at "m"
   refine ⟨_, _, _, _, rfl, rfl, .tail (.put (put_dueE (f := fa) (fun b hb => hbase b hb c hcn) hcp (by show _ = D.list ((sortS (setS (fiAll host t1 (lkF FN1) c))).map .str); rw [fiAll, if_neg hno]))), by simp [tsS]; lia, ?_⟩
   refine exs_cons (ex_assign (ev_cut (strsD (if ("$end" : Str) ∈ lkF FO1 (symS c) then folwOf host t1 84 else [])) ?_ ?_) rfl rfl)
   ·walk_at "m"
    refine ev_sub ?_
    walk_at "m"
    refine op_dget .data (fF_at (hke c hcm)) ?_ (fun _ _ => rfl)
    refine op_in (n := 0) (x := .str "$end") (R' _) .data (by decide +kernel) (ok_strs (fun f hf => oU f (ofU c hc f hf)) 0) (by decide) (ob_bool ?_)
    rw [any_str, Bool.eq_iff_iff.mpr (any_eq.trans (decide_eq_true_iff (p := ("$end" : Str) ∈ lkF FO1 (symS c))).symm)]
    by_cases h : ("$end" : Str) ∈ lkF FO1 (symS c)
    ·refine ite_t (decide_eq_true h) ?_
     rw [if_pos h]
     refine ev_sub ?_
     walk_at "m"
     exact op_dget .data (three_at _ (c := 84) (.inr (.inr rfl))) ⟨rfl, rfl⟩ (fun _ _ => rfl)
    ·refine ite_f (decide_eq_false h) ?_
     rw [if_neg h]
     exact ev_list (trl_nil ⟨Nat.le_of_ble_eq_true rfl, rfl, rfl⟩)
   refine exs_cons (ex_dset (ev_sortset R.hd (ev_blt rfl (by boot_fast) (by decide) rfl ⟨rfl, ev_blt rfl (by boot_fast) (by decide) rfl ⟨rfl, ev_bin (ev_lc (lkF FO1 (symS c)) .str (fun f => !decide (f = ("$end" : Str))) .str (by rfl) (by have := hnd2 c hc; exact le_s this rfl) (fun _ => rfl) ?_ ?_ ?_)⟩ rfl⟩ rfl) rfl rfl rfl) rfl)
   ·refine src_of (ev_sub ?_)
    walk_at "m"
    exact op_dget .data (fF_at (hke c hcm)) ⟨itb_list R.hd, rfl, rfl⟩ (fun _ _ => rfl)
   ·intro cl Ca acc pre f post hsp
    have hf : PyData.strOk f = true := oU f (ofU c hc f (by rw [hsp]; simp))
    refine asg_name rfl (ts_one ?_)
    walk_at "m"
    refine op_ne (n := 0) (R' _) hf (by decide +kernel) (by decide) (ob_bool ⟨?_, rfl, fun _ => ?_⟩)
    ·show (!(f == ("$end" : Str))) = !decide (f = ("$end" : Str))
     rw [Bool.eq_iff_iff.mpr (beq_iff_eq.trans (decide_eq_true_iff (p := f = ("$end" : Str))).symm)]
    walk_at "m"
    exact ⟨rfl, rfl⟩
   walk_at "m"
   refine op_addl .data .data (by have h1 := List.length_filter_le (fun f => !decide (f = ("$end" : Str))) (lkF FO1 (symS c)); have h2 := hnd2 c hc; have h3 := folw_len hH hlet 84; simp only [List.length_map]; split <;> simp <;> lia) ?_
   rw [← List.map_append]
   refine ⟨_, .data, Nat.lt_of_le_of_lt (setS_few (U := folU) fun x hx => ?_) (by decide), ?_⟩
   ·refine ((pl2 c hc x).mpr ?_).inU
    rcases List.mem_append.mp hx with hx | hx
    ·have := List.mem_filter.mp hx
     exact .inl ⟨(O1.mem c hcm x).mp this.1, by simpa using this.2⟩
    ·split at hx
     ·rename_i h
      exact .inr ⟨(O1.mem c hcm _).mp h, hx⟩
     ·cases hx
   walk_at "m"
   refine ⟨_, _, _, _, rfl, rfl, .put (put_dueE (base := []) (f := fb) (fun b hb => by cases hb) hcp (by show _ = D.list ((sortS (setS (foAll host t1 (lkF FO1) c))).map .str); rw [foAll, if_neg hno])), by simp; exact le_s (Nat.add_le_add_right (Nat.add_le_add_right hpl _) _) rfl, ?_⟩
   exact exs_nil ⟨.cons rfl (.cons rfl (.cons rfl (.cons rfl (.cons rfl (.cons rfl (.cons rfl (.cons rfl (.cons rfl (.cons rfl (.cons rfl .nil)))))))))), by simp [ωc]⟩
  refine trF_perm ((List.perm_append_comm (l₁ := [_, _, _]) (l₂ := [_, _, _])).append_right ω0) ?_
  refine exs_cons (ex_assign (ev_ometh0 ?_ rfl) rfl rfl)
  walk_at "m"
  refine ⟨aGr, _, 228, .cell (.head _), rfl, rfl, ?_⟩
  refine firstC_ok (k := k + 27) (R' _) g2 T2 fun FN2 F2 => ?_
  refine trF_freezeF (fun x d' e => look_one e) ?_
  have he1 := first_eq PO T2 F1 F2
  rw [ht1e] at he1
  have hnF := leF_nd PO T2 F2
  have hfF := leF_few PO T2 F2
  have hlF := leF_len PO T2 F2
  refine exs_cons (ex_if (te_cmp (ev_dc (leF FN2) (fun p => .str p.1) gS (by rfl) (by have := hlF; exact le_s hlF rfl) hnF (fun _ => rfl) ?_ ?_ ?_) rfl))
  ·refine src_of ?_
   walk_at "m"
   refine ⟨?_, rfl, rfl⟩
   rw [show (leF FN2).map (fun p => D.str p.1) = (FDf tsS FN2).map (fun p => D.str p.1) from by rw [← leF_gL, List.map_map]; rfl]
   exact itb_dct R.hd
  ·intro cl Ca acc pre x post hsp
   have hx : x ∈ leF FN2 := by rw [hsp]; simp
   have hx4 := hfF x hx
   refine asg_name rfl (ts_nil ⟨rfl, ?_⟩)
   walk_at "m"
   refine ⟨rfl, ev_callB (ev_blt rfl (by boot_fast) (by decide) rfl ⟨rfl, ?_⟩ rfl) rfl rfl rfl⟩
   refine trl_cons (ev_sub ?_) rfl
   walk_at "m"
   refine op_dget .data (by rw [← leF_gL]; exact gL_at hnF hx) ?_ (fun _ _ => rfl)
   walk_at "m"
   exact ol_sortedF .data (by exact lelt_c hx4 rfl) ⟨rfl, rfl⟩
  walk_at "m"
  refine op_ne_dct (n := 1) (R' _) (by decide) .data (.cell (by walk_at "mem")) he1 (ob_bool (ite_f rfl ?_))
  refine exs_nil ?_
  refine exs_cons (ex_assign (ev_ometh ?_ rfl rfl rfl) rfl rfl)
  walk_at "m"
  refine ⟨aGr, _, 236, .cell (.head _), rfl, rfl, ?_⟩
  walk_at "m"
  refine followC_ok (start := 83) (k := k + 27) (R' _) g2 T2 F2 fun FO2 O2 => ?_
  refine trF_freezeM (fun x d' e => look_one e) ?_
  have he2 := follow_eq PO T2 F1 O1 O2
  rw [ht1e] at he2
  have hnL := leL_nd T2 O2
  have hfL := leL_few PO T2 O2
  have hlL := leL_len PO T2 O2
  refine exs_cons (ex_if (te_cmp (ev_dc (leL FO2) (fun p => .str p.1) gS (by rfl) (by have := hlL; exact le_s hlL rfl) hnL (fun _ => rfl) ?_ ?_ ?_) rfl))
  ·refine src_of ?_
   walk_at "m"
   refine ⟨?_, rfl, rfl⟩
   rw [show (leL FO2).map (fun p => D.str p.1) = (FO2.map fF).map (fun p => D.str p.1) from by rw [← leL_gL, List.map_map]; rfl]
   exact itb_dct R.hd
  ·intro cl Ca acc pre x post hsp
   have hx : x ∈ leL FO2 := by rw [hsp]; simp
   have hx4 := hfL x hx
   refine asg_name rfl (ts_nil ⟨rfl, ?_⟩)
   walk_at "m"
   refine ⟨rfl, ev_callB (ev_blt rfl (by boot_fast) (by decide) rfl ⟨rfl, ?_⟩ rfl) rfl rfl rfl⟩
   refine trl_cons (ev_sub ?_) rfl
   walk_at "m"
   refine op_dget .data (by rw [← leL_gL]; exact gL_at hnL hx) ?_ (fun _ _ => rfl)
   walk_at "m"
   exact ol_sortedF .data (by exact lelt_c hx4 rfl) ⟨rfl, rfl⟩
  walk_at "m"
  refine op_ne_dct (n := 1) (R' _) (by decide) .data (.cell (by walk_at "mem")) he2 (ob_bool (ite_f rfl ?_))
  refine exs_nil ?_
  refine exs_cons (ex_ret (ev_callO (ev_glob (v := .ref 298) rfl (fun _ _ => .raw _) rfl ⟨rfl, ?_⟩ rfl) rfl rfl rfl rfl))
  walk_at "m"
  exact others_ok (k := k + 8) (R' _) PO.oth g1 T1 g2 T2 (.tail _ (.tail _ (.tail _ (.head _)))) (.head _) (.tail _ (.tail _ (.tail _ (.tail _ hT0)))) ⟨rfl, .tail _ (.tail _ (.tail _ (.tail _ hT0)))⟩
end
section
variable {w : World} {mg mb : Str → Option Value} {fr : List Env} {A : Around} {env : Env} {σ : Sg} {P : D → Sg → Prop} {Q : Fl → Sg → Prop}
variable {host part whole : List CPr}
theorem mem_whole (f : Bool) (q : CPr) : q ∈ wholeOf f host part ↔ q ∈ host ∨ q ∈ part := by
 unfold wholeOf; split <;> rw [List.mem_append]
 exact Or.comm
theorem hst_of {c : Nat} (h : c ∈ HSTs) : c = 83 ∨ c = 65 ∨ c = 84 ∨ c = 97 ∨ c = 98 := by simpa [HSTs] using h
theorem prt_of {c : Nat} (h : c ∈ PRTs) : c = 84 ∨ c = 66 ∨ c = 98 ∨ c = 99 := by simpa [PRTs] using h
theorem prt2 {c : Nat} (h : c = 84 ∨ c = 66) : c ∈ PRTs := by rcases h with rfl | rfl <;> decide
theorem hp1 {c : Nat} (h : c = 83 ∨ c = 65) (h2 : c ∈ PRTs) : False := by rcases h with rfl | rfl <;> exact absurd h2 (by decide)
theorem hp2 {c : Nat} (h : c = 83 ∨ c = 65) (h2 : c = 84 ∨ c = 66) : False := hp1 h (prt2 h2)
theorem hp3 {c : Nat} (h : c ∈ HSTs) (h2 : c = 84 ∨ c = 66) : c = 84 := h2.resolve_right fun z => absurd (z ▸ h) (by decide)
noncomputable def Two (c d : Nat) : Prop := (c = 83 ∧ d = 65) ∨ (c = 65 ∧ d = 83)
theorem Two.swap {c d : Nat} (h : Two c d) : Two d c := h.elim (fun z => .inr ⟨z.2, z.1⟩) fun z => .inl ⟨z.2, z.1⟩
theorem Two.fst {c d : Nat} (h : Two c d) : c = 83 ∨ c = 65 := h.imp (·.1) (·.1)
theorem Two.of {c d y : Nat} (h : Two c d) (hy : y = 83 ∨ y = 65) : y = c ∨ y = d := by
 rcases h with ⟨rfl, rfl⟩ | ⟨rfl, rfl⟩
 ·exact hy
 ·exact hy.symm
theorem two_of {a b : Nat} (ha : a = 83 ∨ a = 65) (hb : b = 83 ∨ b = 65) (h : b ≠ a) : Two a b := by
 rcases ha with rfl | rfl <;> rcases hb with rfl | rfl
 ·exact absurd rfl h
 ·exact .inl ⟨rfl, rfl⟩
 ·exact .inr ⟨rfl, rfl⟩
 ·exact absurd rfl h
theorem Hosted.gp (H : Hosted host part) : Gram part [84, 66] 84 := by
 obtain ⟨x, y, r, e⟩ := H.phd
 have hf := H.few
 refine ⟨H.pnd, by exact le_c (sub_r hf) rfl, by decide, fun q hq => by have := H.plhs q hq; simpa using this, fun q hq c hc => ?_, fun c hc => ?_, fun q hq => Nat.le_trans (H.plen q hq) (by decide), by decide, by decide⟩
 ·rcases prt_of (H.prhs q hq c hc) with rfl | rfl | rfl | rfl <;> decide
 ·have : c = 84 ∨ c = 66 := by simpa using hc
  rcases this with rfl | rfl
  ·exact ⟨(84, x), by rw [e]; simp, rfl⟩
  ·exact ⟨(66, y), by rw [e]; simp, rfl⟩
theorem Hosted.gw (H : Hosted host part) (f : Bool) : Gram (wholeOf f host part) NTs 83 := by
 obtain ⟨x, y, r, e⟩ := H.phd
 obtain ⟨x', y', r', e'⟩ := H.hhd
 have hf := H.few
 have hd : ∀ a ∈ host, ∀ b ∈ part, a ≠ b := fun a ha b hb z => by
  have h1 := H.hlhs a ha
  have h2 := H.plhs b hb
  rw [z] at h1; exact hp2 h1 h2
 refine ⟨?_, ?_, by decide, fun q hq => ?_, fun q hq c hc => ?_, fun c hc => ?_, fun q hq => ?_, by decide, by decide⟩
 ·unfold wholeOf; split <;> rw [List.nodup_append]
  ·exact ⟨H.pnd, H.hnd, fun a ha b hb z => hd b hb a ha z.symm⟩
  ·exact ⟨H.hnd, H.pnd, hd⟩
 ·unfold wholeOf; split <;> rw [List.length_append] <;> lia
 ·rcases (mem_whole f q).mp hq with h | h
  ·rcases H.hlhs q h with h | h <;> rw [h] <;> decide
  ·rcases H.plhs q h with h | h <;> rw [h] <;> decide
 ·rcases (mem_whole f q).mp hq with h | h
  ·rcases hst_of (H.hrhs q h c hc) with rfl | rfl | rfl | rfl | rfl <;> decide
  ·rcases prt_of (H.prhs q h c hc) with rfl | rfl | rfl | rfl <;> decide
 ·have h4 : c = 83 ∨ c = 65 ∨ c = 84 ∨ c = 66 := by simpa [NTs] using hc
  rcases h4 with rfl | rfl | rfl | rfl
  ·exact ⟨(83, x'), (mem_whole f _).mpr (.inl (by rw [e']; simp)), rfl⟩
  ·exact ⟨(65, y'), (mem_whole f _).mpr (.inl (by rw [e']; simp)), rfl⟩
  ·exact ⟨(84, x), (mem_whole f _).mpr (.inr (by rw [e]; simp)), rfl⟩
  ·exact ⟨(66, y), (mem_whole f _).mpr (.inr (by rw [e]; simp)), rfl⟩
 ·rcases (mem_whole f q).mp hq with h | h
  ·exact H.hlen q h
  ·exact Nat.le_trans (H.plen q h) (by decide)
theorem Hosted.ho (H : Hosted host part) : HostOk host := by
 have hf := H.few
 exact ⟨⟨fun q hq => ⟨by rcases H.hlhs q hq with h | h <;> rw [h] <;> decide, fun c hc => hst_sym c (H.hrhs q hq c hc)⟩, fun q hq => Nat.le_trans (H.hlen q hq) (by decide), by exact le_c (sub_l hf) rfl⟩, H.hlhs, H.hrhs, H.hlen, by exact le_c (sub_l hf) rfl⟩
inductive Cl (l : List CPr) (K : List Nat) : Nat → Prop
 | base {c : Nat} (h : c ∈ K) : Cl l K c
 | row {q : CPr} (hq : q ∈ l) (h : ∀ y ∈ q.2, Cl l K y) : Cl l K q.1
theorem closT_sub (k : List Nat) (q : CPr) {c : Nat} (h : c ∈ k) : c ∈ closT k q := by
 unfold closT; split
 ·exact List.mem_append_left _ h
 ·exact h
theorem clos1_sub (l : List CPr) : ∀ (k : List Nat) {c : Nat}, c ∈ k → c ∈ clos1 l k := by
 induction l with
 | nil => intro _ _ h; exact h
 | cons q r ih => intro k _ h; exact ih (closT k q) (closT_sub k q h)
theorem closT_row {k : List Nat} {q : CPr} (h : ∀ s ∈ q.2, s ∈ k) : q.1 ∈ closT k q := by
 unfold closT
 by_cases hk : q.1 ∈ k
 ·rw [if_neg (by simp [hk])]; exact hk
 ·rw [if_pos (by simpa [hk] using h)]; simp
theorem clos1_row : ∀ {l : List CPr} {k : List Nat} {q : CPr}, q ∈ l → (∀ s ∈ q.2, s ∈ k) → q.1 ∈ clos1 l k
 | p :: r, k, q, hq, h => by
  rcases List.mem_cons.mp hq with rfl | hq
  ·exact clos1_sub r _ (closT_row h)
  ·exact clos1_row (l := r) hq fun s hs => closT_sub k p (h s hs)
theorem clos1_grow (l : List CPr) : ∀ (k : List Nat), clos1 l k = k ∨ ∃ q ∈ l, q.1 ∉ k ∧ q.1 ∈ clos1 l k := by
 induction l with
 | nil => intro k; exact .inl rfl
 | cons q r ih =>
  intro k
  by_cases h : (!decide (q.1 ∈ k) && q.2.all fun s => decide (s ∈ k)) = true
  ·right
   have e : closT k q = k ++ [q.1] := by unfold closT; rw [if_pos h]
   refine ⟨q, .head _, by simp at h; exact h.1, clos1_sub r _ ?_⟩
   show q.1 ∈ closT k q
   rw [e]; simp
  ·have e : closT k q = k := by unfold closT; rw [if_neg h]
   show clos1 r (closT k q) = k ∨ ∃ q' ∈ q :: r, q'.1 ∉ k ∧ q'.1 ∈ clos1 r (closT k q)
   rw [e]
   rcases ih k with h | ⟨x, hx, h⟩
   ·exact .inl h
   ·exact .inr ⟨x, .tail _ hx, h⟩
theorem clos1_cl {l0 : List CPr} {K : List Nat} : ∀ {l : List CPr} {k : List Nat}, (∀ q ∈ l, q ∈ l0) → (∀ c ∈ k, Cl l0 K c) → ∀ c ∈ clos1 l k, Cl l0 K c
 | [], _, _, h => h
 | q :: r, k, hl, h => clos1_cl (l := r) (k := closT k q) (fun x hx => hl x (.tail _ hx)) fun c hc => by
  unfold closT at hc
  split at hc
  ·rename_i hk
   rcases List.mem_append.mp hc with hc | hc
   ·exact h c hc
   ·rw [List.mem_singleton.mp hc]
    simp at hk
    exact .row (hl q (.head _)) fun y hy => h y (hk.2 y hy)
  ·exact h c hc
theorem closN_cl {l : List CPr} {K : List Nat} : ∀ n, ∀ c ∈ closN l n K, Cl l K c
 | 0 => fun c h => .base h
 | n + 1 => clos1_cl (fun _ h => h) (closN_cl n)
theorem closN_closed {l : List CPr} {K : List Nat} (hl : ∀ q ∈ l, q.1 = 83 ∨ q.1 = 65) : ∀ q ∈ l, (∀ s ∈ q.2, s ∈ closN l 2 K) → q.1 ∈ closN l 2 K := fun q hq h => by
 show q.1 ∈ clos1 l (clos1 l K)
 have h : ∀ s ∈ q.2, s ∈ clos1 l (clos1 l K) := h
 rcases clos1_grow l K with e | ⟨p, hp, np, mp⟩
 ·rw [e, e] at h
  rw [e]
  exact clos1_row hq h
 ·rcases clos1_grow l (clos1 l K) with e | ⟨p2, hp2, np2, mp2⟩
  ·rw [e] at h; exact clos1_row hq h
  ·have m1 : p.1 ∈ clos1 l (clos1 l K) := clos1_sub l _ mp
   have hne : p2.1 ≠ p.1 := fun z => np2 (z ▸ mp)
   have h1 := hl p hp
   have h2 := hl p2 hp2
   have h3 := hl q hq
   have : q.1 = p.1 ∨ q.1 = p2.1 := (two_of h1 h2 hne).of h3
   rcases this with h | h
   ·rw [h]; exact m1
   ·rw [h]; exact mp2
theorem closN_sub {l : List CPr} {K : List Nat} {c : Nat} (h : c ∈ K) : c ∈ closN l 2 K := clos1_sub l _ (clos1_sub l _ h)
theorem clos_iff {l : List CPr} {K : List Nat} (hl : ∀ q ∈ l, q.1 = 83 ∨ q.1 = 65) (c : Nat) : c ∈ closN l 2 K ↔ Cl l K c := by
 refine ⟨closN_cl 2 c, fun h => ?_⟩
 induction h with
 | base h => exact closN_sub h
 | row hq _ ih => exact closN_closed hl _ hq ih
theorem Vn.mono {a b : List CPr} (h : ∀ q ∈ a, q ∈ b) {c : Nat} (v : Vn a c) : Vn b c := by
 induction v with
 | mk hq _ ih => exact .mk (h _ hq) ih
theorem Bg.mono {a b : List CPr} (h : ∀ q ∈ a, q ∈ b) {c t : Nat} (v : Bg a c t) : Bg b c t := by
 induction v with
 | term hq e hv hx => exact .term (h _ hq) e (fun y hy => (hv y hy).mono h) hx
 | step hq e hv _ ih => exact .step (h _ hq) e (fun y hy => (hv y hy).mono h) ih
structure Wh (host part whole : List CPr) : Prop where
 H : Hosted host part
 m : ∀ q, q ∈ whole ↔ q ∈ host ∨ q ∈ part
theorem Wh.lhs (W : Wh host part whole) {q : CPr} (hq : q ∈ whole) : (q ∈ host ∧ (q.1 = 83 ∨ q.1 = 65)) ∨ (q ∈ part ∧ (q.1 = 84 ∨ q.1 = 66)) := by
 rcases (W.m q).mp hq with h | h
 ·exact .inl ⟨h, W.H.hlhs q h⟩
 ·exact .inr ⟨h, W.H.plhs q h⟩
theorem Wh.ofP (W : Wh host part whole) : ∀ q ∈ part, q ∈ whole := fun q h => (W.m q).mpr (.inr h)
theorem Wh.ofH (W : Wh host part whole) : ∀ q ∈ host, q ∈ whole := fun q h => (W.m q).mpr (.inl h)
theorem Wh.vn (W : Wh host part whole) {c : Nat} (h : Vn whole c) (hc : c ∈ PRTs) : Vn part c := by
 induction h with
 | mk hq _ ih =>
  rcases W.lhs hq with ⟨h1, h2⟩ | ⟨h1, h2⟩
  ·exact (hp1 h2 hc).elim
  ·exact .mk h1 fun y hy => ih y hy (W.H.prhs _ h1 y hy)
theorem Wh.bg (W : Wh host part whole) {c t : Nat} (h : Bg whole c t) (hc : c ∈ PRTs) : Bg part c t := by
 induction h with
 | term hq e hv hx =>
  rcases W.lhs hq with ⟨h1, h2⟩ | ⟨h1, h2⟩
  ·exact (hp1 h2 hc).elim
  ·exact .term h1 e (fun y hy => W.vn (hv y hy) (W.H.prhs _ h1 y (by rw [e]; simp [hy]))) hx
 | step hq e hv _ ih =>
  rcases W.lhs hq with ⟨h1, h2⟩ | ⟨h1, h2⟩
  ·exact (hp1 h2 hc).elim
  ·exact .step h1 e (fun y hy => W.vn (hv y hy) (W.H.prhs _ h1 y (by rw [e]; simp [hy]))) (ih (W.H.prhs _ h1 _ (by rw [e]; simp)))
theorem prt4 : (84 : Nat) ∈ PRTs := by decide
theorem Wh.fst2 (W : Wh host part whole) : ∀ c, c = 84 ∨ c = 66 → ∀ f, FsC whole c f ↔ FsC part c f := fun c hc f => by
 unfold FsC
 refine or_congr (and_congr Iff.rfl ⟨fun h => W.vn h (prt2 hc), fun h => h.mono W.ofP⟩) ⟨fun ⟨t, e, h⟩ => ⟨t, e, W.bg h (prt2 hc)⟩, fun ⟨t, e, h⟩ => ⟨t, e, h.mono W.ofP⟩⟩
theorem Wh.van (W : Wh host part whole) {t : List Str} (ht : ∀ f, f ∈ t ↔ FsC part 84 f) {c : Nat} (hc : c ∈ HSTs) : c ∈ vanOf host t ↔ Vn whole c := by
 have h84 : epsS ∈ t ↔ Vn part 84 := by
  rw [ht]
  exact ⟨fun h => h.elim (·.2) fun ⟨x, e, _⟩ => absurd e.symm (eps_sym x), fun h => .inl ⟨rfl, h⟩⟩
 unfold vanOf
 rw [clos_iff W.H.hlhs]
 constructor
 ·intro h
  induction h with
  | base h =>
   split at h
   ·rename_i he
    rw [List.mem_singleton.mp h]
    exact (h84.mp he).mono W.ofP
   ·cases h
  | row hq _ ih => exact .mk (W.ofH _ hq) fun y hy => ih y hy (W.H.hrhs _ hq y hy)
 ·intro h
  induction h with
  | mk hq hall ih =>
   rcases W.lhs hq with ⟨h1, h2⟩ | ⟨h1, h2⟩
   ·exact .row h1 fun y hy => ih y hy (W.H.hrhs _ h1 y hy)
   ·have h3 := hst_of hc
    rename_i q
    have e : q.1 = 84 := hp3 hc h2
    have : Vn part 84 := e ▸ W.vn (.mk hq hall) (by rw [e]; exact prt4)
    rw [e]
    refine .base ?_
    rw [if_pos (h84.mpr this)]; simp
theorem front_iff {van : List Nat} {c : Nat} : ∀ {l : List Nat}, c ∈ frontF van l ↔ ∃ a b, l = a ++ c :: b ∧ ∀ y ∈ a, y ∈ van
 | [] => by simp [frontF]
 | s :: r => by
  unfold frontF
  constructor
  ·intro h
   split at h
   ·rename_i hs
    rcases List.mem_cons.mp h with rfl | h
    ·exact ⟨[], r, rfl, by simp⟩
    ·obtain ⟨a, b, e, ha⟩ := front_iff.mp h
     refine ⟨s :: a, b, by rw [e]; rfl, fun y hy => ?_⟩
     rcases List.mem_cons.mp hy with rfl | hy
     ·exact hs
     ·exact ha y hy
   ·rw [List.mem_singleton.mp h]; exact ⟨[], r, rfl, by simp⟩
  ·rintro ⟨a, b, e, ha⟩
   cases a with
   | nil =>
    injection e with e1 e2; subst e1
    split <;> simp
   | cons x a =>
    injection e with e1 e2; subst e1
    rw [if_pos (ha s (.head _))]
    exact .tail _ (front_iff.mpr ⟨a, b, e2, fun y hy => ha y (.tail _ hy)⟩)
theorem opens_iff2 {van : List Nat} {l : List CPr} {n c : Nat} : c ∈ opensOf van l n ↔ ∃ q ∈ l, q.1 = n ∧ c ∈ frontF van q.2 := by
 unfold opensOf
 simp only [List.mem_flatMap, List.mem_filter, beq_iff_eq]
 exact ⟨fun ⟨q, ⟨h1, h2⟩, h3⟩ => ⟨q, h1, h2, h3⟩, fun ⟨q, h1, h2, h3⟩ => ⟨q, ⟨h1, h2⟩, h3⟩⟩
end
section
variable {w : World} {mg mb : Str → Option Value} {fr : List Env} {A : Around} {env : Env} {σ : Sg} {P : D → Sg → Prop} {Q : Fl → Sg → Prop}
variable {host part whole : List CPr} {t : List Str}
noncomputable def InO (host whole : List CPr) (c s : Nat) : Prop := ∃ q ∈ host, q.1 = c ∧ ∃ a b, q.2 = a ++ s :: b ∧ ∀ y ∈ a, Vn whole y
noncomputable def At (whole : List CPr) (s x : Nat) : Prop := (s = x ∧ x ∈ TSs) ∨ Bg whole s x
noncomputable def AtL (host whole : List CPr) (c x : Nat) : Prop := ∃ s, InO host whole c s ∧ (s ≠ 83 ∧ s ≠ 65) ∧ At whole s x
theorem Wh.opens (W : Wh host part whole) (ht : ∀ f, f ∈ t ↔ FsC part 84 f) {c s : Nat} : s ∈ opensOf (vanOf host t) host c ↔ InO host whole c s := by
 rw [opens_iff2]
 refine exists_congr fun q => ?_
 refine ⟨fun ⟨h1, h2, h3⟩ => ⟨h1, h2, ?_⟩, fun ⟨h1, h2, a, b, e, ha⟩ => ⟨h1, h2, front_iff.mpr ⟨a, b, e, fun y hy => (W.van ht (W.H.hrhs q h1 y (by rw [e]; simp [hy]))).mpr (ha y hy)⟩⟩⟩
 obtain ⟨a, b, e, ha⟩ := front_iff.mp h3
 exact ⟨a, b, e, fun y hy => (W.van ht (W.H.hrhs q h1 y (by rw [e]; simp [hy]))).mp (ha y hy)⟩
theorem InO.hst (W : Wh host part whole) {c s : Nat} (h : InO host whole c s) : s ∈ HSTs := by
 obtain ⟨q, hq, _, a, b, e, _⟩ := h
 exact W.H.hrhs q hq s (by rw [e]; simp)
theorem Wh.noBg (W : Wh host part whole) {c x : Nat} (hc : c = 97 ∨ c = 98) : ¬ Bg whole c x := fun h => by
 obtain ⟨q, hq, e⟩ := h.lhs
 rcases W.lhs hq with ⟨_, h⟩ | ⟨_, h⟩ <;> rw [e] at h <;> rcases hc with rfl | rfl <;> exact absurd h (by decide)
theorem Wh.let0 (W : Wh host part whole) (ht : ∀ f, f ∈ t ↔ FsC part 84 f) {s : Nat} (hs : s ∈ HSTs) (f : Str) : f ∈ let0 (innerOf t) s ↔ (s ≠ 83 ∧ s ≠ 65) ∧ ∃ x, f = symS x ∧ At whole s x := by
 have one : ∀ {c : Nat} {l : Str}, (c = 97 ∨ c = 98) → l = symS c → c ∈ TSs → (f ∈ [l] ↔ (c ≠ 83 ∧ c ≠ 65) ∧ ∃ x, f = symS x ∧ At whole c x) := fun {c l} hc hl hx => by
  rw [List.mem_singleton, hl]
  refine ⟨fun h => ⟨by rcases hc with rfl | rfl <;> decide, c, h, .inl ⟨rfl, hx⟩⟩, fun ⟨_, x, e, h⟩ => ?_⟩
  rcases h with ⟨rfl, _⟩ | h
  ·exact e
  ·exact absurd h (W.noBg hc)
 rcases hst_of hs with rfl | rfl | rfl | rfl | rfl
 ·exact ⟨fun h => absurd (show f ∈ [] from h) List.not_mem_nil, fun h => absurd rfl h.1.1⟩
 ·exact ⟨fun h => absurd (show f ∈ [] from h) List.not_mem_nil, fun h => absurd rfl h.1.2⟩
 ·show f ∈ innerOf t ↔ _
  unfold innerOf
  rw [List.mem_filter, ht]
  constructor
  ·rintro ⟨⟨rfl, _⟩ | ⟨x, e, h⟩, hne⟩
   ·simp at hne
   ·exact ⟨by decide, x, e, .inr (h.mono W.ofP)⟩
  ·rintro ⟨_, x, rfl, ⟨rfl, h⟩ | h⟩
   ·exact absurd h (by decide)
   ·exact ⟨.inr ⟨x, rfl, W.bg h prt4⟩, by simpa using eps_sym x⟩
 ·exact one (.inl rfl) rfl (by decide)
 ·exact one (.inr rfl) rfl (by decide)
theorem Wh.plain (W : Wh host part whole) (ht : ∀ f, f ∈ t ↔ FsC part 84 f) {c : Nat} (f : Str) : f ∈ plainOf (Mine.let0 (innerOf t)) (opensOf (vanOf host t) host c) ↔ ∃ x, f = symS x ∧ AtL host whole c x := by
 unfold plainOf AtL
 rw [List.mem_flatMap]
 constructor
 ·rintro ⟨s, h1, h2⟩
  have h1 := (W.opens ht).mp h1
  obtain ⟨h3, x, e, h4⟩ := (W.let0 ht (h1.hst W) f).mp h2
  exact ⟨x, e, s, h1, h3, h4⟩
 ·rintro ⟨x, e, s, h1, h3, h4⟩
  exact ⟨s, (W.opens ht).mpr h1, (W.let0 ht (h1.hst W) f).mpr ⟨h3, x, e, h4⟩⟩
theorem InO.bg (W : Wh host part whole) {c s x : Nat} (h : InO host whole c s) (hx : At whole s x) : Bg whole c x := by
 obtain ⟨q, hq, rfl, a, b, e, ha⟩ := h
 rcases hx with ⟨rfl, hx⟩ | hx
 ·exact .term (W.ofH q hq) e ha hx
 ·exact .step (W.ofH q hq) e ha hx
theorem Wh.bg2 (W : Wh host part whole) {c x : Nat} (h : Bg whole c x) : ∀ c2, Two c c2 → AtL host whole c x ∨ (InO host whole c c2 ∧ AtL host whole c2 x) := by
 induction h with
 | term hq e hv hx =>
  intro c2 hc
  rcases W.lhs hq with ⟨h1, h2⟩ | ⟨h1, h2⟩
  ·refine .inl ⟨_, ⟨_, h1, rfl, _, _, e, hv⟩, ?_, .inl ⟨rfl, hx⟩⟩
   exact ⟨fun z => absurd hx (by rw [z]; decide), fun z => absurd hx (by rw [z]; decide)⟩
  ·exact (hp2 hc.fst h2).elim
 | step hq e hv hb ih =>
  intro c2 hc
  rcases W.lhs hq with ⟨h1, h2⟩ | ⟨h1, h2⟩
  ·rename_i q a b y x
   have ho : InO host whole q.1 y := ⟨_, h1, rfl, _, _, e, hv⟩
   by_cases h5 : y = 83 ∨ y = 65
   ·by_cases h6 : y = q.1
    ·have := ih c2 (by rw [h6]; exact hc)
     rw [h6] at this
     exact this
    ·have h7 : y = c2 := (hc.of h5).resolve_left h6
     rcases ih q.1 (h7 ▸ hc.swap) with h | ⟨_, h⟩
     ·exact .inr ⟨h7 ▸ ho, h7 ▸ h⟩
     ·exact .inl h
   ·exact .inl ⟨y, ho, ⟨fun z => h5 (.inl z), fun z => h5 (.inr z)⟩, .inr hb⟩
  ·exact (hp2 hc.fst h2).elim
theorem Wh.letX (W : Wh host part whole) (ht : ∀ f, f ∈ t ↔ FsC part 84 f) {c : Nat} (hc : c ∈ HSTs) (f : Str) : f ∈ letOf host t c ↔ ∃ x, f = symS x ∧ At whole c x := by
 have two : ∀ c c2, Two c c2 → (f ∈ plainOf (Mine.let0 (innerOf t)) (opensOf (vanOf host t) host c) ++ (if c2 ∈ opensOf (vanOf host t) host c then plainOf (Mine.let0 (innerOf t)) (opensOf (vanOf host t) host c2) else []) ↔ ∃ x, f = symS x ∧ At whole c x) := fun c c2 hcc => by
  rw [List.mem_append, W.plain ht f]
  constructor
  ·rintro (⟨x, e, s, h1, _, h2⟩ | h)
   ·exact ⟨x, e, .inr (h1.bg W h2)⟩
   ·split at h
    ·rename_i ho
     obtain ⟨x, e, s, h1, _, h2⟩ := (W.plain ht f).mp h
     exact ⟨x, e, .inr (((W.opens ht).mp ho).bg W (.inr (h1.bg W h2)))⟩
    ·cases h
  ·rintro ⟨x, e, ⟨rfl, h⟩ | h⟩
   ·exfalso; rcases hcc with ⟨rfl, _⟩ | ⟨rfl, _⟩ <;> revert h <;> decide
   ·rcases W.bg2 h c2 hcc with h | ⟨h1, h2⟩
    ·exact .inl ⟨x, e, h⟩
    ·refine .inr ?_
     rw [if_pos ((W.opens ht).mpr h1)]
     exact (W.plain ht f).mpr ⟨x, e, h2⟩
 have three : (c ≠ 83 ∧ c ≠ 65) → (f ∈ Mine.let0 (innerOf t) c ↔ ∃ x, f = symS x ∧ At whole c x) := fun h => by
  rw [W.let0 ht hc f]
  exact ⟨fun z => z.2, fun z => ⟨h, z⟩⟩
 unfold letOf let1
 rcases hst_of hc with rfl | rfl | rfl | rfl | rfl
 ·exact two 83 65 (.inl ⟨rfl, rfl⟩)
 ·exact two 65 83 (.inr ⟨rfl, rfl⟩)
 ·exact three (by decide)
 ·exact three (by decide)
 ·exact three (by decide)
theorem Wh.fst (W : Wh host part whole) (ht : ∀ f, f ∈ t ↔ FsC part 84 f) : ∀ c, c = 83 ∨ c = 65 → ∀ f, FsC whole c f ↔ f ∈ letOf host t c ++ (if c ∈ vanOf host t then [epsS] else []) := fun c hc f => by
 have hh : c ∈ HSTs := by rcases hc with rfl | rfl <;> decide
 rw [List.mem_append, W.letX ht hh]
 unfold FsC
 constructor
 ·rintro (⟨rfl, h⟩ | ⟨x, e, h⟩)
  ·right
   rw [if_pos ((W.van ht hh).mpr h)]; simp
  ·exact .inl ⟨x, e, .inr h⟩
 ·rintro (⟨x, e, ⟨rfl, h⟩ | h⟩ | h)
  ·exfalso; rcases hc with rfl | rfl <;> revert h <;> decide
  ·exact .inr ⟨x, e, h⟩
  ·split at h
   ·rename_i hv
    exact .inl ⟨List.mem_singleton.mp h, (W.van ht hh).mp hv⟩
   ·cases h
end
section
variable {w : World} {mg mb : Str → Option Value} {fr : List Env} {A : Around} {env : Env} {σ : Sg} {P : D → Sg → Prop} {Q : Fl → Sg → Prop}
variable {host part whole : List CPr} {t : List Str}
theorem occs_iff {host : List CPr} {m n : Nat} {b : List Nat} : (m, n, b) ∈ occs host ↔ ∃ q ∈ host, q.1 = m ∧ ∃ a, q.2 = a ++ n :: b := by
 constructor
 ·intro h
  obtain ⟨q, hq, i, c, hc, e⟩ := occ_mem h
  obtain ⟨e1, e2, e3⟩ : m = q.1 ∧ n = c ∧ b = q.2.drop (i + 1) := by simpa using e
  refine ⟨q, hq, e1.symm, q.2.take i, ?_⟩
  obtain ⟨hi, hc⟩ := List.getElem?_eq_some_iff.mp hc
  rw [e2, e3, ← hc, List.getElem_cons_drop, List.take_append_drop]
 ·rintro ⟨q, hq, rfl, a, e⟩
  unfold occs
  refine List.mem_flatMap.mpr ⟨q, hq, ?_⟩
  unfold occR
  refine List.mem_map.mpr ⟨(n, a.length), ?_, ?_⟩
  ·rw [List.mem_zipIdx_iff_getElem?, e]; simp
  ·unfold occ
   rw [e]
   simp
theorem Wh.behind (W : Wh host part whole) (ht : ∀ f, f ∈ t ↔ FsC part 84 f) {m n : Nat} {b : List Nat} (hb : ∀ y ∈ b, y ∈ HSTs) (f : Str) : f ∈ Mine.behind (vanOf host t) (letOf host t) (m, n, b) ↔ ∃ x, f = symS x ∧ StT whole b x := by
 unfold Mine.behind StT
 rw [List.mem_flatMap]
 constructor
 ·rintro ⟨c, h1, h2⟩
  obtain ⟨a, r, e, ha⟩ := front_iff.mp h1
  have e : b = a ++ c :: r := e
  obtain ⟨x, ex, hx⟩ := (W.letX ht (hb c (by rw [e]; simp)) f).mp h2
  exact ⟨x, ex, a, c, r, e, fun y hy => (W.van ht (hb y (by rw [e]; simp [hy]))).mp (ha y hy), hx⟩
 ·rintro ⟨x, ex, a, c, r, e, ha, hx⟩
  exact ⟨c, front_iff.mpr ⟨a, r, e, fun y hy => (W.van ht (hb y (by rw [e]; simp [hy]))).mpr (ha y hy)⟩, (W.letX ht (hb c (by rw [e]; simp)) f).mpr ⟨x, ex, hx⟩⟩
noncomputable def FBase (host whole : List CPr) (n : Nat) (f : Str) : Prop := (n = 83 ∧ f = "$end") ∨ ∃ q ∈ host, ∃ a b x, q.2 = a ++ n :: b ∧ f = symS x ∧ StT whole b x
noncomputable def FEnd (host whole : List CPr) (n m : Nat) : Prop := ∃ q ∈ host, q.1 = m ∧ ∃ a b, q.2 = a ++ n :: b ∧ ∀ y ∈ b, Vn whole y
theorem Wh.base (W : Wh host part whole) (ht : ∀ f, f ∈ t ↔ FsC part 84 f) {n : Nat} (f : Str) : f ∈ baseOf (vanOf host t) (letOf host t) (occs host) n ↔ FBase host whole n f := by
 unfold baseOf FBase
 rw [List.mem_append]
 refine or_congr ?_ ?_
 ·unfold base0; split <;> simp [*]
 ·rw [List.mem_flatMap]
  constructor
  ·rintro ⟨⟨m, n', b⟩, h1, h2⟩
   obtain ⟨h5, h3⟩ := List.mem_filter.mp h1
   have h3 : n' = n := by simpa [atS] using h3
   subst h3
   obtain ⟨q, hq, e1, a, e2⟩ := occs_iff.mp h5
   obtain ⟨x, ex, hx⟩ := (W.behind ht (fun y hy => W.H.hrhs q hq y (by rw [e2]; simp [hy])) f).mp h2
   exact ⟨q, hq, a, b, x, e2, ex, hx⟩
  ·rintro ⟨q, hq, a, b, x, e2, ex, hx⟩
   exact ⟨(q.1, n, b), List.mem_filter.mpr ⟨occs_iff.mpr ⟨q, hq, rfl, a, e2⟩, by simp [atS]⟩, (W.behind ht (fun y hy => W.H.hrhs q hq y (by rw [e2]; simp [hy])) f).mpr ⟨x, ex, hx⟩⟩
theorem Wh.ends (W : Wh host part whole) (ht : ∀ f, f ∈ t ↔ FsC part 84 f) {n m : Nat} : m ∈ endsOf (vanOf host t) (occs host) n ↔ FEnd host whole n m := by
 unfold endsOf FEnd
 rw [List.mem_map]
 constructor
 ·rintro ⟨⟨m', n', b⟩, h1, rfl⟩
  obtain ⟨h5, h3⟩ := List.mem_filter.mp h1
  have h3 : n' = n ∧ ∀ y ∈ b, y ∈ vanOf host t := by simpa [endS] using h3
  obtain ⟨rfl, h4⟩ := h3
  obtain ⟨q, hq, e1, a, e2⟩ := occs_iff.mp h5
  exact ⟨q, hq, e1, a, b, e2, fun y hy => (W.van ht (W.H.hrhs q hq y (by rw [e2]; simp [hy]))).mp (h4 y hy)⟩
 ·rintro ⟨q, hq, rfl, a, b, e2, h4⟩
  refine ⟨(q.1, n, b), List.mem_filter.mpr ⟨occs_iff.mpr ⟨q, hq, rfl, a, e2⟩, ?_⟩, rfl⟩
  have : ∀ y ∈ b, y ∈ vanOf host t := fun y hy => (W.van ht (W.H.hrhs q hq y (by rw [e2]; simp [hy]))).mpr (h4 y hy)
  simpa [endS] using this
theorem nts4 {c : Nat} (h : c = 83 ∨ c = 65 ∨ c = 84 ∨ c = 66) : c ∈ NTs := by rcases h with rfl | rfl | rfl | rfl <;> decide
theorem FEnd.lhs (W : Wh host part whole) {n m : Nat} (h : FEnd host whole n m) : m = 83 ∨ m = 65 := by
 obtain ⟨q, hq, rfl, _⟩ := h
 exact W.H.hlhs q hq
theorem FBase.fol (W : Wh host part whole) {n : Nat} {f : Str} (hn : n ∈ NTs) (h : FBase host whole n f) : Fol whole 83 n f := by
 rcases h with ⟨rfl, rfl⟩ | ⟨q, hq, a, b, x, e, rfl, hx⟩
 ·exact .start
 ·exact .next (W.ofH q hq) e hn hx
theorem FEnd.fol (W : Wh host part whole) {n m : Nat} {f : Str} (hn : n ∈ NTs) (h : FEnd host whole n m) (hf : Fol whole 83 m f) : Fol whole 83 n f := by
 obtain ⟨q, hq, rfl, a, b, e, hv⟩ := h
 exact .last (W.ofH q hq) e hn hv hf
theorem Wh.fol2 (W : Wh host part whole) {c : Nat} {f : Str} (h : Fol whole 83 c f) : ∀ c2, Two c c2 → FBase host whole c f ∨ (FEnd host whole c c2 ∧ FBase host whole c2 f) := by
 have inH : ∀ {q : CPr} {a b : List Nat} {B : Nat}, q ∈ whole → q.2 = a ++ B :: b → (B = 83 ∨ B = 65) → q ∈ host ∧ (q.1 = 83 ∨ q.1 = 65) := fun {q a b B} hq e hB => by
  rcases W.lhs hq with h | ⟨h1, h2⟩
  ·exact h
  ·exact (hp1 hB (W.H.prhs q h1 B (by rw [e]; simp))).elim
 induction h with
 | start => intro c2 hc; exact .inl (.inl ⟨rfl, rfl⟩)
 | next hq e hB h =>
  intro c2 hc
  obtain ⟨h1, _⟩ := inH hq e hc.fst
  exact .inl (.inr ⟨_, h1, _, _, _, e, rfl, h⟩)
 | last hq e hB hv h ih =>
  rename_i q a b B f
  intro c2 hc
  obtain ⟨h1, h2⟩ := inH hq e hc.fst
  by_cases h6 : q.1 = B
  ·have := ih c2 (by rw [h6]; exact hc)
   rw [h6] at this; exact this
  ·have h7 : q.1 = c2 := (hc.of h2).resolve_left h6
   rcases ih B (h7 ▸ hc.swap) with h | ⟨_, h⟩
   ·exact .inr ⟨⟨q, h1, h7, a, b, e, hv⟩, h7 ▸ h⟩
   ·exact .inl h
theorem Wh.folX (W : Wh host part whole) (ht : ∀ f, f ∈ t ↔ FsC part 84 f) (c : Nat) (hc : c = 83 ∨ c = 65) (f : Str) : Fol whole 83 c f ↔ f ∈ Mine.fol2 (baseOf (vanOf host t) (letOf host t) (occs host)) (endsOf (vanOf host t) (occs host)) c := by
 have two : ∀ c c2, Two c c2 → (Fol whole 83 c f ↔ f ∈ baseOf (vanOf host t) (letOf host t) (occs host) c ++ (if c2 ∈ endsOf (vanOf host t) (occs host) c then baseOf (vanOf host t) (letOf host t) (occs host) c2 else [])) := fun c c2 hcc => by
  have n1 : c ∈ NTs := nts4 (hcc.fst.imp id .inl)
  have n2 : c2 ∈ NTs := nts4 (hcc.swap.fst.imp id .inl)
  rw [List.mem_append, W.base ht]
  constructor
  ·intro h
   rcases W.fol2 h c2 hcc with h | ⟨h1, h2⟩
   ·exact .inl h
   ·refine .inr ?_
    rw [if_pos ((W.ends ht).mpr h1)]
    exact (W.base ht f).mpr h2
  ·rintro (h | h)
   ·exact h.fol W n1
   ·split at h
    ·rename_i he
     exact ((W.ends ht).mp he).fol W n1 (((W.base ht f).mp h).fol W n2)
    ·cases h
 unfold Mine.fol2
 rcases hc with rfl | rfl
 ·exact two 83 65 (.inl ⟨rfl, rfl⟩)
 ·exact two 65 83 (.inr ⟨rfl, rfl⟩)
theorem Wh.fol (W : Wh host part whole) (ht : ∀ f, f ∈ t ↔ FsC part 84 f) : ∀ c, c = 83 ∨ c = 65 → ∀ f, Fol whole 83 c f ↔ f ∈ folwOf host t c := fun c hc f => by
 rw [W.folX ht c hc f]
 unfold folwOf folOf
 rw [if_neg fun z => hp2 hc (.inl z)]
theorem Wh.outer (W : Wh host part whole) (ht : ∀ f, f ∈ t ↔ FsC part 84 f) (f : Str) : f ∈ folwOf host t 84 ↔ FBase host whole 84 f ∨ ∃ m, FEnd host whole 84 m ∧ Fol whole 83 m f := by
 unfold folwOf folOf
 rw [if_pos rfl, List.mem_append, W.base ht, List.mem_flatMap]
 refine or_congr Iff.rfl (exists_congr fun m => ?_)
 rw [W.ends ht]
 exact ⟨fun ⟨h1, h2⟩ => ⟨h1, (W.folX ht m (h1.lhs W) f).mpr h2⟩, fun ⟨h1, h2⟩ => ⟨h1, (W.folX ht m (h1.lhs W) f).mp h2⟩⟩
theorem Fol.stT {a b : List CPr} (h : ∀ q ∈ a, q ∈ b) {l : List Nat} {x : Nat} (s : StT a l x) : StT b l x := by
 obtain ⟨u, y, v, e, hv, hx⟩ := s
 exact ⟨u, y, v, e, fun y hy => (hv y hy).mono h, hx.imp id fun z => z.mono h⟩
theorem Wh.stP (W : Wh host part whole) {l : List Nat} {x : Nat} (hl : ∀ y ∈ l, y ∈ PRTs) (s : StT whole l x) : StT part l x := by
 obtain ⟨u, y, v, e, hv, hx⟩ := s
 exact ⟨u, y, v, e, fun z hz => W.vn (hv z hz) (hl z (by rw [e]; simp [hz])), hx.imp id fun z => W.bg z (hl y (by rw [e]; simp))⟩
theorem sym_end (x : Nat) : symS x ≠ ("$end" : Str) := fun z => by have := congrArg Str.length z; rw [sym_len] at this; exact absurd this (by decide)
theorem Wh.folP (W : Wh host part whole) (ht : ∀ f, f ∈ t ↔ FsC part 84 f) : ∀ c, c = 84 ∨ c = 66 → ∀ f, Fol whole 83 c f ↔ (Fol part 84 c f ∧ f ≠ "$end") ∨ (Fol part 84 c "$end" ∧ f ∈ folwOf host t 84) := fun c hc f => by
 have n84 : (84 : Nat) ∈ NTs := by decide
 constructor
 ·intro h
  induction h with
  | start => exact absurd hc (by decide)
  | next hq e hB h =>
   rename_i q a b B x
   rcases W.lhs hq with ⟨h1, h2⟩ | ⟨h1, h2⟩
   ·have hB2 : B = 84 := hp3 (W.H.hrhs q h1 B (by rw [e]; simp)) hc
    subst hB2
    exact .inr ⟨.start, (W.outer ht _).mpr (.inl (.inr ⟨q, h1, a, b, x, e, rfl, h⟩))⟩
   ·exact .inl ⟨.next h1 e hB (W.stP (fun y hy => W.H.prhs q h1 y (by rw [e]; simp [hy])) h), sym_end x⟩
  | last hq e hB hv h ih =>
   rename_i q a b B f
   rcases W.lhs hq with ⟨h1, h2⟩ | ⟨h1, h2⟩
   ·have hB2 : B = 84 := hp3 (W.H.hrhs q h1 B (by rw [e]; simp)) hc
    subst hB2
    exact .inr ⟨.start, (W.outer ht _).mpr (.inr ⟨q.1, ⟨q, h1, rfl, a, b, e, hv⟩, h⟩)⟩
   ·have hv' : ∀ y ∈ b, Vn part y := fun y hy => W.vn (hv y hy) (W.H.prhs q h1 y (by rw [e]; simp [hy]))
    rcases ih h2 with ⟨h3, h4⟩ | ⟨h3, h4⟩
    ·exact .inl ⟨.last h1 e hB hv' h3, h4⟩
    ·exact .inr ⟨.last h1 e hB hv' h3, h4⟩
 ·rintro (⟨h, hne⟩ | ⟨h, ho⟩)
  ·clear hc
   induction h with
   | start => exact absurd rfl hne
   | next hq e hB h => exact .next (W.ofP _ hq) e hB (Fol.stT W.ofP h)
   | last hq e hB hv _ ih => exact .last (W.ofP _ hq) e hB (fun y hy => (hv y hy).mono W.ofP) (ih hne)
  ·clear hc
   generalize hg : ("$end" : Str) = g at h
   induction h with
   | start =>
    rcases (W.outer ht f).mp ho with h | ⟨m, h1, h2⟩
    ·exact h.fol W n84
    ·exact h1.fol W n84 h2
   | next hq e hB h => exact absurd hg.symm (sym_end _)
   | last hq e hB hv _ ih => exact .last (W.ofP _ hq) e hB (fun y hy => (hv y hy).mono W.ofP) (ih hg)
end
section
variable {w : World} {mg mb : Str → Option Value} {fr : List Env} {A : Around} {env : Env} {σ : Sg} {P : D → Sg → Prop} {Q : Fl → Sg → Prop}
variable {host part whole : List CPr}
theorem Rc.into {qs : List CPr} {Z : Nat → Prop} {a b : Nat} (h : Rc qs a b) (hc : ∀ q ∈ qs, Z q.1 → ∀ y ∈ q.2, Z y) : Z a → Z b := by
 induction h with
 | refl => exact id
 | step hq hy _ ih => exact fun z => ih (hc _ hq z _ hy)
theorem Rc.trans {qs : List CPr} {a b c : Nat} (h : Rc qs a b) (h2 : Rc qs b c) : Rc qs a c := by
 induction h with
 | refl => exact h2
 | step hq hy _ ih => exact .step hq hy (ih h2)
theorem Rc.mono {p q : List CPr} (hs : ∀ x ∈ p, x ∈ q) {a b : Nat} (h : Rc p a b) : Rc q a b := by
 induction h with
 | refl => exact .refl _
 | step hq hy _ ih => exact .step (hs _ hq) hy ih
theorem Rc.one {qs : List CPr} {q : CPr} {y : Nat} (hq : q ∈ qs) (hy : y ∈ q.2) : Rc qs q.1 y := .step hq hy (.refl _)
theorem front_in {l : List CPr} {c : Nat} : c ∈ frontOf l ↔ ∃ q ∈ l, q.1 = 83 ∧ c ∈ q.2 := by
 unfold frontOf
 rw [List.mem_flatMap]
 simp only [List.mem_filter, beq_iff_eq]
 exact ⟨fun ⟨q, ⟨h1, h2⟩, h3⟩ => ⟨q, h1, h2, h3⟩, fun ⟨q, h1, h2, h3⟩ => ⟨q, ⟨h1, h2⟩, h3⟩⟩
theorem used_in {l : List CPr} {c : Nat} : c ∈ usedOf l ↔ ∃ q ∈ l, c ∈ q.2 := List.mem_flatMap
theorem reach_used {l : List CPr} {c : Nat} (h : c ∈ reachOf l) : c ∈ usedOf l := by
 unfold reachOf at h
 split at h
 ·exact h
 ·exact front_used l c h
theorem front_reach {l : List CPr} {c : Nat} (h : c ∈ frontOf l) : c ∈ reachOf l := by
 unfold reachOf
 split
 ·exact front_used l c h
 ·exact h
theorem Wh.rcP (W : Wh host part whole) {a b : Nat} (h : Rc part a b) : a ∈ PRTs → b ∈ PRTs :=
 h.into (Z := (· ∈ PRTs)) fun q hq _ y hy => W.H.prhs q hq y hy
theorem used_hst (W : Wh host part whole) {c : Nat} (h : c ∈ usedOf host) : c ∈ HSTs := by
 obtain ⟨q, hq, hc⟩ := used_in.mp h
 exact W.H.hrhs q hq c hc
theorem Wh.reach (W : Wh host part whole) {c : Nat} (h : Rc whole 83 c) : c = 83 ∨ c ∈ reachOf host ∨ (84 ∈ reachOf host ∧ Rc part 84 c) := by
 refine h.into (Z := fun c => c = 83 ∨ c ∈ reachOf host ∨ (84 ∈ reachOf host ∧ Rc part 84 c)) (fun q hq hz y hy => ?_) (.inl rfl)
 rcases W.lhs hq with ⟨h1, h2⟩ | ⟨h1, h2⟩
 ·by_cases e : q.1 = 83
  ·exact .inr (.inl (front_reach (front_in.mpr ⟨q, h1, e, hy⟩)))
  ·have e2 : q.1 = 65 := h2.resolve_left e
   rcases hz with hz | hz | ⟨_, hz⟩
   ·exact absurd hz e
   ·have h3 : 65 ∈ frontOf host := by
     rw [e2] at hz
     unfold reachOf at hz
     by_cases h : 65 ∈ frontOf host
     ·exact h
     ·rw [if_neg h] at hz; exact hz
    refine .inr (.inl ?_)
    unfold reachOf
    rw [if_pos h3]
    exact used_in.mpr ⟨q, h1, hy⟩
   ·exact (hp1 h2 (W.rcP hz prt4)).elim
 ·have hp : ∀ {x}, 84 ∈ reachOf host → Rc part 84 q.1 → x ∈ q.2 → (x = 83 ∨ x ∈ reachOf host ∨ (84 ∈ reachOf host ∧ Rc part 84 x)) := fun h3 h4 h5 => .inr (.inr ⟨h3, h4.trans (.one h1 h5)⟩)
  rcases hz with hz | hz | ⟨h3, hz⟩
  ·exact absurd h2 (by rw [hz]; decide)
  ·have e : q.1 = 84 := hp3 (used_hst W (reach_used hz)) h2
   exact hp (e ▸ hz) (e ▸ .refl _) hy
  ·exact hp h3 hz hy
theorem Wh.reach65 (W : Wh host part whole) : Rc whole 83 65 ↔ 65 ∈ frontOf host := by
 constructor
 ·intro h
  rcases W.reach h with h | h | ⟨_, h⟩
  ·exact absurd h (by decide)
  ·unfold reachOf at h
   by_cases h2 : 65 ∈ frontOf host
   ·exact h2
   ·rw [if_neg h2] at h; exact h
  ·exact absurd (W.rcP h prt4) (by decide)
 ·intro h
  obtain ⟨q, hq, e, hc⟩ := front_in.mp h
  exact e ▸ Rc.one (W.ofH q hq) hc
theorem Wh.reach84 (W : Wh host part whole) : Rc whole 83 84 ↔ 84 ∈ reachOf host := by
 constructor
 ·intro h
  rcases W.reach h with h | h | ⟨h, _⟩
  ·exact absurd h (by decide)
  ·exact h
  ·exact h
 ·intro h
  unfold reachOf at h
  split at h
  ·rename_i h65
   obtain ⟨q, hq, hc⟩ := used_in.mp h
   have h1 := Rc.one (W.ofH q hq) hc
   rcases W.H.hlhs q hq with e | e
   ·exact e ▸ h1
   ·exact (W.reach65.mpr h65).trans (e ▸ h1)
  ·obtain ⟨q, hq, e, hc⟩ := front_in.mp h
   exact e ▸ Rc.one (W.ofH q hq) hc
theorem Wh.reach66 (W : Wh host part whole) : Rc whole 83 66 ↔ 84 ∈ reachOf host ∧ Rc part 84 66 := by
 constructor
 ·intro h
  rcases W.reach h with h | h | h
  ·exact absurd h (by decide)
  ·exact absurd (used_hst W (reach_used h)) (by decide)
  ·exact h
 ·rintro ⟨h1, h2⟩
  exact (W.reach84.mpr h1).trans (h2.mono W.ofP)
theorem nts_of {c : Nat} (h : c ∈ NTs) : c = 83 ∨ c = 65 ∨ c = 84 ∨ c = 66 := by simpa [NTs] using h
theorem Wh.lost (W : Wh host part whole) (U1 U2 : List Str) (n1 : U1.Nodup) (m1 : ∀ x, x ∈ U1 ↔ ∃ c ∈ [84, 66], x = symS c ∧ ¬ Rc part 84 c) (n2 : U2.Nodup) (m2 : ∀ x, x ∈ U2 ↔ ∃ c ∈ NTs, x = symS c ∧ ¬ Rc whole 83 c) : U2.Perm (lostOf host U1) := by
 have b1 : ∀ x ∈ U1, x = ("T" : Str) ∨ x = ("B" : Str) := fun x hx => by
  obtain ⟨c, hc, e, _⟩ := (m1 x).mp hx
  have : c = 84 ∨ c = 66 := by simpa using hc
  rcases this with rfl | rfl
  ·exact .inl e
  ·exact .inr e
 refine perm_of_mem n2 ?_ fun x => ?_
 ·unfold lostOf
  rw [List.nodup_append]
  refine ⟨by split <;> simp, ?_, fun a ha b hb z => ?_⟩
  ·split
   ·exact n1
   ·decide
  ·split at ha
   ·cases ha
   ·rw [List.mem_singleton.mp ha] at z
    split at hb
    ·rcases b1 b hb with h | h <;> rw [h] at z <;> exact absurd z (by decide)
    ·subst z; exact absurd hb (by decide)
 ·rw [m2]
  unfold lostOf
  rw [List.mem_append]
  constructor
  ·rintro ⟨c, hc, e, hn⟩
   rcases nts_of hc with rfl | rfl | rfl | rfl
   ·exact absurd (.refl _) hn
   ·refine .inl ?_
    rw [if_neg fun h => hn (W.reach65.mpr h)]
    exact List.mem_singleton.mpr e
   ·refine .inr ?_
    rw [if_neg fun h => hn (W.reach84.mpr h), e]; exact .head _
   ·refine .inr ?_
    by_cases h : 84 ∈ reachOf host
    ·rw [if_pos h]
     exact (m1 x).mpr ⟨66, by simp, e, fun z => hn (W.reach66.mpr ⟨h, z⟩)⟩
    ·rw [if_neg h, e]; exact .tail _ (.head _)
  ·rintro (h | h)
   ·split at h
    ·cases h
    ·rename_i hf
     exact ⟨65, by decide, List.mem_singleton.mp h, fun z => hf (W.reach65.mp z)⟩
   ·split at h
    ·rename_i hr
     obtain ⟨c, hc, e, hn⟩ := (m1 x).mp h
     have : c = 84 ∨ c = 66 := by simpa using hc
     rcases this with rfl | rfl
     ·exact absurd (.refl _) hn
     ·exact ⟨66, by decide, e, fun z => hn (W.reach66.mp z).2⟩
    ·rename_i hr
     have : x = ("T" : Str) ∨ x = ("B" : Str) := by simpa using h
     rcases this with rfl | rfl
     ·exact ⟨84, by decide, rfl, fun z => hr (W.reach84.mp z)⟩
     ·exact ⟨66, by decide, rfl, fun z => hr (W.reach66.mp z).1⟩
theorem Tm.mono {a b : List CPr} (h : ∀ q ∈ a, q ∈ b) {c : Nat} (v : Tm a c) : Tm b c := by
 induction v with
 | mk hq _ ih => exact .mk (h _ hq) ih
theorem Wh.tmP (W : Wh host part whole) {c : Nat} (h : Tm whole c) : (c = 84 ∨ c = 66) → Tm part c := by
 induction h with
 | mk hq _ ih =>
  intro hc
  rcases W.lhs hq with ⟨h1, h2⟩ | ⟨h1, h2⟩
  ·exact (hp2 h2 hc).elim
  ·refine .mk h1 fun y hy hn => ih y hy hn ?_
   exact (nts_two hn).resolve_left fun z => hp1 z (W.H.prhs _ h1 y hy)
theorem Wh.tmH (W : Wh host part whole) {D1 : List Str} (hm : ∀ x, x ∈ D1 ↔ ∃ c ∈ [84, 66], x = symS c ∧ ¬ Tm part c) {c : Nat} (hc : c = 83 ∨ c = 65) : c ∈ closN host 2 (knownOf D1) ↔ Tm whole c := by
 have hT : ("T" : Str) ∈ D1 ↔ ¬ Tm part 84 := by
  rw [hm]
  constructor
  ·rintro ⟨c, hc, e, h⟩
   have : c = 84 := (symS_inj (show symS 84 = symS c from e)).symm
   rw [this] at h; exact h
  ·exact fun h => ⟨84, by simp, rfl, h⟩
 rw [clos_iff W.H.hlhs]
 constructor
 ·intro h
  have : ∀ c, Cl host (knownOf D1) c → c ∈ NTs → Tm whole c := fun c h => by
   induction h with
   | base h =>
    intro hn
    have h4 := nts_of hn
    unfold knownOf at h
    rcases List.mem_append.mp h with h | h
    ·simp only [List.mem_cons, List.not_mem_nil, or_false] at h
     lia
    ·split at h
     ·cases h
     ·rename_i hx
      rw [List.mem_singleton.mp h]
      exact (Classical.not_not.mp fun z => hx (hT.mpr z)).mono W.ofP
   | row hq _ ih => exact fun _ => .mk (W.ofH _ hq) ih
  exact this c h (nts4 (hc.imp id .inl))
 ·intro h
  induction h with
  | mk hq _ ih =>
   rcases W.lhs hq with ⟨h1, h2⟩ | ⟨h1, h2⟩
   ·refine .row h1 fun y hy => ?_
    rcases hst_of (W.H.hrhs _ h1 y hy) with rfl | rfl | rfl | rfl | rfl
    ·exact ih _ hy (by decide) (.inl rfl)
    ·exact ih _ hy (by decide) (.inr rfl)
    ·rename_i hall
     have h84 : Tm part 84 := W.tmP (hall 84 hy (by decide)) (.inl rfl)
     refine .base ?_
     unfold knownOf
     rw [if_neg fun z => hT.mp z h84]; simp
    ·exact .base (by simp [knownOf])
    ·exact .base (by simp [knownOf])
   ·exact (hp2 hc h2).elim
theorem Wh.endsU (W : Wh host part whole) (U1 U2 : List Str) (n1 : U1.Nodup) (m1 : ∀ x, x ∈ U1 ↔ ∃ c ∈ [84, 66], x = symS c ∧ ¬ Tm part c) (n2 : U2.Nodup) (m2 : ∀ x, x ∈ U2 ↔ ∃ c ∈ NTs, x = symS c ∧ ¬ Tm whole c) : U2.Perm (endlessOf host U1) := by
 have b1 : ∀ x ∈ U1, ∃ c, (c = 84 ∨ c = 66) ∧ x = symS c := fun x hx => by
  obtain ⟨c, hc, e, _⟩ := (m1 x).mp hx
  exact ⟨c, by simpa using hc, e⟩
 refine perm_of_mem n2 ?_ fun x => ?_
 ·unfold endlessOf
  rw [List.nodup_append]
  refine ⟨List.Pairwise.map (R := (· ≠ ·)) symS (fun a b h z => h (symS_inj z)) (List.Pairwise.filter _ (by decide)), n1, fun a ha b hb z => ?_⟩
  obtain ⟨c, hc, rfl⟩ := List.mem_map.mp ha
  obtain ⟨d, hd, e⟩ := b1 b hb
  have h1 : c = d := symS_inj (z.trans e)
  have h2 : c = 83 ∨ c = 65 := by simpa using (List.mem_filter.mp hc).1
  exact hp2 h2 (h1 ▸ hd)
 ·rw [m2]
  unfold endlessOf
  rw [List.mem_append, List.mem_map]
  have hh : ∀ c, c = 83 ∨ c = 65 → (c ∈ ([83, 65].filter fun c => !decide (c ∈ closN host 2 (knownOf U1))) ↔ ¬ Tm whole c) := fun c hc => by
   rw [List.mem_filter]
   have h1 : c ∈ [83, 65] := by simpa using hc
   simp only [h1, true_and, Bool.not_eq_true', decide_eq_false_iff_not]
   exact not_congr (W.tmH m1 hc)
  constructor
  ·rintro ⟨c, hc, e, hn⟩
   rcases nts_two hc with h | h
   ·exact .inl ⟨c, (hh c h).mpr hn, e.symm⟩
   ·exact .inr ((m1 x).mpr ⟨c, by simpa using h, e, fun z => hn (z.mono W.ofP)⟩)
  ·rintro (⟨c, hc, e⟩ | h)
   ·have h2 : c = 83 ∨ c = 65 := by simpa using (List.mem_filter.mp hc).1
    exact ⟨c, nts4 (h2.imp id .inl), e.symm, (hh c h2).mp hc⟩
   ·obtain ⟨c, hc, e, hn⟩ := (m1 x).mp h
    have h2 : c = 84 ∨ c = 66 := by simpa using hc
    exact ⟨c, nts4 (.inr (.inr h2)), e, fun z => hn (W.tmP z h2)⟩
theorem idle_used (qs : List CPr) (c : Nat) : idle qs c = !decide (c ∈ usedOf qs) := by
 rw [Bool.eq_iff_iff, idle_iff]
 simp only [Bool.not_eq_true', decide_eq_false_iff_not, used_in]
 exact ⟨fun h ⟨q, hq, hc⟩ => h q hq hc, fun h q hq hc => h ⟨q, hq, hc⟩⟩
theorem Wh.idle (W : Wh host part whole) (c : Nat) : Mine.idle whole c = !decide (c ∈ usedOf host ++ usedOf part) := by
 rw [Bool.eq_iff_iff, idle_iff]
 simp only [Bool.not_eq_true', decide_eq_false_iff_not, List.mem_append, used_in]
 constructor
 ·rintro h (⟨q, hq, hc⟩ | ⟨q, hq, hc⟩)
  ·exact h q (W.ofH q hq) hc
  ·exact h q (W.ofP q hq) hc
 ·intro h q hq hc
  rcases (W.m q).mp hq with h1 | h1
  ·exact h (.inl ⟨q, h1, hc⟩)
  ·exact h (.inr ⟨q, h1, hc⟩)
end
section
variable {w : World} {mg mb : Str → Option Value} {fr : List Env} {A : Around} {env : Env} {σ : Sg} {P : D → Sg → Prop} {Q : Fl → Sg → Prop}
variable {host part whole : List CPr}
noncomputable def ordF (ks : List Nat) (qs : List CPr) : List Nat := qs.foldl (fun ks q => if q.1 ∈ ks then ks else ks ++ [q.1]) ks
theorem ord_keep {l : List CPr} : ∀ {ks : List Nat}, (∀ q ∈ l, q.1 ∈ ks) → ordF ks l = ks := by
 induction l with
 | nil => intro _ _; exact rfl
 | cons q r ih =>
  intro ks h
  show ordF (if q.1 ∈ ks then ks else ks ++ [q.1]) r = ks
  rw [if_pos (h q (.head _))]
  exact ih fun x hx => h x (.tail _ hx)
theorem ord_two {a b : Nat} {x y : List Nat} {r : List CPr} {ks : List Nat} (ha : a ∉ ks) (hb : b ∉ ks) (hab : b ≠ a) (hr : ∀ q ∈ r, q.1 = a ∨ q.1 = b) : ordF ks ((a, x) :: (b, y) :: r) = ks ++ [a, b] := by
 show ordF (if b ∈ (if a ∈ ks then ks else ks ++ [a]) then (if a ∈ ks then ks else ks ++ [a]) else (if a ∈ ks then ks else ks ++ [a]) ++ [b]) r = _
 rw [if_neg ha, if_neg (by simp [hb, hab]), List.append_assoc]
 exact ord_keep fun q hq => by rcases hr q hq with h | h <;> rw [h] <;> simp
theorem ord_app (ks : List Nat) (a b : List CPr) : ordF ks (a ++ b) = ordF (ordF ks a) b := List.foldl_append
theorem row_app (a b : List CPr) (c : Nat) : rowOf (a ++ b) c = if (∃ q ∈ a, q.1 = c) then rowOf a c else rowOf b c := by
 unfold rowOf
 rw [List.find?_append]
 split
 ·rename_i h
  obtain ⟨q, hq, e⟩ := h
  cases hf : a.find? fun q => q.1 == c with
  | some x => rfl
  | none => exact absurd e (by simpa using List.find?_eq_none.mp hf q hq)
 ·rename_i h
  rw [List.find?_eq_none.mpr fun q hq => by simpa using fun z => h ⟨q, hq, z⟩]; rfl
noncomputable def ifs (b : Bool) (q : CPr) : List CPr := if b = true then [q] else []
noncomputable def jN (a t b : Bool) : List Nat := match a, t, b with
 | true, true, true => [0, 2, 1]
 | true, true, false => [0, 1]
 | true, false, true => [0, 1]
 | false, true, true => [1, 0]
 | false, false, false => []
 | _, _, _ => [0]
noncomputable def jF (a t b : Bool) : List Nat := match a, t, b with
 | true, true, true => [2, 1, 0]
 | true, true, false => [1, 0]
 | true, false, true => [1, 0]
 | false, true, true => [1, 0]
 | false, false, false => []
 | _, _, _ => [0]
theorem rows_N (y u v : List Nat) (a t b : Bool) : rowsLt (((ifs a (65, y) ++ ifs t (84, u)) ++ ifs b (66, v)).map fun q => symS q.1) = some (jN a t b) := by
 cases a <;> cases t <;> cases b <;> kernel_rfl
theorem rows_F (y u v : List Nat) (a t b : Bool) : rowsLt (((ifs t (84, u) ++ ifs b (66, v)) ++ ifs a (65, y)).map fun q => symS q.1) = some (jF a t b) := by
 cases a <;> cases t <;> cases b <;> kernel_rfl
theorem rows_P (y u v : List Nat) (a t b : Bool) : pickV ((ifs t (84, u) ++ ifs b (66, v)) ++ ifs a (65, y)) (jF a t b) = pickV ((ifs a (65, y) ++ ifs t (84, u)) ++ ifs b (66, v)) (jN a t b) := by
 cases a <;> cases t <;> cases b <;> rfl
theorem ifs_filter (p : Nat → Bool) (g : Nat → CPr) (c : Nat) : ([c].filter p).map g = ifs (p c) (g c) := by
 unfold ifs
 cases h : p c <;> simp [h]
theorem plain (f : Bool) (host part : List CPr) (H : Hosted host part) : PlainOk host part (wholeOf f host part) := by
 have W : Wh host part (wholeOf f host part) := ⟨H, mem_whole f⟩
 have g1 := H.gp
 have g2 := H.gw f
 have ho := H.ho
 obtain ⟨x, y, r, e⟩ := H.hhd
 obtain ⟨u, v, s, e2⟩ := H.phd
 have hr : ∀ q ∈ r, q.1 = 83 ∨ q.1 = 65 := fun q hq => H.hlhs q (by rw [e]; simp [hq])
 have hs : ∀ q ∈ s, q.1 = 84 ∨ q.1 = 66 := fun q hq => H.plhs q (by rw [e2]; simp [hq])
 have hfw := H.few
 have hl2 : 2 ≤ host.length := by rw [e]; simp
 have pl2 : 2 ≤ part.length := by rw [e2]; simp
 have rP84 : rowOf part 84 = (84, u) := by rw [e2]; rfl
 have rP66 : rowOf part 66 = (66, v) := by rw [e2]; rfl
 have rH65 : rowOf host 65 = (65, y) := by rw [e]; rfl
 have nP : ¬ ∃ q ∈ part, q.1 = 65 := fun ⟨q, hq, h⟩ => by have := H.plhs q hq; lia
 have nH : ∀ c, c = 84 ∨ c = 66 → ¬ ∃ q ∈ host, q.1 = c := fun c hc ⟨q, hq, h⟩ => by have := H.hlhs q hq; lia
 have yH : ∃ q ∈ host, q.1 = 65 := ⟨(65, y), by rw [e]; simp, rfl⟩
 have yP84 : ∃ q ∈ part, q.1 = 84 := ⟨(84, u), by rw [e2]; simp, rfl⟩
 have yP66 : ∃ q ∈ part, q.1 = 66 := ⟨(66, v), by rw [e2]; simp, rfl⟩
 have r65 : rowOf (wholeOf f host part) 65 = (65, y) := by
  unfold wholeOf; split <;> rw [row_app]
  ·rw [if_neg nP, rH65]
  ·rw [if_pos yH, rH65]
 have r84 : rowOf (wholeOf f host part) 84 = (84, u) := by
  unfold wholeOf; split <;> rw [row_app]
  ·rw [if_pos yP84, rP84]
  ·rw [if_neg (nH 84 (.inl rfl)), rP84]
 have r66 : rowOf (wholeOf f host part) 66 = (66, v) := by
  unfold wholeOf; split <;> rw [row_app]
  ·rw [if_pos yP66, rP66]
  ·rw [if_neg (nH 66 (.inr rfl)), rP66]
 have i65 : Mine.idle (wholeOf f host part) 65 = !decide (65 ∈ usedOf host) := by
  rw [W.idle]
  congr 2
  rw [List.mem_append]
  refine propext ⟨fun h => h.elim id fun h => ?_, .inl⟩
  obtain ⟨q, hq, hc⟩ := used_in.mp h
  have := prt_of (H.prhs q hq 65 hc); lia
 have i66 : Mine.idle (wholeOf f host part) 66 = Mine.idle part 66 := by
  rw [W.idle, idle_used]
  congr 2
  rw [List.mem_append]
  refine propext ⟨fun h => h.elim (fun h => ?_) id, .inr⟩
  obtain ⟨q, hq, hc⟩ := used_in.mp h
  have := hst_of (H.hrhs q hq 66 hc); lia
 have hU : uselessOf host part = (ifs (Mine.idle (wholeOf f host part) 65) (65, y) ++ ifs (Mine.idle (wholeOf f host part) 84) (84, u)) ++ ifs (Mine.idle (wholeOf f host part) 66) (66, v) := by
  unfold uselessOf
  congr 1
  ·congr 1
   ·rw [i65, e]
    unfold ifs
    by_cases h : 65 ∈ usedOf ((83, x) :: (65, y) :: r)
    ·rw [if_pos h, decide_eq_true h]; rfl
    ·rw [if_neg h, decide_eq_false h]; rfl
   ·rw [W.idle]
    unfold ifs
    by_cases h : 84 ∈ usedOf host ++ usedOf part
    ·rw [if_pos h, decide_eq_true h]; rfl
    ·rw [if_neg h, decide_eq_false h, e2]; rfl
  ·have ol : lhsOrd part = [84, 66] := by
    show ordF [] part = _
    rw [e2, ord_two (by simp) (by simp) (by decide) hs]; rfl
   unfold loneRows
   rw [ol, show ([84, 66] : List Nat) = [84] ++ [66] from rfl, List.filter_append, List.map_append, ifs_filter, ifs_filter, rP84, rP66]
   rw [show lone part 84 84 = false from rfl, i66]
   rfl
 have hL : loneRows (wholeOf f host part) 83 = if f = true then (ifs (Mine.idle (wholeOf f host part) 84) (84, u) ++ ifs (Mine.idle (wholeOf f host part) 66) (66, v)) ++ ifs (Mine.idle (wholeOf f host part) 65) (65, y) else (ifs (Mine.idle (wholeOf f host part) 65) (65, y) ++ ifs (Mine.idle (wholeOf f host part) 84) (84, u)) ++ ifs (Mine.idle (wholeOf f host part) 66) (66, v) := by
  have l65 : lone (wholeOf f host part) 83 65 = Mine.idle (wholeOf f host part) 65 := rfl
  have l84 : lone (wholeOf f host part) 83 84 = Mine.idle (wholeOf f host part) 84 := rfl
  have l66 : lone (wholeOf f host part) 83 66 = Mine.idle (wholeOf f host part) 66 := rfl
  have l83 : lone (wholeOf f host part) 83 83 = false := rfl
  unfold loneRows
  cases f
  ·have ol : lhsOrd (wholeOf false host part) = [83] ++ ([65] ++ ([84] ++ [66])) := by
    show ordF [] (host ++ part) = _
    rw [ord_app, e, ord_two (by simp) (by simp) (by decide) hr, e2, ord_two (by simp) (by simp) (by decide) hs]; rfl
   rw [ol]
   simp only [List.filter_append, List.map_append, ifs_filter, r65, r84, r66, l65, l84, l66, l83]
   rw [if_neg (by simp)]
   show [] ++ _ = _
   rw [List.nil_append, List.append_assoc]
  ·have ol : lhsOrd (wholeOf true host part) = [84] ++ ([66] ++ ([83] ++ [65])) := by
    show ordF [] (part ++ host) = _
    rw [ord_app, e2, ord_two (by simp) (by simp) (by decide) hs, e, ord_two (by simp) (by simp) (by decide) hr]; rfl
   rw [ol]
   simp only [List.filter_append, List.map_append, ifs_filter, r65, r84, r66, l65, l84, l66, l83]
   rw [if_pos trivial]
   show _ ++ (_ ++ ([] ++ _)) = _
   rw [List.nil_append, List.append_assoc]
 refine ⟨g1, g2, ⟨ho, hl2, g1.rows, g1.len, by lia, W.lost, W.endsU, idle_used part, W.idle, ?_⟩, fun t ht => W.fst ht, W.fst2, fun t ht => W.fol ht, fun t ht => W.folP ht⟩
 rw [hU, hL]
 generalize Mine.idle (wholeOf f host part) 65 = a
 generalize Mine.idle (wholeOf f host part) 84 = b
 generalize Mine.idle (wholeOf f host part) 66 = c
 cases f
 ·exact ⟨_, _, rows_N y u v a b c, rows_N y u v a b c, rfl⟩
 ·exact ⟨_, _, rows_F y u v a b c, rows_N y u v a b c, rows_P y u v a b c⟩
end
end Mine
set_option maxHeartbeats 8000000
namespace Mine
open PySem PySem.W PySem.Calls PyProof.Rows
theorem rp_ints {X : Cx} {b : Heap} {vs : List Value} {ns : List Int} (q : IntsAre vs ns) : RpAll X b vs (ns.map D.int) := by
 induction q with
 | nil => exact .nil
 | cons _ t _ ih => exact .cons (.int _ t) ih
noncomputable def noTab (h : Heap) : Heap := restrict h fun a => a != 176
theorem noTab_get {h : Heap} {a : Addr} {o : Obj} (e : h.get? a = some o) (hn : a ≠ 176) : (noTab h).get? a = some o := by
 unfold noTab; rw [get?_restrict, if_pos (by simpa using hn)]; exact e
theorem noTab_le (h : Heap) : Le (noTab h) h := fun a o e => by
 unfold noTab at e; rw [get?_restrict] at e
 split at e
 ·exact e
 ·cases e
theorem noTab_none (h : Heap) : (noTab h).get? 176 = none := by
 unfold noTab; rw [get?_restrict, if_neg (by decide)]
theorem noTab_ne {h : Heap} {a : Addr} {o : Obj} (ht : h.get? 176 = some (tabO #[])) (e : h.get? a = some o) (hd : o.data ≠ (tabO #[]).data) : (noTab h).get? a = some o :=
 noTab_get e fun z => hd (by rw [z, ht] at e; cases e; rfl)
theorem noTab_ns {h : Heap} {a : Addr} {mm : Str → Option Value} (ht : h.get? 176 = some (tabO #[])) (x : h.Ns a mm) : (noTab h).Ns a mm :=
 let ⟨o, es, ep, e, hd, r⟩ := x; ⟨o, es, ep, noTab_ne ht e (fun q => by rw [hd] at q; cases q), hd, r⟩
theorem KT_of {P : Params} {a : Addr} {o : Obj} (e : (K1 P).lookup a = some o) : a ≠ 176 ∧ (KT P).lookup a = some o := by
 have h : a ≠ 176 := fun z => by
  subst z
  rw [show (K1 P).lookup 176 = none from by kernel_rfl] at e; cases e
 refine ⟨h, ?_⟩
 show List.lookup a ((176, _) :: K1 P) = some o
 rw [List.lookup_cons, show (a == 176) = false from by simpa using h]
 exact e
end Mine
open PySem PySem.W PySem.Calls PyProof.Rows Mine in
theorem Mine.holdsX : PySem.Challenge.rw_rp0001_01.Holds := by
 refine holds_law said1 fun said => ?_
 refine holds_open (q := view1) (loose := loose1) (Xt := Xt1) (XP := XL view1 []) (Yf := Hook.obs hook1) (Ya := Hook.val hook1) (YP := Hook.says hook1) (N := 2100) left1 (Hook.of hook1) (Hook.keeps hook1) (fun s e => xl_of s (Bool.and_eq_true_iff.mp e).1) XL.keeps (by rfl) (by rfl) (by rfl) (fun s e => recFacts_of (Bool.and_eq_true_iff.mp e).2) (by rfl) said (by decide +kernel) ⟨rfl, rfl, rfl, rfl, rfl, by decide +kernel⟩ ?hw ?hc
 case hw => w_witness2
 clear said
 intro w s₀ s₁ mg mb G Y fa o pm cd doc dV kV ho hd hcd hD hmg hg args vals as hpre hlay hrd hwl hlo
 have KX := kIn_of Y
 have TR := topRead_of G.T
 clear hd hcd hD
 wrow_args hpre hlay hrd hwl hlo
 rename_i ns hs hl0 hL1 hr1 hl2 as4 as3 l vs as hL ra wl r0 hI hrr hc1 hc2
 have ht : s₁.heap.get? 176 = some (tabO #[]) := KX 176 _ rfl
 obtain ⟨vc, hvc, hv11⟩ : ∃ vc : Obj, s₁.heap.get? 178 = some vc ∧ vc.cls = .type "code" ∧ ∃ vs, vc.data = .fields vs ∧ vs[11]? = some (.ref 176) := ⟨_, KX 178 _ rfl, rfl, _, rfl, rfl⟩
 have hic : isCodeTable s₁.heap 176 := ⟨178, vc, hv11.2.choose, hvc, hv11.1, hv11.2.choose_spec.1, hv11.2.choose_spec.2⟩
 have e := mg_of KX TR.g (show nsIn (KT w.params) mainGlobals "law" = some (some (.ref 303)) from rfl)
 have hfa : fa = 303 := by have h := hmg.symm.trans e; injection h with h; injection h
 subst hfa
 have HP : Hp (X3 w mg mb []) [(176, C.raw (TabI markP markQ))] (noTab s₁.heap) s₁ := by
  refine ⟨noTab_le _, fun p hp => ?_, fun p hp => ?_, by simp, ⟨fun a o e => ?_, ?_⟩⟩
  ·rw [List.mem_singleton.mp hp]
   exact ⟨tabI_by _ _, ⟨_, ht⟩, .none ht⟩
  ·rw [List.mem_singleton.mp hp]; exact noTab_none _
  ·obtain ⟨h1, h2⟩ := KT_of e
   exact noTab_get (KX _ _ h2) h1
  ·exact ⟨noTab_ns ht TR.g, noTab_ns ht TR.b, let ⟨mc, a, r⟩ := TR.nolimit; ⟨mc, noTab_ns ht a, r⟩, TR.builtins, TR.free⟩
 have RV : RpAll (X3 w mg mb []) (noTab s₁.heap) [.ref l] [.list (ns.map .int)] := by
  refine .cons ?_ .nil
  have hx : ∃ xs, ofPy (PyData.list (ns.map PyData.int)) = WData.list xs := ⟨_, ofPy.eq_5 _⟩
  obtain ⟨xs, hx⟩ := hx
  rw [hx] at wl
  cases wl with
  | list g wa =>
   obtain ⟨o', h1, h2, n, h3⟩ := hL
   rw [g] at h1
   cases h1
   injection h3 with h3
   refine .list (n := 0) (noTab_ne ht g (fun q => by cases q)) ?_
   rw [h3]
   exact rp_ints hI
 refine wpAny_call (law_body (w := w) (mg := mg) (mb := mb) (A := callerA) (k := 0) (ns := ns) plain ⟨rfl, by decide, by decide, rfl⟩ rfl (by omega) HP RV fun v σ' s' b' rv hT hH hk hgn hos => ?_)
 cases rv
 have hT' : TabI markP markQ b' s'.heap 176 := (hH.cell _ hT).2.2
 have old : OldK s₁.heap s'.heap := by
  refine ⟨fun b o e => ?_, fun b o e => ?_⟩
  ·by_cases hb : b = 176
   ·subst hb
    rw [ht] at e
    cases e
    cases hT' with
    | none g => exact .inl g
    | one c' g r => exact .inr (.inl ⟨hic, rfl, #[], _, rfl, by rw [Array.empty_append]; exact g⟩)
   ·exact .inl (hk b o hb e)
  ·by_cases hb : b = 176
   ·subst hb
    cases hT' with
    | none g => exact ⟨_, g⟩
    | one c' g r => exact ⟨_, g⟩
   ·exact ⟨o, hk b o hb e⟩
 refine ⟨.inl ⟨_, _, [], rfl, fun _ => rfl, ReadsW.bool true, ?_, fun _ => ⟨List.nodup_nil, fun _ hm => (nomatch hm)⟩⟩, old, hos, .of_eq (hgn.trans hg)⟩
 first | rfl | wrow_post
end
theorem PySem.Challenge.cw_rp0001_01_holds : PySem.Challenge.rw_rp0001_01.Holds := by
 exact Mine.holdsX
