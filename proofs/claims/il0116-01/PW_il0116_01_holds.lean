import PyProof.Rows.All
import Wide.All
import OpenK.AllK
import Wide.FinOn
import PyProof.PlainList
import KE.KSortAsk
import PyProof.AttrMissHeap
import PyProof.SeqInW
import KE.KOwnIter
import PySem.Challenge.RW_il0116_01
set_option Elab.async false
set_option linter.unusedVariables false
set_option linter.unusedSimpArgs false
set_option linter.unusedSectionVars false
set_option compiler.extract_closed false
set_option maxRecDepth 100000
section
open PySem PySem.Calls
namespace Mine

noncomputable abbrev tab0 : Addr := 23
noncomputable def Soft (o : Obj) : Prop := (∀ vs, o.data ≠ .fields vs) ∨ (o.cls ≠ .type "code" ∧ o.cls ≠ .none)
noncomputable def kDefs : List (Pos × Str) := [(⟨11, 8, 12, 26⟩, "cmp_to_key.<locals>.K.__init__"), (⟨14, 8, 15, 49⟩, "cmp_to_key.<locals>.K.__lt__"), (⟨17, 8, 18, 49⟩, "cmp_to_key.<locals>.K.__gt__"),
  (⟨20, 8, 21, 50⟩, "cmp_to_key.<locals>.K.__eq__"), (⟨23, 8, 24, 50⟩, "cmp_to_key.<locals>.K.__le__"), (⟨26, 8, 27, 50⟩, "cmp_to_key.<locals>.K.__ge__")]
noncomputable abbrev tabO (ps : Array Value) : Obj := { cls := .none, data := .fields ps }
noncomputable def DefAt (h : Heap) (ps : Array Value) (d : Pos × Str) : Prop := ∃ ci oi vi t, codeAmong d.1 ps.toList = some (.ref ci) ∧ h.get? ci = some oi ∧ oi.cls = .type "code" ∧ oi.data = .fields vi ∧ vi[1]? = some (.str d.2 t)
noncomputable def CodeFull (h : Heap) (c : Addr) : Prop := ∃ P ps, PySem.W.CodeHd h c P ∧ h.get? P = some (tabO ps) ∧ TriplesOk ps.toList ∧ ∀ d ∈ kDefs, DefAt h ps d
noncomputable def Tab (h : Heap) : Prop := h.get? tab0 = some (tabO #[]) ∨ ∃ c, h.get? tab0 = some (tabO #[.int 7 0, .int 4 0, .ref c]) ∧ CodeFull h c
theorem Tab.ex {h : Heap} (x : Tab h) : ∃ o, h.get? tab0 = some o := by
  rcases x with x | ⟨_, x, _⟩
  · exact ⟨_, x⟩
  · exact ⟨_, x⟩
theorem Tab.but {h h' : Heap} {P : Addr → Prop} (x : Tab h) (hP : ∀ a o, P a → h.get? a = some o → Soft o) (k : ∀ b o, ¬ P b → h.get? b = some o → h'.get? b = some o) : Tab h' := by
  have tb : ∀ {b ps}, h.get? b = some (tabO ps) → h'.get? b = some (tabO ps) := fun {b ps} e => k _ _ (fun p => by
    rcases hP _ _ p e with z | ⟨_, z⟩
    · exact z _ rfl
    · exact z rfl) e
  have cd : ∀ {b o vs}, h.get? b = some o → o.cls = .type "code" → o.data = .fields vs → h'.get? b = some o := fun {b o vs} e hc hd => k _ _ (fun p => by
    rcases hP _ _ p e with z | ⟨z, _⟩
    · exact z _ hd
    · exact z hc) e
  rcases x with x | ⟨c, x, Q, ps, ⟨o, vs, file, tf, flags, tg, inF, text, tt, a1, a2, a3, ar⟩, a5, a7, a6⟩
  · exact .inl (tb x)
  · refine .inr ⟨c, tb x, Q, ps, ⟨o, vs, file, tf, flags, tg, inF, text, tt, cd a1 a2 a3, a2, a3, ar⟩, tb a5, a7, fun d hd => ?_⟩
    obtain ⟨ci, oi, vi, t, b1, b2, b3, b4, b5⟩ := a6 d hd
    exact ⟨ci, oi, vi, t, b1, cd b2 b3 b4, b3, b4, b5⟩
theorem Tab.keeps {h h' : Heap} (x : Tab h) (k : ∀ b o, h.get? b = some o → h'.get? b = some o) : Tab h' := x.but (P := fun _ => False) (fun _ _ p => p.elim) fun b o _ e => k b o e
theorem Tab.one {h h' : Heap} {a : Addr} {o : Obj} (x : Tab h) (ha : h.get? a = some o) (hs : Soft o) (k : ∀ b o, b ≠ a → h.get? b = some o → h'.get? b = some o) : Tab h' :=
  x.but (P := fun b => b = a) (fun b o' p e => by rw [p, ha] at e; obtain rfl := Option.some.inj e; exact hs) k

noncomputable abbrev NFr (o : Obj) : Prop := o.cls ≠ .type "frame"
class Old where at_ : Addr → Prop
variable [iO : Old]
structure Kp (h h' : Heap) : Prop where
  keep : ∀ b o, b ≠ tab0 → NFr o → h.get? b = some o → h'.get? b = some o
  fr : ∀ b o, b ≠ tab0 → o.cls = .type "frame" → h.get? b = some o → ∃ sl, h'.get? b = some { o with slots := sl } ∧ (Old.at_ b → sl = o.slots)
  tab : Tab h → Tab h'
theorem Kp.both {h h' : Heap} (k : Kp h h') {b : Addr} {o : Obj} (n : b ≠ tab0) (e : h.get? b = some o) : ∃ sl, h'.get? b = some { o with slots := sl } := by
  by_cases c : o.cls = .type "frame"
  · obtain ⟨sl, q, _⟩ := k.fr b o n c e; exact ⟨sl, q⟩
  · exact ⟨o.slots, k.keep b o n c e⟩
theorem Kp.live {h h' : Heap} (k : Kp h h') {b : Addr} {o : Obj} (n : b ≠ tab0) (e : h.get? b = some o) : ∃ o', h'.get? b = some o' := by obtain ⟨_, q⟩ := k.both n e; exact ⟨_, q⟩
theorem Kp.gone {h h' : Heap} (k : Kp h h') {b : Addr} (n : b ≠ tab0) (e : h'.get? b = none) : h.get? b = none := by
  cases q : h.get? b with
  | none => rfl
  | some o => obtain ⟨o', q'⟩ := k.live n q; rw [e] at q'; injection q'
theorem Kp.ex {h h' : Heap} (keep : ∀ b o, b ≠ tab0 → h.get? b = some o → h'.get? b = some o) (tab : Tab h → Tab h') : Kp h h' := ⟨fun b o n _ e => keep b o n e, fun b o n _ e => ⟨o.slots, keep b o n e, fun _ => rfl⟩, tab⟩
theorem Kp.refl (h : Heap) : Kp h h := Kp.ex (fun _ _ _ e => e) fun x => x
theorem Kp.trans {a b c : Heap} (x : Kp a b) (y : Kp b c) : Kp a c :=
  ⟨fun i o n q e => y.keep i o n q (x.keep i o n q e), fun i o n q e => (by obtain ⟨sl, e1, p1⟩ := x.fr i o n q e; obtain ⟨sl', e2, p2⟩ := y.fr i { o with slots := sl } n q e1; exact ⟨sl', e2, fun z => (p2 z).trans (p1 z)⟩), fun t => y.tab (x.tab t)⟩
theorem Kp.of {h h' : Heap} (k : ∀ b o, h.get? b = some o → h'.get? b = some o) : Kp h h' := Kp.ex (fun b o _ e => k b o e) fun x => x.keeps k
theorem Kp.andThen {h h₁ h' : Heap} (k : Kp h h₁) (hk : ∀ b o o₁, b ≠ tab0 → h.get? b = some o → h₁.get? b = some o₁ → h'.get? b = some o₁) (tab : Tab h → Tab h') : Kp h h' :=
  ⟨fun b o n c e => hk b o o n e (k.keep b o n c e), fun b o n c e => (by obtain ⟨sl, q, p⟩ := k.fr b o n c e; exact ⟨sl, hk b o _ n e q, p⟩), tab⟩

noncomputable def Ks (s s' : Shared) : Prop := ∃ h' tk, s' = { s with heap := h', toks := tk } ∧ Kp s.heap h'
theorem Ks.refl (s : Shared) : Ks s s := ⟨s.heap, s.toks, rfl, Kp.refl _⟩
theorem Ks.trans {a b c : Shared} (x : Ks a b) (y : Ks b c) : Ks a c := by
  obtain ⟨h, t, rfl, k⟩ := x; obtain ⟨h', t', rfl, k'⟩ := y; exact ⟨h', t', rfl, k.trans k'⟩
theorem Ks.kp {a b : Shared} (x : Ks a b) : Kp a.heap b.heap := by obtain ⟨h, t, rfl, k⟩ := x; exact k
theorem Ks.mk {s : Shared} {h' : Heap} {tk : Nat} (k : Kp s.heap h') : Ks s { s with heap := h', toks := tk } := ⟨h', tk, rfl, k⟩
theorem Ks.tok {s : Shared} {tk : Nat} : Ks s { s with toks := tk } := ⟨s.heap, tk, rfl, Kp.refl _⟩
noncomputable abbrev Fz := Addr → Prop
noncomputable def Fz.ext (F : Fz) (h : Heap) : Fz := fun a => F a ∨ h.get? a = none
theorem Fz.ext_kp {F : Fz} {h h' : Heap} (k : Kp h h') {a : Addr} (n : a ≠ tab0) (x : F.ext h' a) : F.ext h a := by
  rcases x with x | x
  · exact .inl x
  · cases e : h.get? a with
    | none => exact .inr e
    | some o => obtain ⟨o', q⟩ := k.live n e; rw [q] at x; injection x
theorem Fz.ext_ext {F : Fz} {h h' : Heap} (k : Kp h h') {a : Addr} (n : a ≠ tab0) (x : (F.ext h).ext h' a) : F.ext h a := by
  rcases x with x | x
  · exact x
  · exact Fz.ext_kp k n (.inr x)

theorem fa {α : Type} {P : α → Prop} {a : α} {l : List α} (h : P a) (t : ∀ x ∈ l, P x) : ∀ x ∈ a :: l, P x := List.forall_mem_cons.mpr ⟨h, t⟩
theorem fan {α : Type} {P : α → Prop} : ∀ x ∈ ([] : List α), P x := fun _ z => nomatch z
theorem ne4 {b z1 z2 z3 z4 : Addr} (h : b ∉ [z1, z2, z3, z4]) : b ≠ z1 ∧ b ≠ z2 ∧ b ≠ z3 ∧ b ≠ z4 := ⟨fun w => h (w ▸ .head _), fun w => h (w ▸ .tail _ (.head _)), fun w => h (w ▸ .tail _ (.tail _ (.head _))), fun w => h (w ▸ .tail _ (.tail _ (.tail _ (.head _))))⟩
mutual
inductive Rep (F : Fz) (h : Heap) : Value → PyData → Prop
  | none : Rep F h .none .none
  | bool (b) : Rep F h (.bool b) (.bool b)
  | int (i t) : Rep F h (.int i t) (.int i)
  | str (x t) : Rep F h (.str x t) (.str x)
  | list {a o vs n xs} : F a → a ≠ tab0 → h.get? a = some o → o.cls = .type "list" → o.data = .seq vs n → RepAll F h vs.toList xs → Rep F h (.ref a) (.list xs)
  | tuple {a o vs n xs} : F a → a ≠ tab0 → h.get? a = some o → o.cls = .type "tuple" → o.data = .seq vs n → RepAll F h vs.toList xs → Rep F h (.ref a) (.tuple xs)
inductive RepAll (F : Fz) (h : Heap) : List Value → List PyData → Prop
  | nil : RepAll F h [] []
  | cons {v vs d ds} : Rep F h v d → RepAll F h vs ds → RepAll F h (v :: vs) (d :: ds)
end

theorem Rep.mono {F F' : Fz} {h h' : Heap} (hF : ∀ a, a ≠ tab0 → F a → F' a) (hk : ∀ a o, F a → a ≠ tab0 → NFr o → h.get? a = some o → h'.get? a = some o) {v : Value} {d : PyData} (x : Rep F h v d) : Rep F' h' v d := by
  refine Rep.rec (motive_1 := fun v d _ => Rep F' h' v d) (motive_2 := fun vs ds _ => RepAll F' h' vs ds) .none .bool .int .str ?_ ?_ .nil ?_ x
  · intro a o vs n xs f n' e c d r ih; exact .list (hF _ n' f) n' (hk _ _ f n' (fun z => absurd (c.symm.trans z) (by decide)) e) c d ih
  · intro a o vs n xs f n' e c d r ih; exact .tuple (hF _ n' f) n' (hk _ _ f n' (fun z => absurd (c.symm.trans z) (by decide)) e) c d ih
  · intro v vs d ds _ _ p q; exact .cons p q
theorem RepAll.ind {F : Fz} {h : Heap} {P : List Value → List PyData → Prop} (n : P [] []) (c : ∀ {v d vs ds}, Rep F h v d → RepAll F h vs ds → P vs ds → P (v :: vs) (d :: ds)) {vs : List Value} {ds : List PyData} (x : RepAll F h vs ds) : P vs ds := by
  refine RepAll.rec (motive_1 := fun _ _ _ => True) (motive_2 := fun vs ds _ => P vs ds) trivial (fun _ => trivial) (fun _ _ => trivial) (fun _ _ => trivial) ?_ ?_ n ?_ x
  · intros; trivial
  · intros; trivial
  · intro v vs d ds a b _ ih; exact c a b ih
theorem RepAll.mono {F F' : Fz} {h h' : Heap} (hF : ∀ a, a ≠ tab0 → F a → F' a) (hk : ∀ a o, F a → a ≠ tab0 → NFr o → h.get? a = some o → h'.get? a = some o) {vs : List Value} {ds : List PyData} (x : RepAll F h vs ds) : RepAll F' h' vs ds := RepAll.ind (P := RepAll F' h') .nil (fun a _ r => .cons (a.mono hF hk) r) x
theorem Rep.kp {F : Fz} {h h' : Heap} (k : Kp h h') {v : Value} {d : PyData} (x : Rep F h v d) : Rep F h' v d := x.mono (fun _ _ f => f) fun a o _ n e => k.keep a o n e
theorem RepAll.kp {F : Fz} {h h' : Heap} (k : Kp h h') {v : List Value} {d : List PyData} (x : RepAll F h v d) : RepAll F h' v d := x.mono (fun _ _ f => f) fun a o _ n e => k.keep a o n e

theorem Rep.reads {F : Fz} {h : Heap} {v : Value} {d : PyData} (x : Rep F h v d) : ∃ as, Reads h v d as := by
  refine Rep.rec (motive_1 := fun v d _ => ∃ as, Reads h v d as) (motive_2 := fun vs ds _ => ∃ as, ReadsAll h vs ds as) ⟨_, .none⟩ (fun b => ⟨_, .bool b⟩) (fun i t => ⟨_, .int i t⟩) (fun x t => ⟨_, .str x t⟩) ?_ ?_ ⟨_, .nil⟩ ?_ x
  · intro a o vs n xs f n' e c d r ih; obtain ⟨_, q⟩ := ih; exact ⟨_, .list e c d q⟩
  · intro a o vs n xs f n' e c d r ih; obtain ⟨_, q⟩ := ih; exact ⟨_, .tuple e c d q⟩
  · intro v vs d ds _ _ p q; obtain ⟨_, p⟩ := p; obtain ⟨_, q⟩ := q; exact ⟨_, .cons p q⟩
theorem RepAll.reads {F : Fz} {h : Heap} {vs : List Value} {ds : List PyData} (x : RepAll F h vs ds) : ∃ as, ReadsAll h vs ds as := by
  refine RepAll.ind (P := fun vs ds => ∃ as, ReadsAll h vs ds as) ⟨_, .nil⟩ (fun a _ q => ?_) x
  obtain ⟨_, p⟩ := a.reads; obtain ⟨_, q⟩ := q; exact ⟨_, .cons p q⟩
theorem RepAll.length {F : Fz} {h : Heap} {vs : List Value} {ds : List PyData} (x : RepAll F h vs ds) : vs.length = ds.length := RepAll.ind (P := fun vs ds => vs.length = ds.length) rfl (fun _ _ r => congrArg (· + 1) r) x
theorem RepAll.get {F : Fz} {h : Heap} {vs : List Value} {ds : List PyData} {i : Nat} {d : PyData} (x : RepAll F h vs ds) (e : ds[i]? = some d) : ∃ v, vs[i]? = some v ∧ Rep F h v d := by
  refine RepAll.ind (P := fun vs ds => ∀ i : Nat, ds[i]? = some d → ∃ v, vs[i]? = some v ∧ Rep F h v d) (fun i e => by injection e) (fun a _ ih i e => ?_) x i e
  cases i with
  | zero => obtain rfl := Option.some.inj e; exact ⟨_, rfl, a⟩
  | succ i => exact ih i e
theorem RepAll.append {F : Fz} {h : Heap} {vs vs' : List Value} {ds ds' : List PyData} (x : RepAll F h vs ds) (y : RepAll F h vs' ds') : RepAll F h (vs ++ vs') (ds ++ ds') := RepAll.ind (P := fun vs ds => RepAll F h (vs ++ vs') (ds ++ ds')) y (fun a _ r => .cons a r) x
theorem RepAll.take {F : Fz} {h : Heap} (n : Nat) {vs : List Value} {ds : List PyData} (x : RepAll F h vs ds) : RepAll F h (vs.take n) (ds.take n) := by
  refine RepAll.ind (P := fun vs ds => ∀ n, RepAll F h (vs.take n) (ds.take n)) (fun n => ?_) (fun a _ ih n => ?_) x n
  · rw [List.take_nil, List.take_nil]; exact .nil
  · cases n with
    | zero => exact .nil
    | succ n => exact .cons a (ih n)
inductive Ent where
  | d (x : PyData)
  | v (x : Value)
noncomputable def Holds (F : Fz) (h : Heap) : Ent → Value → Prop
  | .d x, v => Rep F h v x
  | .v u, v => v = u
theorem Holds.mono {F F' : Fz} {h h' : Heap} (hF : ∀ a, a ≠ tab0 → F a → F' a) (hk : ∀ a o, F a → a ≠ tab0 → NFr o → h.get? a = some o → h'.get? a = some o) {e : Ent} {v : Value} (x : Holds F h e v) : Holds F' h' e v := by
  cases e with
  | d y => exact Rep.mono hF hk x
  | v u => exact x
theorem Holds.kp {F : Fz} {h h' : Heap} (k : Kp h h') {e : Ent} {v : Value} (x : Holds F h e v) : Holds F h' e v := x.mono (fun _ _ f => f) fun a o _ n e => k.keep a o n e

noncomputable abbrev Loc := List (Str × Ent)

noncomputable def VarAt (env : Env) (h : Heap) (F : Fz) (m : Str → Option Value) (x : Str) (e : Ent) : Prop :=
  ∃ v, Holds F h e v ∧ ((env.kindOf x = some .local ∧ m x = some v) ∨ ((env.kindOf x = some .cell ∨ env.kindOf x = some .free) ∧ ∃ c, env.cells.lookup x = some c ∧ h.IsCell c (some v)))

structure EnvG (env : Env) : Prop where
  kind : env.scope.kind = .function
  glob : env.globals = mainGlobals
  bi : env.builtins = builtinsNs

structure Lay (env : Env) (σ : Loc) (F : Fz) (h : Heap) : Prop where
  ns : ∃ m, h.Ns env.locals m ∧ ∀ x e, σ.lookup x = some e → VarAt env h F m x e
  nL : ¬ F env.locals
  nT : env.locals ≠ tab0
  cell : ∀ x c, env.cells.lookup x = some c → (∃ v, h.IsCell c v) ∧ ¬ F c ∧ c ≠ tab0
  apart : ∀ x y c, env.cells.lookup x = some c → env.cells.lookup y = some c → x = y

theorem IsCell.kp {h h' : Heap} {c : Addr} {v : Option Value} (k : Kp h h') (n : c ≠ tab0) (x : h.IsCell c v) : h'.IsCell c v := by obtain ⟨o, a, b⟩ := x; obtain ⟨sl, q⟩ := k.both n a; exact ⟨_, q, b⟩
theorem Ns.kp {h h' : Heap} {a : Addr} {m} (k : Kp h h') (n : a ≠ tab0) (x : h.Ns a m) : h'.Ns a m := by obtain ⟨o, es, ep, ho, r⟩ := x; obtain ⟨sl, q⟩ := k.both n ho; exact ⟨_, es, ep, q, r⟩
theorem Lay.kp {env : Env} {σ : Loc} {F : Fz} {h h' : Heap} (k : Kp h h') (x : Lay env σ F h) : Lay env σ F h' := by
  obtain ⟨⟨m, hn, hv⟩, nL, nT, hc, ha⟩ := x
  refine ⟨⟨m, Ns.kp k nT hn, fun x e he => ?_⟩, nL, nT, fun x c e => ⟨(hc x c e).1.imp fun v y => IsCell.kp k (hc x c e).2.2 y, (hc x c e).2⟩, ha⟩
  obtain ⟨v, hh, q⟩ := hv x e he
  refine ⟨v, hh.kp k, ?_⟩
  rcases q with q | ⟨q, c, e1, e2⟩
  · exact .inl q
  · exact .inr ⟨q, c, e1, IsCell.kp k (hc x c e1).2.2 e2⟩

end Mine
end
section
open PySem PySem.Calls PySem.W
namespace Mine
variable [iO : Old]

noncomputable def Room (k : Nat) (A : Around) : Prop := A.handled = none ∧ A.depth + 2 * k ≤ 999 ∧ A.units + 40 * k ≤ 9800
theorem Room.depth {k : Nat} {A : Around} (r : Room k A) : A.depth < recursionLimit := by have := r.2.1; show A.depth < 1000; lia
theorem Room.units {k : Nat} {A : Around} (r : Room k A) : A.units < cLine := by have := r.2.2; show A.units < 9900; lia
theorem Room.mono {k j : Nat} {A : Around} (r : Room k A) (h : j ≤ k) : Room j A := ⟨r.1, by have := r.2.1; lia, by have := r.2.2; lia⟩
theorem Room.deeper {k : Nat} {A : Around} (r : Room (k + 1) A) (env : Env) : Room k (A.deeper env) := by
  refine ⟨r.1, ?_, ?_⟩
  · show A.depth + 1 + 2 * k ≤ 999; have := r.2.1; lia
  · show A.units + 3 + 40 * k ≤ 9800; have := r.2.2; lia

noncomputable def FrameAt (h : Heap) (L : Addr) : Prop := ∃ o es ep, h.get? L = some o ∧ o.cls = .type "frame" ∧ o.data = .dict es ep
theorem FrameAt.kp {h h' : Heap} (k : Kp h h') {L : Addr} (n : L ≠ tab0) (x : FrameAt h L) : FrameAt h' L := by obtain ⟨o, es, ep, e, c, d⟩ := x; obtain ⟨_, q, _⟩ := k.fr L o n c e; exact ⟨_, es, ep, q, c, d⟩
noncomputable def FrOk (fr : Option (List Env)) (h : Heap) : Prop := ∃ l, fr = some l ∧ ∀ e ∈ l, e.scope.kind ≠ .module ∧ ∃ L, e.frame = some L ∧ L ≠ tab0 ∧ ¬ Old.at_ L ∧ FrameAt h L
theorem FrOk.imp {fr : Option (List Env)} {h h' : Heap} (k : ∀ L, L ≠ tab0 → FrameAt h L → FrameAt h' L) (x : FrOk fr h) : FrOk fr h' := by
  obtain ⟨l, e, hl⟩ := x
  refine ⟨l, e, fun v m => ?_⟩
  obtain ⟨a, L, b1, b2, b4, b3⟩ := hl v m
  exact ⟨a, L, b1, b2, b4, k L b2 b3⟩
theorem FrOk.kp {fr : Option (List Env)} {h h' : Heap} (k : Kp h h') (x : FrOk fr h) : FrOk fr h' := x.imp fun _ n f => f.kp k n
theorem FrOk.deeper {A : Around} {env : Env} {h : Heap} {L : Addr} (x : FrOk A.frames h) (hk : env.scope.kind ≠ .module) (hL : env.frame = some L) (n : L ≠ tab0) (no : ¬ Old.at_ L) (f : FrameAt h L) : FrOk (A.deeper env).frames h := by
  obtain ⟨l, q, hl⟩ := x
  refine ⟨env :: l, by show A.frames.map _ = _; rw [q]; rfl, fun v m => ?_⟩
  rcases List.mem_cons.mp m with rfl | m
  · exact ⟨hk, L, hL, n, no, f⟩
  · exact hl v m

structure GdH (K : Frag) (h : Heap) : Prop where
  inK : K.In h
  no : K.lookup tab0 = none
  gl : ∃ mg, h.Ns mainGlobals mg
  bi : ∃ mb, h.Ns builtinsNs mb ∧ ∀ x : Str, x ≠ "__name__" → mb x = bootBuiltins x
  lim : h.NoLimit
  tab : Tab h
  nf : ∀ b o, K.lookup b = some o → NFr o
  bm : ∃ mg b o, h.Ns mainGlobals mg ∧ mg "__builtins__" = some (.ref b) ∧ b ≠ builtinsNs ∧ b ≠ tab0 ∧ h.get? b = some o ∧ o.cls = .type "module" ∧ o.dict = some builtinsNs ∧ o.data = .plain
  old : ∀ b, Old.at_ b → ∃ o, h.get? b = some o
theorem GdH.nold {K : Frag} {h : Heap} (g : GdH K h) {L : Addr} (e : h.get? L = none) : ¬ Old.at_ L := fun z => (by obtain ⟨o, q⟩ := g.old L z; rw [e] at q; injection q)
theorem GdH.kp {K : Frag} {h h' : Heap} (k : Kp h h') (g : GdH K h) : GdH K h' := by
  obtain ⟨a, b, ⟨mg, c⟩, ⟨mb, d, e⟩, ⟨mc, f1, f2⟩, t, nf, ⟨mg', bb, ob, x1, x2, x3, x4, x5, x6⟩, od⟩ := g
  exact ⟨fun i o q => k.keep i o (fun z => by rw [z, b] at q; injection q) (nf i o q) (a i o q), b, ⟨mg, Ns.kp k (by decide) c⟩, ⟨mb, Ns.kp k (by decide) d, e⟩, ⟨mc, Ns.kp k (by decide) f1, f2⟩, k.tab t, nf, ⟨mg', bb, ob, Ns.kp k (by decide) x1, x2, x3, x4, k.keep _ _ x4 (by rw [NFr, x6.1]; decide) x5, x6⟩, fun i z => by
    by_cases q : i = tab0
    · rw [q]; exact (k.tab t).ex
    · obtain ⟨o, e⟩ := od i z; exact k.live q e⟩

structure Gd (K : Frag) (fr : Option (List Env)) (s : Shared) : Prop extends GdH K s.heap where
  tok : 0 < s.toks
  fr : FrOk fr s.heap
theorem Gd.ks {K : Frag} {fr : Option (List Env)} {s s' : Shared} (g : Gd K fr s) (k : Ks s s') (t : s.toks ≤ s'.toks) : Gd K fr s' := ⟨g.toGdH.kp k.kp, Nat.lt_of_lt_of_le g.tok t, g.fr.kp k.kp⟩

noncomputable def Tri (prog : Program) (w : World) (A : Around) (F : Fz) (t : Sem Value) (e : Ent) (s : Shared) : Prop :=
  wpAny (model prog w) A t (fun v s' => Ks s s' ∧ Holds (F.ext s.heap) s'.heap e v) (fun _ _ => False) s
noncomputable def TriB (prog : Program) (w : World) (A : Around) (t : Sem Bool) (b : Bool) (s : Shared) : Prop :=
  wpAny (model prog w) A t (fun v s' => Ks s s' ∧ v = b) (fun _ _ => False) s
section
variable {prog : Program} {w : World} {A : Around} {F : Fz} {s : Shared} {e : Ent} {E : Value → Shared → Prop} {K : Frag}
theorem Tri.use {t : Sem Value} {Q : Value → Shared → Prop} (h : Tri prog w A F t e s) (k : ∀ v s', Ks s s' → s.toks ≤ s'.toks → Holds (F.ext s.heap) s'.heap e v → Q v s') : wpAny (model prog w) A t Q E s :=
  wpAny_mono (wpAny_toks_of (n := s.toks) (Nat.le_refl _) h) (fun v s' x => k v s' x.2.1 x.1 x.2.2) fun _ _ x => x.2.elim
theorem TriB.use {t : Sem Bool} {b : Bool} {Q : Bool → Shared → Prop} (h : TriB prog w A t b s) (k : ∀ s', Ks s s' → s.toks ≤ s'.toks → Q b s') : wpAny (model prog w) A t Q E s :=
  wpAny_mono (wpAny_toks_of (n := s.toks) (Nat.le_refl _) h) (fun v s' x => by obtain ⟨t, x, rfl⟩ := x; exact k s' x t) fun _ _ x => x.2.elim
theorem Tri.of {t : Sem Value} {s₁ : Shared} (k : Ks s s₁) (h : Tri prog w A F t e s₁) : wpAny (model prog w) A t (fun v s' => Ks s s' ∧ Holds (F.ext s.heap) s'.heap e v) (fun _ _ => False) s₁ :=
  wpAny_mono h (fun v s' x => ⟨k.trans x.1, x.2.mono (fun a n f => Fz.ext_kp k.kp n f) fun _ _ _ _ _ e => e⟩) fun _ _ x => x
theorem Tri.of2 {t : Sem Value} {s₁ : Shared} (k : Ks s s₁) (h : Tri prog w A (F.ext s.heap) t e s₁) : wpAny (model prog w) A t (fun v s' => Ks s s' ∧ Holds (F.ext s.heap) s'.heap e v) (fun _ _ => False) s₁ :=
  wpAny_mono h (fun v s' x => ⟨k.trans x.1, x.2.mono (fun a n f => Fz.ext_ext k.kp n f) fun _ _ _ _ _ e => e⟩) fun _ _ x => x
theorem TriB.of {t : Sem Bool} {b : Bool} {s₁ : Shared} (k : Ks s s₁) (h : TriB prog w A t b s₁) : wpAny (model prog w) A t (fun v s' => Ks s s' ∧ v = b) (fun _ _ => False) s₁ :=
  wpAny_mono h (fun v s' x => ⟨k.trans x.1, x.2⟩) fun _ _ x => x

theorem Lay.ext {env : Env} {σ : Loc} {h h' : Heap} (k : Kp h h') (x : Lay env σ F h) : Lay env σ (F.ext h) h' := by
  obtain ⟨m, ⟨o, es, ep, ho, r⟩, hv⟩ := x.ns
  have y := x.kp k
  obtain ⟨m', hn', hv'⟩ := y.ns
  refine ⟨⟨m', hn', fun x e he => ?_⟩, ?_, y.nT, fun x' c e => ?_, y.apart⟩
  · obtain ⟨v, hh, q⟩ := hv' x e he
    exact ⟨v, hh.mono (fun _ _ f => .inl f) (fun _ _ _ _ _ e => e), q⟩
  · rintro (z | z)
    · exact x.nL z
    · rw [ho] at z; injection z
  · obtain ⟨a, b, c'⟩ := y.cell x' c e
    refine ⟨a, ?_, c'⟩
    rintro (z | z)
    · exact b z
    · obtain ⟨⟨v, o', ho', _⟩, _⟩ := x.cell x' c e
      rw [ho'] at z; injection z
end

structure Cx where
  prog : Program
  w : World
  K : Frag

structure Ev (c : Cx) (k : Nat) (env : Env) (σ : Loc) (x : PySem.Expr) (e : Ent) : Prop where
  run : ∀ A F s, Room k A → EnvG env → Gd c.K A.frames s → Lay env σ F s.heap → Tri c.prog c.w A F (eval x env) e s
structure EvB (c : Cx) (k : Nat) (env : Env) (σ : Loc) (x : PySem.Expr) (b : Bool) : Prop where
  run : ∀ A F s, Room k A → EnvG env → Gd c.K A.frames s → Lay env σ F s.heap → TriB c.prog c.w A (isTrue x env (eval x env)) b s
inductive EvAll (c : Cx) (k : Nat) (env : Env) (σ : Loc) : List PySem.Expr → List Ent → Prop
  | nil : EvAll c k env σ [] []
  | cons {x xs e es} : Ev c k env σ x e → EvAll c k env σ xs es → (∀ y p, x ≠ .Starred y p) → EvAll c k env σ (x :: xs) (e :: es)

section
variable {c : Cx} {k : Nat} {env : Env} {σ : Loc}

theorem Ev.cstr {x : Str} {n : Nat} {p : Pos} : Ev c k env σ (.Constant (.str x) n p) (.d (.str x)) := ⟨fun _ _ _ _ _ _ _ => Constant_str ⟨Ks.tok, .str _ _⟩⟩
theorem Ev.cint {x : Int} {n : Nat} {p : Pos} : Ev c k env σ (.Constant (.int x) n p) (.d (.int x)) := ⟨fun _ _ _ _ _ _ _ => wpAny_Constant_int ⟨Ks.tok, .int _ _⟩⟩
theorem Ev.cbool {x : Bool} {n : Nat} {p : Pos} : Ev c k env σ (.Constant (.bool x) n p) (.d (.bool x)) := ⟨fun _ _ _ _ _ _ _ => PyProof.Rows.Constant_bool ⟨Ks.refl _, .bool _⟩⟩
theorem Ev.cnone {n : Nat} {p : Pos} : Ev c k env σ (.Constant .none n p) (.d .none) := ⟨fun _ _ _ _ _ _ _ => PyProof.Rows.Constant_none ⟨Ks.refl _, .none⟩⟩

theorem Ev.name {x : Str} {p : Pos} {e : Ent} (h : σ.lookup x = some e) (hd : (x == ("__debug__" : Str)) = false := by decide) (hc : (x == ("__classdict__" : Str)) = false := by decide) : Ev c k env σ (.Name x p) e := by
  constructor; intro A F s _ G _ L
  obtain ⟨m, hn, hv⟩ := L.ns
  obtain ⟨v, hh, q⟩ := hv x e h
  have fin : Ks s s ∧ Holds (F.ext s.heap) s.heap e v := ⟨Ks.refl _, hh.mono (fun _ _ f => .inl f) (fun _ _ _ _ _ e => e)⟩
  refine wpAny_Name ?_ hd
  rcases q with ⟨q1, q2⟩ | ⟨q1 | q1, cc, q2, q3⟩
  · exact wpAny_loadName_local G.kind q1 hn q2 fin
  · exact wpAny_loadName_cell G.kind q1 q2 q3 fin
  · exact wpAny_loadName_free G.kind q1 q2 q3 fin hc

theorem Ev.glob {x : Str} {p : Pos} {v : Value} (e : nsIn c.K mainGlobals x = some (some v)) (hx : env.kindOf x = some .globalImplicit) (hd : (x == ("__debug__" : Str)) = false := by decide) : Ev c k env σ (.Name x p) (.v v) := by
  constructor; intro A F s _ G g _
  obtain ⟨mg, hg⟩ := g.gl
  exact Name_function_global G.kind hx (loadGlobal_global (env := env) (by rw [G.glob]; exact hg) (mg_of g.inK hg e) ⟨Ks.refl _, rfl⟩) hd
theorem Ev.bi {x : Str} {p : Pos} {v : Value} (e : nsIn c.K mainGlobals x = some none) (hb : bootBuiltins x = some v) (hx : env.kindOf x = some .globalImplicit) (hn : x ≠ "__name__" := by decide) (hd : (x == ("__debug__" : Str)) = false := by decide) :
    Ev c k env σ (.Name x p) (.v v) := by
  constructor; intro A F s _ G g _
  obtain ⟨mg, hg⟩ := g.gl
  obtain ⟨mb, hb1, hb2⟩ := g.bi
  exact Name_function_global G.kind hx (loadGlobal_builtin (env := env) (by rw [G.glob]; exact hg) (mg_none_of g.inK hg e) (by rw [G.bi]; exact hb1) ((hb2 x hn).trans hb) ⟨Ks.refl _, rfl⟩) hd

theorem two {A : Around} {F : Fz} {s : Shared} {x y : PySem.Expr} {e₁ e₂ e : Ent} {f : Value → Value → Sem Value} (hx : Ev c k env σ x e₁) (hy : Ev c k env σ y e₂)
    (R : Room k A) (G : EnvG env) (g : Gd c.K A.frames s) (L : Lay env σ F s.heap)
    (h : ∀ v₁ v₂ s₂, Ks s s₂ → Gd c.K A.frames s₂ → Holds (F.ext s.heap) s₂.heap e₁ v₁ → Holds (F.ext s.heap) s₂.heap e₂ v₂ → Tri c.prog c.w A (F.ext s.heap) (f v₁ v₂) e s₂) :
    wpAny (model c.prog c.w) A (eval x env) (fun a s₁ => wpAny (model c.prog c.w) A (eval y env) (fun b s₂ => wpAny (model c.prog c.w) A (f a b) (fun v s' => Ks s s' ∧ Holds (F.ext s.heap) s'.heap e v) (fun _ _ => False) s₂) (fun _ _ => False) s₁) (fun _ _ => False) s := by
  refine (hx.run A F s R G g L).use fun v₁ s₁ k₁ t₁ h₁ => ?_
  refine (hy.run A F s₁ R G (g.ks k₁ t₁) (L.kp k₁.kp)).use fun v₂ s₂ k₂ t₂ h₂ => ?_
  exact Tri.of2 (k₁.trans k₂) (h v₁ v₂ s₂ (k₁.trans k₂) ((g.ks k₁ t₁).ks k₂ t₂) (h₁.kp k₂.kp) (h₂.mono (fun a n f => Fz.ext_kp k₁.kp n f) fun _ _ _ _ _ e => e))

theorem one {A : Around} {F : Fz} {s : Shared} {x : PySem.Expr} {e₁ e : Ent} {f : Value → Sem Value} (hx : Ev c k env σ x e₁)
    (R : Room k A) (G : EnvG env) (g : Gd c.K A.frames s) (L : Lay env σ F s.heap)
    (h : ∀ v₁ s₂, Ks s s₂ → Gd c.K A.frames s₂ → Holds (F.ext s.heap) s₂.heap e₁ v₁ → Tri c.prog c.w A (F.ext s.heap) (f v₁) e s₂) :
    wpAny (model c.prog c.w) A (eval x env) (fun a s₁ => wpAny (model c.prog c.w) A (f a) (fun v s' => Ks s s' ∧ Holds (F.ext s.heap) s'.heap e v) (fun _ _ => False) s₁) (fun _ _ => False) s := by
  refine (hx.run A F s R G g L).use fun v₁ s₁ k₁ t₁ h₁ => ?_
  exact Tri.of2 k₁ (h v₁ s₁ k₁ (g.ks k₁ t₁) h₁)
end

structure Op2 (c : Cx) (k : Nat) (f : Value → Value → Sem Value) (e₁ e₂ e : Ent) : Prop where
  run : ∀ A F s v₁ v₂, Room k A → Gd c.K A.frames s → Holds F s.heap e₁ v₁ → Holds F s.heap e₂ v₂ → Tri c.prog c.w A F (f v₁ v₂) e s
structure Op1 (c : Cx) (k : Nat) (f : Value → Sem Value) (e₁ e : Ent) : Prop where
  run : ∀ A F s v₁, Room k A → Gd c.K A.frames s → Holds F s.heap e₁ v₁ → Tri c.prog c.w A F (f v₁) e s

section
variable {c : Cx} {k : Nat} {env : Env} {σ : Loc}
theorem Ev.bin {l r : PySem.Expr} {op : Operator} {p : Pos} {e₁ e₂ e : Ent} (hl : Ev c k env σ l e₁) (hr : Ev c k env σ r e₂) (ho : Op2 c k (binaryOp op) e₁ e₂ e) : Ev c k env σ (.BinOp l op r p) e :=
  ⟨fun A F s R G g L => wpAny_BinOp (two hl hr R G g L fun v₁ v₂ s₂ _ g₂ h₁ h₂ => ho.run A _ s₂ v₁ v₂ R g₂ h₁ h₂)⟩
theorem Ev.cmp {l r : PySem.Expr} {op : CmpOp} {p : Pos} {e₁ e₂ e : Ent} (hl : Ev c k env σ l e₁) (hr : Ev c k env σ r e₂) (ho : Op2 c k (compareOp op) e₁ e₂ e) (hm : behindInMarks op r = false := by with_unfolding_all rfl) : Ev c k env σ (.Compare l [op] [r] p) e :=
  ⟨fun A F s R G g L => wpAny_Compare1 (two hl hr R G g L fun v₁ v₂ s₂ _ g₂ h₁ h₂ => ho.run A _ s₂ v₁ v₂ R g₂ h₁ h₂) hm⟩
theorem Ev.un {x : PySem.Expr} {op : UnaryOp} {p : Pos} {e₁ e : Ent} (hx : Ev c k env σ x e₁) (ho : Op1 c k (unaryOp op) e₁ e) : Ev c k env σ (.UnaryOp op x p) e :=
  ⟨fun A F s R G g L => PyProof.Rows.UnaryOp_ (one hx R G g L fun v₁ s₂ _ g₂ h₁ => ho.run A _ s₂ v₁ R g₂ h₁)⟩
theorem Ev.ifExp {t b o : PySem.Expr} {p : Pos} {v : Bool} {e : Ent} (ht : EvB c k env σ t v) (hb : v = true → Ev c k env σ b e) (ho : v = false → Ev c k env σ o e) : Ev c k env σ (.IfExp t b o p) e := by
  constructor; intro A F s R G g L
  refine PyProof.Rows.IfExp_ ((ht.run A F s R G g L).use fun s' k' t' => ?_)
  cases v with
  | true => exact Tri.of k' ((hb rfl).run A F s' R G (g.ks k' t') (L.kp k'.kp))
  | false => exact Tri.of k' ((ho rfl).run A F s' R G (g.ks k' t') (L.kp k'.kp))

structure Tru (c : Cx) (e : Ent) (b : Bool) : Prop where
  run : ∀ A F s v, Gd c.K A.frames s → Holds F s.heap e v → TriB c.prog c.w A (truthy v) b s
theorem EvB.plain {x : PySem.Expr} {e : Ent} {b : Bool} (hx : Ev c k env σ x e) (ht : Tru c e b) (hw : isTrue x env (eval x env) = (do let v ← eval x env; standAt x.pos; holding [v] (truthy v)) := by rfl) : EvB c k env σ x b := by
  constructor; intro A F s R G g L
  refine PyProof.Rows.isTrue_plain ((hx.run A F s R G g L).use fun v s' k' t' h' => ?_) hw
  exact TriB.of k' (ht.run A _ s' v (g.ks k' t') h')
theorem EvB.cmp {l r : PySem.Expr} {op : CmpOp} {p : Pos} {e₁ e₂ : Ent} {b : Bool} (hl : Ev c k env σ l e₁) (hr : Ev c k env σ r e₂) (ho : Op2 c k (compareOp op) e₁ e₂ (.d (.bool b))) (hm : behindInMarks op r = false := by with_unfolding_all rfl) : EvB c k env σ (.Compare l [op] [r] p) b := by
  constructor; intro A F s R G g L
  refine wpAny_isTrue_Compare1 ((hl.run A F s R G g L).use fun v₁ s₁ k₁ t₁ h₁ => (hr.run A F s₁ R G (g.ks k₁ t₁) (L.kp k₁.kp)).use fun v₂ s₂ k₂ t₂ h₂ => ?_) hm
  refine (ho.run A (F.ext s.heap) s₂ v₁ v₂ R ((g.ks k₁ t₁).ks k₂ t₂) (h₁.kp k₂.kp) (h₂.mono (fun a n f => Fz.ext_kp k₁.kp n f) fun _ _ _ _ _ e => e)).use fun v s₃ k₃ t₃ h₃ => ?_
  cases h₃
  exact wpAny_truthy_bool ⟨(k₁.trans k₂).trans k₃, rfl⟩
theorem EvB.not {x : PySem.Expr} {p : Pos} {b : Bool} (hx : EvB c k env σ x b) : EvB c k env σ (.UnaryOp .Not x p) (!b) :=
  ⟨fun A F s R G g L => PyProof.Rows.isTrue_not ((hx.run A F s R G g L).use fun _ k' _ => ⟨k', rfl⟩)⟩
theorem EvB.and_nil {p : Pos} : EvB c k env σ (.BoolOp .And [] p) true := ⟨fun _ _ _ _ _ _ _ => PyProof.Rows.isTrue_and_nil ⟨Ks.refl _, rfl⟩⟩
theorem EvB.or_nil {p : Pos} : EvB c k env σ (.BoolOp .Or [] p) false := ⟨fun _ _ _ _ _ _ _ => PyProof.Rows.isTrue_or_nil ⟨Ks.refl _, rfl⟩⟩
theorem EvB.and {x : PySem.Expr} {r : List PySem.Expr} {p : Pos} {a b : Bool} (hx : EvB c k env σ x a) (hr : a = true → EvB c k env σ (.BoolOp .And r p) b) : EvB c k env σ (.BoolOp .And (x :: r) p) (a && b) := by
  constructor; intro A F s R G g L
  refine PyProof.Rows.isTrue_and ((hx.run A F s R G g L).use fun s' k' t' => ?_)
  cases a with
  | true => exact TriB.of k' ((hr rfl).run A F s' R G (g.ks k' t') (L.kp k'.kp))
  | false => exact ⟨k', rfl⟩
theorem EvB.or {x : PySem.Expr} {r : List PySem.Expr} {p : Pos} {a b : Bool} (hx : EvB c k env σ x a) (hr : a = false → EvB c k env σ (.BoolOp .Or r p) b) : EvB c k env σ (.BoolOp .Or (x :: r) p) (a || b) := by
  constructor; intro A F s R G g L
  refine PyProof.Rows.isTrue_or ((hx.run A F s R G g L).use fun s' k' t' => ?_)
  cases a with
  | false => exact TriB.of k' ((hr rfl).run A F s' R G (g.ks k' t') (L.kp k'.kp))
  | true => exact ⟨k', rfl⟩
end
end Mine
end
section
open PySem PySem.Calls PySem.W
namespace Mine
variable [iO : Old]
section
variable {F : Fz} {h : Heap} {v : Value}
theorem Holds.isInt {a : Int} (x : Holds F h (.d (.int a)) v) : ∃ t, v = .int a t := by cases x; exact ⟨_, rfl⟩
theorem Holds.isStr {a : Str} (x : Holds F h (.d (.str a)) v) : ∃ t, v = .str a t := by cases x; exact ⟨_, rfl⟩
theorem Holds.isBool {a : Bool} (x : Holds F h (.d (.bool a)) v) : v = .bool a := by cases x; rfl
theorem Holds.isList {xs : List PyData} (x : Holds F h (.d (.list xs)) v) : ∃ a vs, v = .ref a ∧ F a ∧ a ≠ tab0 ∧ h.IsList a (vs : List Value).toArray ∧ RepAll F h vs xs := by
  cases x with
  | list f n e cl d r => exact ⟨_, _, rfl, f, n, ⟨_, e, cl, _, by simpa using d⟩, r⟩
theorem Holds.isTuple {xs : List PyData} (x : Holds F h (.d (.tuple xs)) v) : ∃ a vs, v = .ref a ∧ F a ∧ a ≠ tab0 ∧ PyProof.Rows.IsTup h a (vs : List Value).toArray ∧ RepAll F h vs xs := by
  cases x with
  | tuple f n e cl d r => exact ⟨_, _, rfl, f, n, ⟨_, e, cl, _, by simpa using d⟩, r⟩
theorem Rep.mkList {a : Addr} {vs : List Value} {xs : List PyData} (f : F a) (n : a ≠ tab0) (l : h.IsList a vs.toArray) (r : RepAll F h vs xs) : Rep F h (.ref a) (.list xs) := by
  obtain ⟨o, e, cl, m, d⟩ := l
  exact .list f n e cl d (by simpa using r)
theorem Rep.mkTuple {a : Addr} {vs : List Value} {xs : List PyData} (f : F a) (n : a ≠ tab0) (l : PyProof.Rows.IsTup h a vs.toArray) (r : RepAll F h vs xs) : Rep F h (.ref a) (.tuple xs) := by
  obtain ⟨o, e, cl, m, d⟩ := l
  exact .tuple f n e cl d (by simpa using r)
end
theorem fresh_ne {h : Heap} (t : Tab h) {a : Addr} (e : h.get? a = none) : a ≠ tab0 := by
  rintro rfl
  obtain ⟨o, z⟩ := t.ex
  rw [z] at e; injection e
theorem size_none (h : Heap) : h.get? h.objs.size = none := by
  cases e : h.get? h.objs.size with
  | none => rfl
  | some o => exact absurd (Heap.lt_size e) (Nat.lt_irrefl _)
theorem Kp.push (h : Heap) (o : Obj) : Kp h (h.push o) := Kp.of fun _ _ e => Heap.get?_push_of_some _ e

section
variable {c : Cx} {k : Nat}
theorem Op2.addInt {a b : Int} : Op2 c k (binaryOp .Add) (.d (.int a)) (.d (.int b)) (.d (.int (a + b))) := by
  constructor; intro A F s v₁ v₂ R g h₁ h₂; obtain ⟨_, rfl⟩ := h₁.isInt; obtain ⟨_, rfl⟩ := h₂.isInt
  exact PyProof.Rows.add_int ⟨Ks.tok, .int _ _⟩
theorem Op2.subInt {a b : Int} : Op2 c k (binaryOp .Sub) (.d (.int a)) (.d (.int b)) (.d (.int (a - b))) := by
  constructor; intro A F s v₁ v₂ R g h₁ h₂; obtain ⟨_, rfl⟩ := h₁.isInt; obtain ⟨_, rfl⟩ := h₂.isInt
  exact PyProof.Rows.sub_int ⟨Ks.tok, .int _ _⟩
theorem Op2.modInt {a b : Int} (hb : b ≠ 0) : Op2 c k (binaryOp .Mod) (.d (.int a)) (.d (.int b)) (.d (.int (a.fmod b))) := by
  constructor; intro A F s v₁ v₂ R g h₁ h₂; obtain ⟨_, rfl⟩ := h₁.isInt; obtain ⟨_, rfl⟩ := h₂.isInt
  exact PyProof.Rows.mod_int' hb ⟨Ks.tok, .int _ _⟩
theorem Op2.divInt {a b : Int} (hb : b ≠ 0) (hs : b.natAbs < 1073741824) : Op2 c k (binaryOp .FloorDiv) (.d (.int a)) (.d (.int b)) (.d (.int (a.fdiv b))) := by
  constructor; intro A F s v₁ v₂ R g h₁ h₂; obtain ⟨_, rfl⟩ := h₁.isInt; obtain ⟨_, rfl⟩ := h₂.isInt
  exact PyProof.Rows.floordiv_int hb ⟨Ks.tok, .int _ _⟩ (.inl (PyProof.noPylong_small hs))
theorem Op2.powInt {a b : Int} (hn : 0 ≤ b) (hn2 : b ≤ 1000000) (ha : a.natAbs < 2 ^ 64) : Op2 c k (binaryOp .Pow) (.d (.int a)) (.d (.int b)) (.d (.int (a ^ b.toNat))) := by
  constructor; intro A F s v₁ v₂ R g h₁ h₂; obtain ⟨_, rfl⟩ := h₁.isInt; obtain ⟨_, rfl⟩ := h₂.isInt
  exact PyProof.Rows.pow_int_small hn hn2 ha ⟨Ks.tok, .int _ _⟩
theorem Op2.addStr {a b : Str} (hs : a.length + b.length ≤ sizeLine) : Op2 c k (binaryOp .Add) (.d (.str a)) (.d (.str b)) (.d (.str (a ++ b))) := by
  constructor; intro A F s v₁ v₂ R g h₁ h₂; obtain ⟨_, rfl⟩ := h₁.isStr; obtain ⟨_, rfl⟩ := h₂.isStr
  exact PyProof.Rows.add_str (fun _ _ => ⟨Ks.tok, .str _ _⟩) hs
theorem Op2.mulStr {a : Str} {n : Int} (hs : MulOk a n) : Op2 c k (binaryOp .Mult) (.d (.str a)) (.d (.int n)) (.d (.str (Txt.mul a n))) := by
  constructor; intro A F s v₁ v₂ R g h₁ h₂; obtain ⟨_, rfl⟩ := h₁.isStr; obtain ⟨_, rfl⟩ := h₂.isInt
  exact SB.mul hs (fun _ _ => ⟨Ks.tok, .str _ _⟩)
theorem Op2.ltInt {a b : Int} : Op2 c k (compareOp .Lt) (.d (.int a)) (.d (.int b)) (.d (.bool (decide (a < b)))) := by
  constructor; intro A F s v₁ v₂ R g h₁ h₂; obtain ⟨_, rfl⟩ := h₁.isInt; obtain ⟨_, rfl⟩ := h₂.isInt
  exact PyProof.Rows.lt_int ⟨Ks.refl _, .bool _⟩
theorem Op2.gtInt {a b : Int} : Op2 c k (compareOp .Gt) (.d (.int a)) (.d (.int b)) (.d (.bool (decide (b < a)))) := by
  constructor; intro A F s v₁ v₂ R g h₁ h₂; obtain ⟨_, rfl⟩ := h₁.isInt; obtain ⟨_, rfl⟩ := h₂.isInt
  exact PyProof.Rows.gt_int ⟨Ks.refl _, .bool _⟩
theorem Op1.negInt {a : Int} : Op1 c k (unaryOp .USub) (.d (.int a)) (.d (.int (-a))) := by
  constructor; intro A F s v₁ R g h₁; obtain ⟨_, rfl⟩ := h₁.isInt
  exact PyProof.Rows.neg_int ⟨Ks.tok, .int _ _⟩

theorem Op2.addList {xs ys : List PyData} (hs : xs.length + ys.length ≤ sizeLine) : Op2 c k (binaryOp .Add) (.d (.list xs)) (.d (.list ys)) (.d (.list (xs ++ ys))) := by
  constructor; intro A F s v₁ v₂ R g h₁ h₂
  obtain ⟨l, vs, rfl, f1, n1, ⟨⟨cls, dd, data, sl⟩, ho, hc, n, hd⟩, r1⟩ := h₁.isList
  obtain ⟨b, ws, rfl, f2, n2, ⟨⟨cls2, dd2, data2, sl2⟩, ho2, hc2, n', hd2⟩, r2⟩ := h₂.isList
  simp only at hc hd hc2 hd2
  subst hc hd hc2 hd2
  have e : vs.toArray ++ ws.toArray = (vs ++ ws).toArray := by simp
  refine concat_meets ⟨_, ho, rfl⟩ ⟨_, ho2, rfl⟩ noFill_list_add seq_list_add PySem.F.slot_list_add PySem.F.entry_list_add (PySem.F.args_list_add_2 _ _)
    (PyProof.Rows.list_addW l b vs.toArray ws.toArray n n' dd dd2 sl sl2 (by rw [List.size_toArray, List.size_toArray, r1.length, r2.length]; exact hs)) ⟨ho, ho2, ?_⟩
  rw [e]
  have kp : Kp s.heap (s.heap.push { cls := .type "list", data := .seq (vs ++ ws).toArray }) := Kp.push _ _
  refine ⟨Ks.mk (tk := s.toks) kp, Rep.mkList (.inr (size_none _)) (fresh_ne g.tab (size_none _)) ⟨_, Heap.get?_push_size _ rfl, rfl, 0, rfl⟩ ?_⟩
  exact ((r1.append r2).kp kp).mono (fun _ _ f => .inl f) (fun _ _ _ _ _ e => e)

noncomputable def Good (d : PyData) : Prop := d.canLay0 = true ∧ d.depth ≤ 50
theorem Op2.eq {a b : PyData} (ha : Good a) (hb : Good b) : Op2 c k (compareOp .Eq) (.d a) (.d b) (.d (.bool (PyData.eqv a b))) := by
  constructor; intro A F s v₁ v₂ R g h₁ h₂
  obtain ⟨as, r1⟩ := Rep.reads (h₁ : Rep _ _ _ _)
  obtain ⟨bs, r2⟩ := Rep.reads (h₂ : Rep _ _ _ _)
  exact SeqAt.compareEq_reads r1 r2 ha.1 hb.1 (by have := R.2.2; have := ha.2; have := hb.2; show _ < 9900; lia) ⟨Ks.refl _, .bool _⟩
theorem Op2.ne {a b : PyData} (ha : Good a) (hb : Good b) : Op2 c k (compareOp .NotEq) (.d a) (.d b) (.d (.bool (!PyData.eqv a b))) := by
  constructor; intro A F s v₁ v₂ R g h₁ h₂
  obtain ⟨as, r1⟩ := Rep.reads (h₁ : Rep _ _ _ _)
  obtain ⟨bs, r2⟩ := Rep.reads (h₂ : Rep _ _ _ _)
  exact SeqAt.compareNe_reads r1 r2 ha.1 hb.1 (by have := R.2.2; have := ha.2; have := hb.2; show _ < 9900; lia) ⟨Ks.refl _, .bool _⟩
theorem Op2.isIn {a : PyData} {xs : List PyData} (ha : Good a) (hb : Good (.list xs)) : Op2 c k (compareOp .In) (.d a) (.d (.list xs)) (.d (.bool (xs.any fun y => PyData.eqv y a))) := by
  constructor; intro A F s v₁ v₂ R g h₁ h₂
  obtain ⟨as, r1⟩ := Rep.reads (h₁ : Rep _ _ _ _)
  obtain ⟨bs, r2⟩ := Rep.reads (h₂ : Rep _ _ _ _)
  exact SeqAt.in_list_reads r2 r1 hb.1 ha.1 (by have := R.2.2; have := ha.2; have h3 := hb.2; show _ < 9900; lia) ⟨Ks.refl _, .bool _⟩
theorem Op2.notIn {a : PyData} {xs : List PyData} (ha : Good a) (hb : Good (.list xs)) : Op2 c k (compareOp .NotIn) (.d a) (.d (.list xs)) (.d (.bool (!xs.any fun y => PyData.eqv y a))) := by
  constructor; intro A F s v₁ v₂ R g h₁ h₂
  obtain ⟨as, r1⟩ := Rep.reads (h₁ : Rep _ _ _ _)
  obtain ⟨bs, r2⟩ := Rep.reads (h₂ : Rep _ _ _ _)
  exact SeqAt.notIn_list_reads r2 r1 hb.1 ha.1 (by have := R.2.2; have := ha.2; have h3 := hb.2; show _ < 9900; lia) ⟨Ks.refl _, .bool _⟩

theorem Tru.bool {b : Bool} : Tru c (.d (.bool b)) b := by
  constructor; intro A F s v g h; obtain rfl := h.isBool
  exact wpAny_truthy_bool ⟨Ks.refl _, rfl⟩
theorem Tru.str {x : Str} (hs : (x.length : Int) < 2 ^ 63) : Tru c (.d (.str x)) ((x.length : Int) != 0) := by
  constructor; intro A F s v g h; obtain ⟨_, rfl⟩ := h.isStr
  exact P.truthy_str (by lia) ⟨Ks.tok, rfl⟩
theorem Tru.list {xs : List PyData} (hs : (xs.length : Int) < 2 ^ 63) : Tru c (.d (.list xs)) (!xs.isEmpty) := by
  constructor; intro A F s v g h; obtain ⟨a, vs, rfl, f, n, l, r⟩ := h.isList
  refine wpAny_truthy_list l (by rw [List.size_toArray, r.length]; exact hs) ⟨Ks.tok, ?_⟩
  cases r <;> simp
theorem Tru.tuple {xs : List PyData} (hs : (xs.length : Int) < 2 ^ 63) : Tru c (.d (.tuple xs)) (!xs.isEmpty) := by
  constructor; intro A F s v g h; obtain ⟨a, vs, rfl, f, n, l, r⟩ := h.isTuple
  refine PyProof.Rows.truthy_tuple l (by rw [List.size_toArray, r.length]; exact hs) ⟨Ks.tok, ?_⟩
  cases r <;> simp
end
end Mine
end
section
open PySem PySem.Calls PySem.W
namespace Mine
variable [iO : Old]

inductive HoldsAll (F : Fz) (h : Heap) : List Ent → List Value → Prop
  | nil : HoldsAll F h [] []
  | cons {e es v vs} : Holds F h e v → HoldsAll F h es vs → HoldsAll F h (e :: es) (v :: vs)
theorem HoldsAll.mono {F F' : Fz} {h h' : Heap} (hF : ∀ a, a ≠ tab0 → F a → F' a) (hk : ∀ a o, F a → a ≠ tab0 → NFr o → h.get? a = some o → h'.get? a = some o) {es : List Ent} {vs : List Value} (x : HoldsAll F h es vs) : HoldsAll F' h' es vs := by
  induction x with
  | nil => exact .nil
  | cons x r ih => exact .cons (x.mono hF hk) ih
theorem HoldsAll.kp {F : Fz} {h h' : Heap} (k : Kp h h') {es : List Ent} {vs : List Value} (x : HoldsAll F h es vs) : HoldsAll F h' es vs := x.mono (fun _ _ f => f) fun a o _ n e => k.keep a o n e
theorem HoldsAll.rep {F : Fz} {h : Heap} {ds : List PyData} {vs : List Value} (x : HoldsAll F h (ds.map .d) vs) : RepAll F h vs ds := by
  induction ds generalizing vs with
  | nil => cases x; exact .nil
  | cons d ds ih => cases x with
    | cons a r => exact .cons a (ih r)
theorem HoldsAll.ofRep {F : Fz} {h : Heap} {ds : List PyData} {vs : List Value} (x : RepAll F h vs ds) : HoldsAll F h (ds.map .d) vs := RepAll.ind (P := fun vs ds => HoldsAll F h (ds.map .d) vs) .nil (fun a _ r => .cons a r) x
theorem HoldsAll.one {F : Fz} {h : Heap} {e : Ent} {vs : List Value} (x : HoldsAll F h [e] vs) : ∃ v, vs = [v] ∧ Holds F h e v := by
  cases x with
  | cons a r => cases r; exact ⟨_, rfl, a⟩
theorem HoldsAll.two {F : Fz} {h : Heap} {e f : Ent} {vs : List Value} (x : HoldsAll F h [e, f] vs) : ∃ v u, vs = [v, u] ∧ Holds F h e v ∧ Holds F h f u := by
  cases x with
  | cons a r =>
    obtain ⟨u, rfl, b⟩ := r.one
    exact ⟨_, _, rfl, a, b⟩

structure FnC (c : Cx) (k : Nat) (f : Value) (es : List Ent) (e : Ent) : Prop where
  run : ∀ A F s vs, Room k A → Gd c.K A.frames s → HoldsAll F s.heap es vs → Tri c.prog c.w A F (call f vs) e s

theorem star_cons {x : PySem.Expr} {xs : List PySem.Expr} {env : Env} (h : ∀ y p, x ≠ .Starred y p) : starEach (x :: xs) env = (false, eval x env) :: starEach xs env := by
  cases x <;> first | rfl | exact absurd rfl (h _ _)
section
variable {c : Cx} {k : Nat} {env : Env} {σ : Loc}
theorem EvAll.plain {pos : Pos} {xs : List PySem.Expr} {es : List Ent} (r : EvAll c k env σ xs es) : (backTo pos (starEach xs env)).any (·.1) = false := by
  induction r with
  | nil => rfl
  | cons x r n ih =>
    rw [star_cons n]
    show (false || (backTo pos (starEach _ env)).any (·.1)) = false
    rw [ih]; rfl
theorem spl {A : Around} {F : Fz} {pos : Pos} (R : Room k A) (G : EnvG env) {xs : List PySem.Expr} {es : List Ent} {s : Shared} (r : EvAll c k env σ xs es) (g : Gd c.K A.frames s) (L : Lay env σ F s.heap) :
    wpAny (model c.prog c.w) A (spliced (backTo pos (starEach xs env))) (fun vs s' => (Ks s s' ∧ s.toks ≤ s'.toks) ∧ HoldsAll (F.ext s.heap) s'.heap es vs) (fun _ _ => False) s := by
  induction r generalizing s with
  | nil => exact spliced_nil ⟨⟨Ks.refl _, Nat.le_refl _⟩, .nil⟩
  | cons x r n ih =>
    rw [star_cons n]
    refine spliced_cons ((x.run A F s R G g L).use fun v s₁ k₁ t₁ h₁ => ?_)
    refine wpAny_mono (ih (g.ks k₁ t₁) (L.kp k₁.kp)) (fun vs s₂ h₂ => ?_) fun _ _ x => x
    obtain ⟨⟨k₂, t₂⟩, h₂⟩ := h₂
    exact ⟨⟨k₁.trans k₂, Nat.le_trans t₁ t₂⟩, .cons (h₁.kp k₂.kp) (h₂.mono (fun a n f => Fz.ext_kp k₁.kp n f) fun _ _ _ _ _ e => e)⟩

noncomputable def CallOk (c : Cx) (f : Value) : Prop := (∃ id, f = .builtin id) ∨ (∃ T, f = .type T) ∨ keepIn c.K f = true
theorem callW {A : Around} {F : Fz} {s : Shared} {pos : Pos} {f : Value} {x : PySem.Expr} {xs : List PySem.Expr} {es : List Ent} {e : Ent} (hok : CallOk c f) (ha : EvAll c k env σ (x :: xs) es) (hc : FnC c k f es e)
    (R : Room k A) (G : EnvG env) (g : Gd c.K A.frames s) (L : Lay env σ F s.heap) : Tri c.prog c.w A F (callWith pos f [] (backTo pos (starEach (x :: xs) env)) []) e s := by
  have hp := ha.plain (pos := pos)
  have hn : ∀ y p, x ≠ .Starred y p := by cases ha with | cons _ _ n => exact n
  have key : wpAny (model c.prog c.w) A (spliced (backTo pos (starEach (x :: xs) env))) (fun vs s₁ => Gd c.K A.frames s₁ ∧ wpAny (model c.prog c.w) A (call f ([] ++ vs)) (fun v s' => Ks s s' ∧ Holds (F.ext s.heap) s'.heap e v) (fun _ _ => False) s₁) (fun _ _ => False) s :=
    wpAny_mono (spl R G ha g L) (fun vs s₁ h₁ => by
      obtain ⟨⟨k₁, t₁⟩, h₁⟩ := h₁
      exact ⟨g.ks k₁ t₁, Tri.of2 k₁ (hc.run A _ s₁ vs R (g.ks k₁ t₁) h₁)⟩) fun _ _ x => x
  rcases hok with ⟨id, rfl⟩ | ⟨T, rfl⟩ | hk
  · refine callWith_builtin hp ?_
    rw [star_cons hn] at key ⊢
    exact evalArgs_plain (wpAny_mono key (fun vs s₁ h => h.2) fun _ _ x => x)
  · refine callWith_type hp ?_
    rw [star_cons hn] at key ⊢
    exact evalArgs_plain (wpAny_mono key (fun vs s₁ h => h.2) fun _ _ x => x)
  · refine callWith_K g.inK hk (wpAny_mono key (fun vs s₁ h => ⟨h.1.inK, h.2⟩) fun _ _ x => x) (star_cons hn) ?_
    rw [star_cons hn] at hp
    exact (Bool.or_eq_false_iff.mp (show (false || (backTo pos (starEach xs env)).any (·.1)) = false from hp)).2

theorem Ev.call {id : Str} {p pos : Pos} {f : Value} {x : PySem.Expr} {xs : List PySem.Expr} {es : List Ent} {e : Ent} (hf : Ev c k env σ (.Name id p) (.v f)) (hok : CallOk c f) (ha : EvAll c k env σ (x :: xs) es) (hc : FnC c k f es e) :
    Ev c k env σ (.Call (.Name id p) (x :: xs) [] pos) e := by
  constructor; intro A F s R G g L
  refine PyProof.Rows.Call_ ((hf.run A F s R G g L).use fun v s₁ k₁ t₁ h₁ => ?_)
  obtain rfl : v = f := h₁
  exact Tri.of k₁ (callW hok ha hc R G (g.ks k₁ t₁) (L.kp k₁.kp))

theorem base_name {id n : Str} {p : Pos} {env : Env} {t : Sem Value} : attributeBase (.Name id p) n env t = t := rfl
theorem base_const {v : Const} {q : Nat} {n : Str} {p : Pos} {env : Env} {t : Sem Value} : attributeBase (.Constant v q p) n env t = t := rfl
theorem meth1 {o a : PySem.Expr} {name : Str} {apos pos : Pos} {x : Str} {ea e : Ent} (ho : Ev c k env σ o (.d (.str x))) (ha : Ev c k env σ a ea) (hn : ∀ y p, a ≠ .Starred y p)
    (hbase : attributeBase o name env (eval o env) = eval o env) (hline : (apos.endLine == pos.line) = true)
    (hm : ∀ A E Q s t (u : Sem Value), Room k A → wpAny (model c.prog c.w) A u (fun v s₁ => ∃ F s₀, Gd c.K A.frames s₁ ∧ Ks s₀ s₁ ∧ Holds F s₁.heap ea v ∧ ∀ v' s', Ks s₁ s' → Holds (F.ext s₁.heap) s'.heap e v' → Q v' s') E s → MethodOnS c.prog c.w A E name (.str x t) pos [(false, u)] Q s) :
    Ev c k env σ (.Call (.Attribute o name apos) [a] [] pos) e := by
  constructor; intro A F s R G g L
  refine Call_method1 hbase (star_cons hn) hline ((ho.run A F s R G g L).use fun v s₁ k₁ t₁ h₁ => ?_)
  obtain ⟨t, rfl⟩ := h₁.isStr
  refine hm A _ _ s₁ t _ R ((ha.run A F s₁ R G (g.ks k₁ t₁) (L.kp k₁.kp)).use fun v₂ s₂ k₂ t₂ h₂ => ?_)
  exact ⟨F.ext s₁.heap, s₁, (g.ks k₁ t₁).ks k₂ t₂, k₂, h₂, fun v' s' k' h' => ⟨(k₁.trans k₂).trans k', h'.mono (fun a n f => Fz.ext_kp k₁.kp n (Fz.ext_ext k₂.kp n f)) fun _ _ _ _ _ e => e⟩⟩

theorem Ev.startswith {o a : PySem.Expr} {apos pos : Pos} {x y : Str} (ho : Ev c k env σ o (.d (.str x))) (ha : Ev c k env σ a (.d (.str y))) (hn : ∀ y p, a ≠ .Starred y p := by intro _ _ h; cases h)
    (hbase : attributeBase o "startswith" env (eval o env) = eval o env := by first | exact base_name | exact base_const) (hline : (apos.endLine == pos.line) = true := by rfl) :
    Ev c k env σ (.Call (.Attribute o "startswith" apos) [a] [] pos) (.d (.bool (Txt.startswith x y))) :=
  meth1 ho ha hn hbase hline fun A E Q s t u R h => SB.startswith (wpAny_mono h (fun v s₁ P => by
    obtain ⟨F, s₀, g, k₀, h₁, h₂⟩ := P
    obtain ⟨u, rfl⟩ := h₁.isStr
    exact ⟨y, u, rfl, h₂ _ _ (Ks.refl _) (.bool _)⟩) fun _ _ x => x)
theorem Ev.endswith {o a : PySem.Expr} {apos pos : Pos} {x y : Str} (ho : Ev c k env σ o (.d (.str x))) (ha : Ev c k env σ a (.d (.str y))) (hn : ∀ y p, a ≠ .Starred y p := by intro _ _ h; cases h)
    (hbase : attributeBase o "endswith" env (eval o env) = eval o env := by first | exact base_name | exact base_const) (hline : (apos.endLine == pos.line) = true := by rfl) :
    Ev c k env σ (.Call (.Attribute o "endswith" apos) [a] [] pos) (.d (.bool (Txt.endswith x y))) :=
  meth1 ho ha hn hbase hline fun A E Q s t u R h => SB.endswith (wpAny_mono h (fun v s₁ P => by
    obtain ⟨F, s₀, g, k₀, h₁, h₂⟩ := P
    obtain ⟨u, rfl⟩ := h₁.isStr
    exact ⟨y, u, rfl, h₂ _ _ (Ks.refl _) (.bool _)⟩) fun _ _ x => x)
theorem Ev.count {o a : PySem.Expr} {apos pos : Pos} {x y : Str} (ho : Ev c k env σ o (.d (.str x))) (ha : Ev c k env σ a (.d (.str y))) (hn : ∀ y p, a ≠ .Starred y p := by intro _ _ h; cases h)
    (hbase : attributeBase o "count" env (eval o env) = eval o env := by first | exact base_name | exact base_const) (hline : (apos.endLine == pos.line) = true := by rfl) :
    Ev c k env σ (.Call (.Attribute o "count" apos) [a] [] pos) (.d (.int (Txt.count x y))) :=
  meth1 ho ha hn hbase hline fun A E Q s t u R h => SB.count (wpAny_mono h (fun v s₁ P => by
    obtain ⟨F, s₀, g, k₀, h₁, h₂⟩ := P
    obtain ⟨u, rfl⟩ := h₁.isStr
    exact ⟨y, u, rfl, h₂ _ _ Ks.tok (.int _ _)⟩) fun _ _ x => x)
theorem Ev.rfind {o a : PySem.Expr} {apos pos : Pos} {x y : Str} (ho : Ev c k env σ o (.d (.str x))) (ha : Ev c k env σ a (.d (.str y))) (hn : ∀ y p, a ≠ .Starred y p := by intro _ _ h; cases h)
    (hbase : attributeBase o "rfind" env (eval o env) = eval o env := by first | exact base_name | exact base_const) (hline : (apos.endLine == pos.line) = true := by rfl) :
    Ev c k env σ (.Call (.Attribute o "rfind" apos) [a] [] pos) (.d (.int (Txt.rfind x y))) :=
  meth1 ho ha hn hbase hline fun A E Q s t u R h => SB.rfind (wpAny_mono h (fun v s₁ P => by
    obtain ⟨F, s₀, g, k₀, h₁, h₂⟩ := P
    obtain ⟨u, rfl⟩ := h₁.isStr
    exact ⟨y, u, rfl, h₂ _ _ Ks.tok (.int _ _)⟩) fun _ _ x => x)
theorem Ev.rstripChars {o a : PySem.Expr} {apos pos : Pos} {x y : Str} (ho : Ev c k env σ o (.d (.str x))) (ha : Ev c k env σ a (.d (.str y))) (hs : x.length ≤ sizeLine) (hn : ∀ y p, a ≠ .Starred y p := by intro _ _ h; cases h)
    (hbase : attributeBase o "rstrip" env (eval o env) = eval o env := by first | exact base_name | exact base_const) (hline : (apos.endLine == pos.line) = true := by rfl) :
    Ev c k env σ (.Call (.Attribute o "rstrip" apos) [a] [] pos) (.d (.str (Txt.rstripChars x y))) :=
  meth1 ho ha hn hbase hline fun A E Q s t u R h => SB.rstripChars (wpAny_mono h (fun v s₁ P => by
    obtain ⟨F, s₀, g, k₀, h₁, h₂⟩ := P
    obtain ⟨u, rfl⟩ := h₁.isStr
    exact ⟨y, u, rfl, fun _ _ => h₂ _ _ Ks.tok (.str _ _)⟩) fun _ _ x => x) hs

theorem strValues_rep {F : Fz} {h : Heap} : ∀ {l : List (Str × Tok)}, RepAll F h (strValues l) ((l.map (·.1)).map .str) := by
  intro xs
  induction xs with
  | nil =>
    exact .nil
  | cons a r ih =>
    obtain ⟨x, t⟩ := a
    exact .cons (.str x t) ih
theorem rep_strValues {F : Fz} {h : Heap} {xs : List Str} {vs : List Value} (H : RepAll F h vs (xs.map .str)) : ∃ l : List (Str × Tok), vs = strValues l ∧ l.map (·.1) = xs := by
  induction xs generalizing vs with
  | nil => cases H; exact ⟨[], rfl, rfl⟩
  | cons x xs ih =>
    cases H with
    | cons a r => cases a with
      | str _ t =>
        obtain ⟨l, rfl, rfl⟩ := ih r
        exact ⟨(x, t) :: l, rfl, rfl⟩
open Builtin Builtin.Str in
theorem splitOn {prog : Program} {w : World} {A : Around} {E : Value → Shared → Prop} {x : Str} {t : Tok} {pos : Pos} {Q : Value → Shared → Prop} {s : Shared} {a : Sem Value}
    (h : wpAny (model prog w) A a (fun v s₁ => ∃ y u, v = .str y u ∧ (y.length == 0) = false ∧ (partsBetween x (occurrences x y 0 x.length (x.length + 1)) y.length).length ≤ sizeLine ∧
      ∀ (l : List (Str × Tok)) (k : Nat), l.map (·.1) = Txt.split x y → Q (.ref s₁.heap.objs.size) { s₁ with toks := k, heap := s₁.heap.push { cls := .type "list", data := .seq (strValues l).toArray } }) E s) (hx : x.length ≤ sizeLine) :
    MethodOnS prog w A E "split" (.str x t) pos [(false, a)] Q s := by
  refine ⟨"str", _, F.plainAttrs_str, F.slot_str_split, F.type_str_split, typeIs_str _ _ _, (fun _ e => nomatch e),
    method1_meets F.slot_str_split F.entry_str_split (wpAny_mono h (fun v s₁ h₁ => ?_) fun _ _ e => e)⟩
  obtain ⟨y, u, rfl, hy, hn, hq⟩ := h₁
  refine ⟨typeIs_str _ _ _, F.args_str_split_2 _ _, ?_⟩
  cases h1 : (decide (x.length < y.length) || decide (strKind x < strKind y))
  · cases hf : (occurrences x y 0 x.length (x.length + 1)).isEmpty
    · refine ⟨_, meets_str_split_sep x y t u h1 hy hf hx hn, ?_⟩
      show wants Q E _ { s₁ with toks := _, heap := s₁.heap.push { cls := .type "list", data := .seq (strsFrom s₁.toks (partsBetween x (occurrences x y 0 x.length (x.length + 1)) y.length)).toArray } }
      rw [strsFrom_eq]
      exact hq (numbered s₁.toks _) _ ((numbered_texts _ _).trans ((if_neg (ne_true_of_eq_false h1)).trans (if_neg (ne_true_of_eq_false hf))).symm)
    · exact ⟨_, meets_str_split_not_found x y t u h1 hy hf, hq [(x, t)] _ ((if_neg (ne_true_of_eq_false h1)).trans (if_pos hf)).symm⟩
  · exact ⟨_, meets_str_split_cannot_occur x y t u h1, hq [(x, t)] _ (if_pos h1).symm⟩
open Builtin.Str in
theorem Ev.split {o a : PySem.Expr} {apos pos : Pos} {x y : Str} (ho : Ev c k env σ o (.d (.str x))) (ha : Ev c k env σ a (.d (.str y))) (hy : (y.length == 0) = false) (hs : x.length ≤ sizeLine)
    (hn2 : (partsBetween x (occurrences x y 0 x.length (x.length + 1)) y.length).length ≤ sizeLine) (hn : ∀ y p, a ≠ .Starred y p := by intro _ _ h; cases h)
    (hbase : attributeBase o "split" env (eval o env) = eval o env := by first | exact base_name | exact base_const) (hline : (apos.endLine == pos.line) = true := by rfl) :
    Ev c k env σ (.Call (.Attribute o "split" apos) [a] [] pos) (.d (.list ((Txt.split x y).map .str))) :=
  meth1 ho ha hn hbase hline fun A E Q s t u R h => splitOn (wpAny_mono h (fun v s₁ P => by
    obtain ⟨F, s₀, g, k₀, h₁, h₂⟩ := P
    obtain ⟨u, rfl⟩ := h₁.isStr
    refine ⟨y, u, rfl, hy, hn2, fun l kk hl => h₂ _ _ (Ks.mk (Kp.push _ _)) ?_⟩
    refine Rep.mkList (.inr (size_none _)) (fresh_ne g.tab (size_none _)) ⟨_, Heap.get?_push_size _ rfl, rfl, 0, rfl⟩ ?_
    rw [← hl]; exact strValues_rep) fun _ _ x => x) hs
theorem Ev.join {o a : PySem.Expr} {apos pos : Pos} {x : Str} {xs : List Str} (ho : Ev c k env σ o (.d (.str x))) (ha : Ev c k env σ a (.d (.list (xs.map .str)))) (hok : JoinOk x xs = true) (hn : ∀ y p, a ≠ .Starred y p := by intro _ _ h; cases h)
    (hbase : attributeBase o "join" env (eval o env) = eval o env := by first | exact base_name | exact base_const) (hline : (apos.endLine == pos.line) = true := by rfl) :
    Ev c k env σ (.Call (.Attribute o "join" apos) [a] [] pos) (.d (.str (Txt.join x xs))) :=
  meth1 ho ha hn hbase hline fun A E Q s t u R h => SB.join (wpAny_mono h (fun v s₁ P => by
    obtain ⟨F, s₀, g, k₀, h₁, h₂⟩ := P
    obtain ⟨D, vs, rfl, _, _, hl, r⟩ := h₁.isList
    obtain ⟨l, rfl, hx⟩ := rep_strValues r
    exact ⟨D, l, rfl, hl, xs, hx, hok, fun _ _ => h₂ _ _ Ks.tok (.str _ _)⟩) fun _ _ x => x)
end
end Mine
end
section
open PySem PySem.Calls PySem.W
namespace Mine
variable [iO : Old]
section
variable {c : Cx} {k : Nat} {env : Env} {σ : Loc}

theorem newSeq_rep {s : Shared} {K : Frag} {fr : Option (List Env)} {F : Fz} (g : Gd K fr s) {vs : List Value} {ds : List PyData} {tk : Nat} (r : RepAll (F.ext s.heap) s.heap vs ds) :
    Ks s { s with heap := s.heap.push { cls := .type "list", data := .seq vs.toArray }, toks := tk } ∧ Rep (F.ext s.heap) (s.heap.push { cls := .type "list", data := .seq vs.toArray }) (.ref s.heap.objs.size) (.list ds) :=
  ⟨Ks.mk (Kp.push _ _), Rep.mkList (.inr (size_none _)) (fresh_ne g.tab (size_none _)) ⟨_, Heap.get?_push_size _ rfl, rfl, 0, rfl⟩ (r.kp (Kp.push _ _))⟩
theorem newTup_rep {s : Shared} {K : Frag} {fr : Option (List Env)} {F : Fz} (g : Gd K fr s) {vs : List Value} {ds : List PyData} {tk : Nat} (r : RepAll (F.ext s.heap) s.heap vs ds) :
    Ks s { s with heap := s.heap.push { cls := .type "tuple", data := .seq vs.toArray }, toks := tk } ∧ Rep (F.ext s.heap) (s.heap.push { cls := .type "tuple", data := .seq vs.toArray }) (.ref s.heap.objs.size) (.tuple ds) :=
  ⟨Ks.mk (Kp.push _ _), Rep.mkTuple (.inr (size_none _)) (fresh_ne g.tab (size_none _)) ⟨_, Heap.get?_push_size _ rfl, rfl, 0, rfl⟩ (r.kp (Kp.push _ _))⟩

theorem Ev.listD {xs : List PySem.Expr} {ds : List PyData} {pos : Pos} (ha : EvAll c k env σ xs (ds.map .d)) (hs : ds.length ≤ sizeLine) : Ev c k env σ (.List xs pos) (.d (.list ds)) := by
  constructor; intro A F s R G g L
  refine PyProof.Rows.List_ (wpAny_mono (spl R G ha g L) (fun vs s₁ h₁ => ?_) fun _ _ x => x)
  obtain ⟨⟨k₁, t₁⟩, h₁⟩ := h₁
  have r := h₁.rep
  have g₁ := g.ks k₁ t₁
  have z := newSeq_rep (F := F.ext s.heap) (tk := s₁.toks) g₁ (r.mono (fun _ _ f => .inl f) fun _ _ _ _ _ e => e)
  exact wpAny_newObj_type ⟨k₁.trans z.1, z.2.mono (fun a n f => Fz.ext_ext k₁.kp n f) fun _ _ _ _ _ e => e⟩ (by show vs.toArray.size ≤ sizeLine; rw [List.size_toArray, r.length]; exact hs)
theorem Ev.tupD {xs : List PySem.Expr} {ds : List PyData} {n : Nat} {pos : Pos} (ha : EvAll c k env σ xs (ds.map .d)) (hs : ds.length ≤ sizeLine) : Ev c k env σ (.Tuple xs n pos) (.d (.tuple ds)) := by
  constructor; intro A F s R G g L
  refine PyProof.Rows.Tuple_ (wpAny_mono (spl R G ha g L) (fun vs s₁ h₁ => ?_) fun _ _ x => x)
  obtain ⟨⟨k₁, t₁⟩, h₁⟩ := h₁
  have r := h₁.rep
  have g₁ := g.ks k₁ t₁
  have z := newTup_rep (F := F.ext s.heap) (tk := s₁.toks) g₁ (r.mono (fun _ _ f => .inl f) fun _ _ _ _ _ e => e)
  exact wpAny_newObj_type ⟨k₁.trans z.1, z.2.mono (fun a n f => Fz.ext_ext k₁.kp n f) fun _ _ _ _ _ e => e⟩ (by show vs.toArray.size ≤ sizeLine; rw [List.size_toArray, r.length]; exact hs)

theorem subTail {A : Around} {value slice : PySem.Expr} {o i : Value} {T id : String} {Q : Value → Shared → Prop} {E : Value → Shared → Prop} {s : Shared} (hT : s.TypeIs o T)
    (hl : typeLookup (.type T) "__getitem__" = pure (some (.builtin id))) (h : wpAny (model c.prog c.w) A (getItem o i) Q E s)
    (hs : subscripted slice false o i = operate [o, i] (getItem o i)) : wpAny (model c.prog c.w) A (PyProof.Rows.subscriptTail value slice o i) Q E s := by
  unfold PyProof.Rows.subscriptTail
  refine wpAny_bind ?_
  rw [getitemInPython_of_ne hT.not_modules]
  refine wpAny_bind (wpAny_specialOf hT hl ?_)
  have fin : wpAny (model c.prog c.w) A (subscripted slice false o i) (fun r s₃ => wpAny (model c.prog c.w) A (letTemporaryGo value o r >>= fun _ => pure r) Q E s₃) E s := by
    rw [hs]
    exact wpAny_operating (wpAny_mono h (fun r s₃ h₃ => wpAny_bind (wpAny_letTemporaryGo (wpAny_pure h₃))) fun _ _ x => x)
  first
    | exact wpAny_pure (wpAny_bind fin)
    | exact wpAny_bind (wpAny_pure (wpAny_bind fin))
    | exact wpAny_bind fin

theorem Ev.idx {o i : PySem.Expr} {p : Pos} {xs : List PyData} {n : Int} {d : PyData} (ho : Ev c k env σ o (.d (.list xs))) (hi : Ev c k env σ i (.d (.int n))) (h0 : 0 ≤ n) (hf : n < 2 ^ 63) (hx : xs[n.toNat]? = some d)
    (hs : ∀ a b, subscripted i false a b = operate [a, b] (getItem a b) := by intro _ _; with_unfolding_all rfl) : Ev c k env σ (.Subscript o i p) (.d d) := by
  constructor; intro A F s R G g L
  refine PyProof.Rows.Subscript_ (two ho hi R G g L fun v₁ v₂ s₂ k₂ g₂ h₁ h₂ => ?_)
  obtain ⟨l, vs, rfl, f, nn, hl, r⟩ := h₁.isList
  obtain ⟨t, rfl⟩ := h₂.isInt
  obtain ⟨v, e, hv⟩ := r.get hx
  exact subTail hl.typeIs slot_list_getitem.lookup (wpAny_getItem_list hl h0 hf (by simpa using e) ⟨Ks.refl _, Rep.mono (fun _ _ f => .inl f) (fun _ _ _ _ _ e => e) hv⟩) (hs _ _)
theorem Ev.idxNeg {o i : PySem.Expr} {p : Pos} {xs : List PyData} {n : Int} {d : PyData} (ho : Ev c k env σ o (.d (.list xs))) (hi : Ev c k env σ i (.d (.int n))) (h0 : n < 0) (h1 : -(xs.length : Int) ≤ n) (hf : -(2 ^ 63) ≤ n) (hx : xs[(n + xs.length).toNat]? = some d)
    (hs : ∀ a b, subscripted i false a b = operate [a, b] (getItem a b) := by intro _ _; with_unfolding_all rfl) : Ev c k env σ (.Subscript o i p) (.d d) := by
  constructor; intro A F s R G g L
  refine PyProof.Rows.Subscript_ (two ho hi R G g L fun v₁ v₂ s₂ k₂ g₂ h₁ h₂ => ?_)
  obtain ⟨l, vs, rfl, f, nn, hl, r⟩ := h₁.isList
  obtain ⟨t, rfl⟩ := h₂.isInt
  obtain ⟨v, e, hv⟩ := r.get hx
  have el : vs.toArray.size = xs.length := by rw [List.size_toArray, r.length]
  exact subTail hl.typeIs slot_list_getitem.lookup (wpAny_getItem_list_neg hl h0 (by rw [el]; exact h1) hf (by rw [el]; simpa using e) ⟨Ks.refl _, Rep.mono (fun _ _ f => .inl f) (fun _ _ _ _ _ e => e) hv⟩) (hs _ _)
theorem Ev.idxTup {o i : PySem.Expr} {p : Pos} {xs : List PyData} {n : Int} {d : PyData} (ho : Ev c k env σ o (.d (.tuple xs))) (hi : Ev c k env σ i (.d (.int n))) (h0 : 0 ≤ n) (hf : n < 2 ^ 63) (hx : xs[n.toNat]? = some d)
    (hs : ∀ a b, subscripted i false a b = operate [a, b] (getItem a b) := by intro _ _; with_unfolding_all rfl) : Ev c k env σ (.Subscript o i p) (.d d) := by
  constructor; intro A F s R G g L
  refine PyProof.Rows.Subscript_ (two ho hi R G g L fun v₁ v₂ s₂ k₂ g₂ h₁ h₂ => ?_)
  obtain ⟨l, vs, rfl, f, nn, hl, r⟩ := h₁.isTuple
  obtain ⟨t, rfl⟩ := h₂.isInt
  obtain ⟨v, e, hv⟩ := r.get hx
  have hlt : n.toNat < vs.length := by
    rw [r.length]; exact (List.getElem?_eq_some_iff.mp hx).1
  exact subTail hl.typeIs PyProof.Rows.slot_tuple_getitem.lookup (PyProof.Rows.getItem_tuple hl (by lia) hf (j := n.toNat) (by
    unfold seqIndex?
    have q1 : ¬ n < 0 := by lia
    have q2 : n < (vs.length : Int) := by lia
    simp [q1, q2, h0]) (by simpa using e) ⟨Ks.refl _, Rep.mono (fun _ _ f => .inl f) (fun _ _ _ _ _ e => e) hv⟩) (hs _ _)

theorem Ev.upto {o u : PySem.Expr} {p q : Pos} {xs : List PyData} {n : Nat} (ho : Ev c k env σ o (.d (.list xs))) (hu : Ev c k env σ u (.d (.int n))) (hs : xs.length ≤ sizeLine)
    (ht : ∀ a r, letTemporaryGo o a r = pure () := by intro _ _; with_unfolding_all rfl) : Ev c k env σ (.Subscript o (.Slice none (some u) none q) p) (.d (.list (xs.take n))) := by
  constructor; intro A F s R G g L
  refine wpAny_Subscript_list_slice ((ho.run A F s R G g L).use fun v₁ s₁ k₁ t₁ h₁ => wpAny_evalPart_none (wpAny_evalPart_some ((hu.run A F s₁ R G (g.ks k₁ t₁) (L.kp k₁.kp)).use fun v₂ s₂ k₂ t₂ h₂ => ?_))) ht
  obtain ⟨l, vs, rfl, f, nn, hl, r⟩ := (h₁.kp k₂.kp).isList
  obtain ⟨t, rfl⟩ := h₂.isInt
  refine ⟨l, vs.toArray, none, some n, rfl, hl, by rw [List.size_toArray, r.length]; exact hs, .none, .int _ _, ?_⟩
  have kp : Kp s₂.heap ((s₂.heap.push { cls := .type "slice", data := .fields #[.none, .int n t, .none] }).push { cls := .type "list", data := .seq (slicePick vs.toArray none (some n) none) }) := (Kp.push _ _).trans (Kp.push _ _)
  have k12 := k₁.trans k₂
  refine ⟨k12.trans (Ks.mk (tk := s₂.toks) kp), ?_⟩
  have e : (slicePick vs.toArray none (some (n : Int)) none) = (vs.take n).toArray := by rw [slicePick_upto']
  have hn : s.heap.get? (s₂.heap.objs.size + 1) = none := by
    cases q : s.heap.get? (s₂.heap.objs.size + 1) with
    | none => rfl
    | some o =>
      by_cases ht : s₂.heap.objs.size + 1 = tab0
      · obtain ⟨o', ho'⟩ := ((g.ks k₁ t₁).ks k₂ t₂).tab.ex
        rw [← ht] at ho'
        exact absurd (Heap.lt_size ho') (Nat.not_lt.mpr (Nat.le_succ _))
      · obtain ⟨_, q'⟩ := k12.kp.live ht q; exact absurd (Heap.lt_size q') (Nat.not_lt.mpr (Nat.le_succ _))
  have hm := Heap.get?_push_size (s₂.heap.push { cls := .type "slice", data := .fields #[.none, .int n t, .none] }) (o := { cls := .type "list", data := .seq (slicePick vs.toArray none (some (n : Int)) none) }) rfl
  rw [Heap.size_push] at hm
  refine Rep.mkList (vs := vs.take n) (.inr hn) (fresh_ne g.tab hn) ⟨_, hm, rfl, 0, by rw [e]⟩ ?_
  exact (r.take n).kp kp

theorem strSlice {A : Around} {s₀ s : Shared} {F : Fz} {x : Str} {t : Tok} (l u : Option (Int × Tok)) (k₀ : Ks s₀ s) (hs : x.length ≤ sizeLine) :
    ItemOn (model c.prog c.w) A (fun _ _ => False) (.str x t) (.ref s.heap.objs.size) (fun v s' => Ks s₀ s' ∧ Holds (F.ext s₀.heap) s'.heap (.d (.str (Txt.slice x (l.map (·.1)) (u.map (·.1))))) v)
      { s with heap := s.heap.push { cls := .type "slice", data := .fields #[partValue l, partValue u, .none] } } :=
  ⟨"str", _, PySem.F.slot_str_getitem.lookup, typeIs_str _ _ _, wpAny_getItem_str_slice (l := l) (u := u) (st := none) ⟨_, Heap.get?_push_size _ rfl, rfl, rfl⟩ rfl
    (post_val_or_str ⟨Nat.le_trans (Txt.slice_le x _ _) hs, fun t' k => ⟨k₀.trans (Ks.mk (tk := k) (Kp.push _ _)), .str _ _⟩⟩)⟩
theorem Ev.strTo {o u : PySem.Expr} {p q : Pos} {x : Str} {b : Int} (ho : Ev c k env σ o (.d (.str x))) (hu : Ev c k env σ u (.d (.int b))) (hs : x.length ≤ sizeLine)
    (ht : ∀ a r, letTemporaryGo o a r = pure () := by intro _ _; with_unfolding_all rfl) : Ev c k env σ (.Subscript o (.Slice none (some u) none q) p) (.d (.str (Txt.slice x none (some b)))) := by
  constructor; intro A F s R G g L
  refine Subscript_Slice ((ho.run A F s R G g L).use fun v₁ s₁ k₁ t₁ h₁ => wpAny_Slice (wpAny_evalPart_none (wpAny_evalPart_some ((hu.run A F s₁ R G (g.ks k₁ t₁) (L.kp k₁.kp)).use fun v₂ s₂ k₂ t₂ h₂ => ?_)))) ht
  obtain ⟨t, rfl⟩ := h₁.isStr
  obtain ⟨t2, rfl⟩ := h₂.isInt
  exact wpAny_evalPart_none (strSlice (c := c) (t := t) none (some (b, t2)) (k₁.trans k₂) hs)
theorem Ev.strFrom {o u : PySem.Expr} {p q : Pos} {x : Str} {b : Int} (ho : Ev c k env σ o (.d (.str x))) (hu : Ev c k env σ u (.d (.int b))) (hs : x.length ≤ sizeLine)
    (ht : ∀ a r, letTemporaryGo o a r = pure () := by intro _ _; with_unfolding_all rfl) : Ev c k env σ (.Subscript o (.Slice (some u) none none q) p) (.d (.str (Txt.slice x (some b) none))) := by
  constructor; intro A F s R G g L
  refine Subscript_Slice ((ho.run A F s R G g L).use fun v₁ s₁ k₁ t₁ h₁ => wpAny_Slice (wpAny_evalPart_some ((hu.run A F s₁ R G (g.ks k₁ t₁) (L.kp k₁.kp)).use fun v₂ s₂ k₂ t₂ h₂ => wpAny_evalPart_none ?_))) ht
  obtain ⟨t, rfl⟩ := h₁.isStr
  obtain ⟨t2, rfl⟩ := h₂.isInt
  exact wpAny_evalPart_none (strSlice (c := c) (t := t) (some (b, t2)) none (k₁.trans k₂) hs)
theorem Ev.strCut {o l u : PySem.Expr} {p q : Pos} {x : Str} {a b : Int} (ho : Ev c k env σ o (.d (.str x))) (hl : Ev c k env σ l (.d (.int a))) (hu : Ev c k env σ u (.d (.int b))) (hs : x.length ≤ sizeLine)
    (ht : ∀ a r, letTemporaryGo o a r = pure () := by intro _ _; with_unfolding_all rfl) : Ev c k env σ (.Subscript o (.Slice (some l) (some u) none q) p) (.d (.str (Txt.slice x (some a) (some b)))) := by
  constructor; intro A F s R G g L
  refine Subscript_Slice ((ho.run A F s R G g L).use fun v₁ s₁ k₁ t₁ h₁ => wpAny_Slice (wpAny_evalPart_some ((hl.run A F s₁ R G (g.ks k₁ t₁) (L.kp k₁.kp)).use fun v₂ s₂ k₂ t₂ h₂ => wpAny_evalPart_some ((hu.run A F s₂ R G ((g.ks k₁ t₁).ks k₂ t₂) ((L.kp k₁.kp).kp k₂.kp)).use fun v₃ s₃ k₃ t₃ h₃ => ?_)))) ht
  obtain ⟨t, rfl⟩ := h₁.isStr
  obtain ⟨t2, rfl⟩ := h₂.isInt
  obtain ⟨t3, rfl⟩ := h₃.isInt
  exact wpAny_evalPart_none (strSlice (c := c) (t := t) (some (a, t2)) (some (b, t3)) ((k₁.trans k₂).trans k₃) hs)

theorem FnC.lenList {xs : List PyData} (hs : (xs.length : Int) < 2 ^ 63) : FnC c k (.builtin "len") [.d (.list xs)] (.d (.int xs.length)) := by
  constructor; intro A F s vs R g h
  obtain ⟨v, rfl, h'⟩ := h.one
  obtain ⟨l, vs, rfl, f, nn, hl, r⟩ := h'.isList
  have e : vs.toArray.size = xs.length := by rw [List.size_toArray, r.length]
  exact call_len_list hl (by rw [e]; exact hs) ⟨Ks.tok, by rw [e]; exact .int _ _⟩
theorem FnC.lenStr {x : Str} (hs : (x.length : Int) < 2 ^ 63) : FnC c k (.builtin "len") [.d (.str x)] (.d (.int x.length)) := by
  constructor; intro A F s vs R g h
  obtain ⟨v, rfl, h'⟩ := h.one
  obtain ⟨t, rfl⟩ := h'.isStr
  exact PyProof.Rows.len_str (by lia) ⟨Ks.tok, .int _ _⟩

theorem Ev.or2 {a b : PySem.Expr} {p : Pos} {e₁ e : Ent} {v : Bool} (ha : Ev c k env σ a e₁) (hb : v = false → Ev c k env σ b e) (ht : Tru c e₁ v) (he : v = true → e₁ = e) : Ev c k env σ (.BoolOp .Or [a, b] p) e := by
  constructor; intro A F s R G g L
  refine PyProof.Rows.BoolOp_or ((ha.run A F s R G g L).use fun v₁ s₁ k₁ t₁ h₁ => (ht.run A _ s₁ v₁ (g.ks k₁ t₁) h₁).use fun s₂ k₂ t₂ => ?_)
  cases v with
  | true => exact ⟨k₁.trans k₂, (he rfl) ▸ h₁.kp k₂.kp⟩
  | false => exact PyProof.Rows.BoolOp_one (Tri.of (k₁.trans k₂) ((hb rfl).run A F s₂ R G ((g.ks k₁ t₁).ks k₂ t₂) ((L.kp k₁.kp).kp k₂.kp)))
end
end Mine
end
section
open PySem PySem.Calls PySem.W
namespace Mine
variable [iO : Old]

noncomputable def Ff (F₀ : Fz) (h₀ : Heap) (Mu : List Addr) : Fz := fun a => F₀ a ∨ (h₀.get? a = none ∧ a ∉ Mu)

structure InFn (s₀ : Shared) (F₀ : Fz) (W X : List Addr) (env : Env) (σ : Loc) (s : Shared) : Prop where
  ks : Ks s₀ s
  tk : s₀.toks ≤ s.toks
  lay : Lay env σ (Ff F₀ s₀.heap (W ++ X)) s.heap
  new : ∀ a ∈ W ++ X, s₀.heap.get? a = none
  live : ∀ a ∈ W ++ X, ∃ o, s.heap.get? a = some o
  loc : env.locals ∈ W
  nmu : tab0 ∉ W ++ X
  f0 : ∀ a, F₀ a → ∃ o, s₀.heap.get? a = some o

structure KB (W : List Addr) (s s' : Shared) : Prop where
  keep : ∀ b o, b ∉ W → b ≠ tab0 → NFr o → s.heap.get? b = some o → s'.heap.get? b = some o
  fr : ∀ L, L ≠ tab0 → FrameAt s.heap L → FrameAt s'.heap L
  ns : ∀ L m, L ∉ W → L ≠ tab0 → s.heap.Ns L m → s'.heap.Ns L m
theorem KB.refl {W : List Addr} {s : Shared} : KB W s s := ⟨fun _ _ _ _ _ e => e, fun _ _ f => f, fun _ _ _ _ x => x⟩
theorem KB.trans {W : List Addr} {a b c : Shared} (x : KB W a b) (y : KB W b c) : KB W a c := ⟨fun i o n t c e => y.keep i o n t c (x.keep i o n t c e), fun L n f => y.fr L n (x.fr L n f), fun L m n t h => y.ns L m n t (x.ns L m n t h)⟩
theorem KB.ks {W : List Addr} {a b : Shared} (x : Ks a b) : KB W a b := ⟨fun i o _ t c e => x.kp.keep i o t c e, fun L n f => f.kp x.kp n, fun L m _ t h => Ns.kp x.kp t h⟩
theorem KB.drop {W : List Addr} {s a b : Shared} {C : Addr} (x : KB W s a) (hC : s.heap.get? C = none) (hs : ∀ i o, i ≠ C → a.heap.get? i = some o → b.heap.get? i = some o) : KB W s b :=
  ⟨fun i o n t c e => hs i o (fun z => by rw [z, hC] at e; injection e) (x.keep i o n t c e),
   fun L n f => (by obtain ⟨o, es, ep, e, r⟩ := x.fr L n f; exact ⟨o, es, ep, hs L o (fun z => by obtain ⟨_, _, _, q, _⟩ := f; rw [z, hC] at q; injection q) e, r⟩),
   fun L m n t h => (by obtain ⟨o, es, ep, e, r⟩ := x.ns L m n t h; exact ⟨o, es, ep, hs L o (fun z => by obtain ⟨_, _, _, q, _⟩ := h; rw [z, hC] at q; injection q) e, r⟩)⟩
theorem FrameAt.but {h h' : Heap} {a L : Addr} {o : Obj} (x : FrameAt h L) (ho : h.get? a = some o) (hd : ∀ es ep, o.data ≠ .dict es ep) (k : ∀ b o, b ≠ a → h.get? b = some o → h'.get? b = some o) : FrameAt h' L :=
  let ⟨oL, es, ep, e, c, d⟩ := x
  ⟨oL, es, ep, k L oL (fun z => by rw [z, ho] at e; obtain rfl := Option.some.inj e; exact hd _ _ d) e, c, d⟩
noncomputable def FK (s s' : Shared) : Prop := ∀ L, L ≠ tab0 → FrameAt s.heap L → FrameAt s'.heap L
theorem FK.refl (s : Shared) : FK s s := fun _ _ f => f
theorem FK.trans {a b c : Shared} (x : FK a b) (y : FK b c) : FK a c := fun L n f => y L n (x L n f)
theorem FK.kb {W : List Addr} {a b c : Shared} (x : FK a b) (y : KB W b c) : FK a c := x.trans y.fr
theorem FK.ks {a b c : Shared} (x : FK a b) (y : Ks b c) : FK a c := x.trans fun L n f => f.kp y.kp n
structure GdS (K : Frag) (fr : Option (List Env)) (s₀ s : Shared) : Prop where
  g : GdH K s₀.heap
  t : 0 < s₀.toks
  f : FrOk fr s.heap
theorem GdS.kb {K : Frag} {fr : Option (List Env)} {W : List Addr} {s₀ s s' : Shared} (g : GdS K fr s₀ s) (k : KB W s s') : GdS K fr s₀ s' := ⟨g.g, g.t, g.f.imp k.fr⟩
theorem GdS.fk {K : Frag} {fr : Option (List Env)} {s₀ s s' : Shared} (g : GdS K fr s₀ s) (k : FK s s') : GdS K fr s₀ s' := ⟨g.g, g.t, g.f.imp k⟩
theorem GdS.ks {K : Frag} {fr : Option (List Env)} {s₀ s s' : Shared} (g : GdS K fr s₀ s) (k : Ks s s') : GdS K fr s₀ s' := ⟨g.g, g.t, g.f.kp k.kp⟩
theorem KB.rep {W X : List Addr} {F₀ : Fz} {h₀ : Heap} {s s' : Shared} (hF : ∀ a ∈ W, ¬ F₀ a) (k : KB W s s') {e : Ent} {v : Value} (x : Holds (Ff F₀ h₀ (W ++ X)) s.heap e v) : Holds (Ff F₀ h₀ (W ++ X)) s'.heap e v :=
  x.mono (fun _ _ f => f) fun a o f n c e => k.keep a o (fun m => by
    rcases f with f | ⟨_, f⟩
    · exact hF a m f
    · exact f (List.mem_append_left _ m)) n c e

section
variable {s₀ s s' : Shared} {F₀ : Fz} {W X : List Addr} {env : Env} {σ : Loc}
theorem ext_Ff (I : InFn s₀ F₀ W X env σ s) {a : Addr} (n : a ≠ tab0) (x : (Ff F₀ s₀.heap (W ++ X)).ext s.heap a) : Ff F₀ s₀.heap (W ++ X) a := by
  rcases x with x | x
  · exact x
  · refine .inr ⟨?_, fun m => ?_⟩
    · cases e : s₀.heap.get? a with
      | none => rfl
      | some o => obtain ⟨_, q⟩ := I.ks.kp.live n e; rw [q] at x; injection x
    · obtain ⟨o, ho⟩ := I.live a m
      rw [ho] at x; injection x
theorem InFn.step (I : InFn s₀ F₀ W X env σ s) (k : Ks s s') (t : s.toks ≤ s'.toks) : InFn s₀ F₀ W X env σ s' :=
  ⟨I.ks.trans k, Nat.le_trans I.tk t, I.lay.kp k.kp, I.new, fun a m => (by obtain ⟨_, e⟩ := I.live a m; exact k.kp.live (fun z => I.nmu (z ▸ m)) e), I.loc, I.nmu, I.f0⟩
theorem InFn.holds (I : InFn s₀ F₀ W X env σ s) {h : Heap} {e : Ent} {v : Value} (x : Holds ((Ff F₀ s₀.heap (W ++ X)).ext s.heap) h e v) : Holds (Ff F₀ s₀.heap (W ++ X)) h e v :=
  x.mono (fun a n f => ext_Ff I n f) fun _ _ _ _ _ e => e
theorem InFn.gd {K : Frag} {fr : Option (List Env)} (I : InFn s₀ F₀ W X env σ s) (g : GdS K fr s₀ s) : Gd K fr s := ⟨g.g.kp I.ks.kp, Nat.lt_of_lt_of_le g.t I.tk, g.f⟩

theorem dict_ne_cell {h : Heap} {L c : Addr} {m : Str → Option Value} {v : Option Value} (hn : h.Ns L m) (hc : h.IsCell c v) : c ≠ L := by
  rintro rfl
  obtain ⟨o, es, ep, ho, hd, _⟩ := hn
  obtain ⟨o', ho', hd'⟩ := hc
  rw [ho] at ho'; obtain rfl := Option.some.inj ho'
  rw [hd] at hd'; injection hd'

theorem InFn.change {a : Addr} {h' : Heap} {tk : Nat} (I : InFn s₀ F₀ W X env σ s) (m : a ∈ W ++ X) (hs : Heap.ExtBut a s.heap h') (ht : s.toks ≤ tk) (ha : ∃ o, h'.get? a = some o) (so : ∃ o, s.heap.get? a = some o ∧ Soft o) :
    Ks s₀ { s with heap := h', toks := tk } ∧ s₀.toks ≤ tk ∧ (∀ b ∈ W ++ X, ∃ o, h'.get? b = some o) := by
  have nt : a ≠ tab0 := fun z => I.nmu (z ▸ m)
  obtain ⟨h₁, t₁, rfl, k⟩ := I.ks
  refine ⟨⟨h', tk, rfl, k.andThen (fun b o o₁ n e e₁ => hs b o₁ (fun z => ?_) e₁) (fun T => ?_)⟩, Nat.le_trans I.tk ht, fun b mb => ?_⟩
  · rw [z, I.new a m] at e; injection e
  · obtain ⟨o, ho, so⟩ := so
    exact (k.tab T).one ho so hs
  · by_cases hb : b = a
    · rw [hb]; exact ha
    · obtain ⟨o, e⟩ := I.live b mb
      exact ⟨o, hs _ _ hb e⟩

theorem ns_some {h : Heap} {a : Addr} {m} (x : h.Ns a m) : ∃ o, h.get? a = some o := by obtain ⟨o, _, _, e, _⟩ := x; exact ⟨o, e⟩
theorem ns_soft {h : Heap} {a : Addr} {m} (x : h.Ns a m) : ∃ o, h.get? a = some o ∧ Soft o := by obtain ⟨o, _, _, e, d, _⟩ := x; exact ⟨o, e, .inl fun vs z => by rw [d] at z; injection z⟩
theorem cell_soft {h : Heap} {a : Addr} {v : Option Value} (x : h.IsCell a v) : ∃ o, h.get? a = some o ∧ Soft o := by obtain ⟨o, e, d⟩ := x; exact ⟨o, e, .inl fun vs z => by rw [d] at z; injection z⟩
theorem list_soft {h : Heap} {a : Addr} {vs : Array Value} (x : h.IsList a vs) : ∃ o, h.get? a = some o ∧ Soft o := by obtain ⟨o, e, _, n, d⟩ := x; exact ⟨o, e, .inl fun vs z => by rw [d] at z; injection z⟩
theorem listIter_soft {h : Heap} {a l : Addr} {i : Nat} (x : h.IsListIter a l i) : ∃ o, h.get? a = some o ∧ Soft o := by obtain ⟨o, e, c, _⟩ := x; exact ⟨o, e, .inr ⟨by rw [c]; decide, by rw [c]; decide⟩⟩

theorem cls_putName {o : Obj} {name : Str} {hs : Int} {key v : Value} : (Obj.putName name hs key v o).cls = o.cls := by
  obtain ⟨c, d, da, sl⟩ := o
  cases da <;> first | rfl | (unfold Obj.putName; dsimp only; split <;> rfl)
theorem nsSet_cls {M : Model} {A : Around} {E : Value → Shared → Prop} {s : Shared} {a : Addr} {m : Str → Option Value} {name : Str} {v : Value} {Q : Unit → Shared → Prop} (hn : s.heap.Ns a m)
    (h : ∀ h', h'.Ns a (fun x => if x = name then some v else m x) → Heap.SameBut a s.heap h' → (FrameAt s.heap a → FrameAt h' a) → Q () { s with heap := h', toks := s.toks + 1 }) : wpAny M A (nsSet a name v) Q E s := fun Γ p hΓ => by
  have key := Sem.wp_nsSet M Γ (fun _ _ _ => False) p s hn name v (fun _ _ s' => s'.heap.Ns a (fun x => if x = name then some v else m x) ∧ Heap.SameBut a s.heap s'.heap) (fun h' h1 h2 => ⟨h1, h2⟩)
  obtain ⟨o, es, ep, ho, hd, hk, hm⟩ := hn
  have hany : es.any (·.refKey) = false := by
    rw [Array.any_eq_false']; intro e he; obtain ⟨n, t, h⟩ := hk e he; simp [DictEntry.refKey, h]
  simp only [nsSet, strHash, Sem.wp_bind', Sem.wp_cmd_ask, Sem.wp_pure', Sem.wp_cmd_mkText] at key ⊢
  rw [Sem.wp_loadPart_of M Γ _ p { s with toks := s.toks + 1 } (o := o) _ ho] at key ⊢
  simp only [hd, aRefKeyMayBeTheName_eq, aRefKeyMayBeTheNameByArray, hany, Bool.and_false, Bool.false_eq_true, if_false, Sem.wp_cmd_updatePart] at key ⊢
  refine ⟨key.1, h _ key.2.1 key.2.2 fun x => ?_⟩
  obtain ⟨o', es', ep', e', d', _⟩ := key.2.1
  obtain ⟨oL, _, _, eL, cL, _⟩ := x
  have e1 := ((Heap.get?_eq_some _ _ _).mp e').1
  rw [Heap.objs_update_self, ((Heap.get?_eq_some _ _ _).mp ho).1] at e1
  refine ⟨o', es', ep', e', ?_, d'⟩
  rw [ho] at eL; obtain rfl := Option.some.inj eL
  rw [← Option.some.inj e1, ← cL]
  exact cls_putName
theorem storeLocal {M : Model} {A : Around} {E : Value → Shared → Prop} {x : Str} {e : Ent} {v : Value} {Q : Unit → Shared → Prop} (I : InFn s₀ F₀ W X env σ s) (G : EnvG env) (hk : env.kindOf x = some .local)
    (hv : Holds (Ff F₀ s₀.heap (W ++ X)) s.heap e v) (h : ∀ s', InFn s₀ F₀ W X env ((x, e) :: σ) s' → (∀ b o, b ≠ env.locals → s.heap.get? b = some o → s'.heap.get? b = some o) → (∀ L, FrameAt s.heap L → FrameAt s'.heap L) → Q () s') : wpAny M A (storeName env x v) Q E s := by
  obtain ⟨m, hn, hvs⟩ := I.lay.ns
  rw [storeName_local hk (by rw [G.kind]; rfl)]
  refine nsSet_cls hn fun h' hn' hs hfr => ?_
  obtain ⟨c1, c2, c3⟩ := I.change (tk := s.toks + 1) (List.mem_append_left _ I.loc) hs.extBut (Nat.le_succ _) (ns_some hn') (ns_soft hn)
  have keepF : ∀ a o, Ff F₀ s₀.heap (W ++ X) a → a ≠ tab0 → NFr o → s.heap.get? a = some o → h'.get? a = some o := fun a o f _ _ e => hs.extBut a o (fun z => I.lay.nL (z ▸ f)) e
  refine h _ ⟨c1, c2, ⟨⟨_, hn', fun y ey hy => ?_⟩, I.lay.nL, I.lay.nT, fun y cc hc => ?_, I.lay.apart⟩, I.new, c3, I.loc, I.nmu, I.f0⟩ (fun b o n e => hs.extBut b o n e) (fun L f => by
    by_cases z : L = env.locals
    · rw [z] at f ⊢; exact hfr f
    · obtain ⟨o, es, ep, e, r⟩ := f; exact ⟨o, es, ep, hs.extBut _ _ z e, r⟩)
  · rw [List.lookup_cons] at hy
    by_cases hyx : y = x
    · subst hyx
      rw [show (y == y) = true from beq_self_eq_true y] at hy
      obtain rfl := Option.some.inj hy
      exact ⟨v, hv.mono (fun _ _ f => f) keepF, .inl ⟨hk, if_pos rfl⟩⟩
    · rw [beq_false_of_ne hyx] at hy
      obtain ⟨u, hu, q⟩ := hvs y ey hy
      refine ⟨u, hu.mono (fun _ _ f => f) keepF, ?_⟩
      rcases q with ⟨q1, q2⟩ | ⟨q1, cc, q2, q3⟩
      · exact .inl ⟨q1, (if_neg hyx).trans q2⟩
      · exact .inr ⟨q1, cc, q2, q3.sameBut hs (dict_ne_cell hn q3)⟩
  · obtain ⟨⟨u, hu⟩, b⟩ := I.lay.cell y cc hc
    exact ⟨⟨u, hu.sameBut hs (dict_ne_cell hn hu)⟩, b⟩

theorem storeCell {M : Model} {A : Around} {E : Value → Shared → Prop} {x : Str} {e : Ent} {v : Value} {cc : Addr} {Q : Unit → Shared → Prop} (I : InFn s₀ F₀ W X env σ s) (G : EnvG env) (hk : env.kindOf x = some .cell)
    (hc : env.cells.lookup x = some cc) (hm : cc ∈ W)
    (hv : Holds (Ff F₀ s₀.heap (W ++ X)) s.heap e v) (h : ∀ s', InFn s₀ F₀ W X env ((x, e) :: σ) s' → (∀ b o, b ≠ cc → s.heap.get? b = some o → s'.heap.get? b = some o) → (∀ L, FrameAt s.heap L → FrameAt s'.heap L) → Q () s') : wpAny M A (storeName env x v) Q E s := by
  obtain ⟨m, hn, hvs⟩ := I.lay.ns
  obtain ⟨⟨v₀, hv₀⟩, nF, nT⟩ := I.lay.cell x cc hc
  refine wpAny_storeName_cell G.kind hk hc hv₀ fun h' hc' hs => ?_
  have nL := dict_ne_cell hn hv₀
  obtain ⟨c1, c2, c3⟩ := I.change (tk := s.toks) (List.mem_append_left _ hm) hs.extBut (Nat.le_refl _) ((by obtain ⟨o, e, _⟩ := hc'; exact ⟨o, e⟩)) (cell_soft hv₀)
  have keepF : ∀ a o, Ff F₀ s₀.heap (W ++ X) a → a ≠ tab0 → NFr o → s.heap.get? a = some o → h'.get? a = some o := fun a o f _ _ e => hs.extBut a o (fun z => nF (z ▸ f)) e
  refine h _ ⟨c1, c2, ⟨⟨m, hn.sameBut hs (Ne.symm nL), fun y ey hy => ?_⟩, I.lay.nL, I.lay.nT, fun y c2 hc2 => ?_, I.lay.apart⟩, I.new, c3, I.loc, I.nmu, I.f0⟩ (fun b o n e => hs.extBut b o n e) (fun L f => (by obtain ⟨oc, ec, dc⟩ := hv₀; exact f.but ec (fun _ _ z => by rw [dc] at z; injection z) fun b o n e => hs.extBut b o n e))
  · rw [List.lookup_cons] at hy
    by_cases hyx : y = x
    · subst hyx
      rw [show (y == y) = true from beq_self_eq_true y] at hy
      obtain rfl := Option.some.inj hy
      exact ⟨v, hv.mono (fun _ _ f => f) keepF, .inr ⟨.inl hk, cc, hc, hc'⟩⟩
    · rw [beq_false_of_ne hyx] at hy
      obtain ⟨u, hu, q⟩ := hvs y ey hy
      refine ⟨u, hu.mono (fun _ _ f => f) keepF, ?_⟩
      rcases q with ⟨q1, q2⟩ | ⟨q1, c2, q2, q3⟩
      · exact .inl ⟨q1, q2⟩
      · exact .inr ⟨q1, c2, q2, q3.sameBut hs fun z => hyx (I.lay.apart _ _ _ q2 (z ▸ hc))⟩
  · obtain ⟨⟨u, hu⟩, b⟩ := I.lay.cell y c2 hc2
    by_cases z : c2 = cc
    · subst z; exact ⟨⟨_, hc'⟩, b⟩
    · exact ⟨⟨u, hu.sameBut hs z⟩, b⟩

noncomputable def CanStore (env : Env) (W : List Addr) (x : Str) : Prop := env.kindOf x = some .local ∨ (env.kindOf x = some .cell ∧ ∃ cc, env.cells.lookup x = some cc ∧ cc ∈ W)
theorem storeAny {M : Model} {A : Around} {E : Value → Shared → Prop} {x : Str} {e : Ent} {v : Value} {Q : Unit → Shared → Prop} (I : InFn s₀ F₀ W X env σ s) (G : EnvG env) (hk : CanStore env W x)
    (hv : Holds (Ff F₀ s₀.heap (W ++ X)) s.heap e v) (h : ∀ s', InFn s₀ F₀ W X env ((x, e) :: σ) s' → KB W s s' → Q () s') : wpAny M A (storeName env x v) Q E s := by
  rcases hk with hk | ⟨hk, cc, h1, h2⟩
  · exact storeLocal I G hk hv fun s' i k f => h s' i ⟨fun b o n _ _ e => k b o (fun z => n (z ▸ I.loc)) e, fun L _ x => f L x, fun L m n _ ⟨o, es, ep, e, r⟩ => ⟨o, es, ep, k L o (fun z => n (z ▸ I.loc)) e, r⟩⟩
  · exact storeCell I G hk h1 h2 hv fun s' i k f => h s' i ⟨fun b o n _ _ e => k b o (fun z => n (z ▸ h2)) e, fun L _ x => f L x, fun L m n _ ⟨o, es, ep, e, r⟩ => ⟨o, es, ep, k L o (fun z => n (z ▸ h2)) e, r⟩⟩
theorem InFn.sub {τ : Loc} (I : InFn s₀ F₀ W X env σ s) (h : ∀ x e, τ.lookup x = some e → σ.lookup x = some e) : InFn s₀ F₀ W X env τ s := by
  refine ⟨I.ks, I.tk, ⟨?_, I.lay.nL, I.lay.nT, I.lay.cell, I.lay.apart⟩, I.new, I.live, I.loc, I.nmu, I.f0⟩
  obtain ⟨m, hn, hv⟩ := I.lay.ns
  exact ⟨m, hn, fun x e hx => hv x e (h x e hx)⟩
end

inductive Out where
  | next (σ : Loc)
  | ret (e : Ent)
  | brk (σ : Loc)
  | cont (σ : Loc)
noncomputable def OutP (s₀ : Shared) (F₀ : Fz) (W X : List Addr) (env : Env) : Out → Flow → Shared → Prop
  | .next σ, f, s => f = .next ∧ InFn s₀ F₀ W X env σ s
  | .brk σ, f, s => f = .brk ∧ InFn s₀ F₀ W X env σ s
  | .cont σ, f, s => f = .cont ∧ InFn s₀ F₀ W X env σ s
  | .ret e, f, s => ∃ v, f = .ret v ∧ Ks s₀ s ∧ s₀.toks ≤ s.toks ∧ Holds (Ff F₀ s₀.heap (W ++ X)) s.heap e v

structure Ex (c : Cx) (k : Nat) (env : Env) (W : List Addr) (σ : Loc) (ss : List Stmt) (o : Out) : Prop where
  run : ∀ A s₀ F₀ X s, Room k A → EnvG env → GdS c.K A.frames s₀ s → InFn s₀ F₀ W X env σ s → wpAny (model c.prog c.w) A (execs ss env) (fun f s' => OutP s₀ F₀ W X env o f s' ∧ KB W s s') (fun _ _ => False) s
structure Ex1 (c : Cx) (k : Nat) (env : Env) (W : List Addr) (σ : Loc) (st : Stmt) (o : Out) : Prop where
  run : ∀ A s₀ F₀ X s, Room k A → EnvG env → GdS c.K A.frames s₀ s → InFn s₀ F₀ W X env σ s → wpAny (model c.prog c.w) A (exec st env) (fun f s' => OutP s₀ F₀ W X env o f s' ∧ KB W s s') (fun _ _ => False) s

section
variable {c : Cx} {k : Nat} {env : Env} {W : List Addr} {σ σ₁ : Loc} {o : Out}
theorem Ex.nil : Ex c k env W σ [] (.next σ) := ⟨fun _ _ _ _ _ _ _ _ I => wpAny_execs_nil ⟨⟨rfl, I⟩, KB.refl⟩⟩
theorem Ex.cons {st : Stmt} {ss : List Stmt} (h : Ex1 c k env W σ st (.next σ₁)) (r : Ex c k env W σ₁ ss o) : Ex c k env W σ (st :: ss) o := by
  constructor; intro A s₀ F₀ X s R G g I
  exact wpAny_execs_cons (wpAny_mono (h.run A s₀ F₀ X s R G g I) (fun f s' q => by
    obtain ⟨⟨rfl, I'⟩, kb⟩ := q
    exact wpAny_mono (r.run A s₀ F₀ X s' R G (g.kb kb) I') (fun f s'' q => ⟨q.1, kb.trans q.2⟩) fun _ _ x => x) fun _ _ x => x)
theorem Ex.stop {st : Stmt} {ss : List Stmt} (h : Ex1 c k env W σ st o) (ho : ∀ τ, o ≠ .next τ) : Ex c k env W σ (st :: ss) o := by
  constructor; intro A s₀ F₀ X s R G g I
  exact wpAny_execs_cons (wpAny_mono (h.run A s₀ F₀ X s R G g I) (fun f s' q => by
    obtain ⟨q, kb⟩ := q
    cases o with
    | next τ => exact absurd rfl (ho τ)
    | ret e => obtain ⟨v, rfl, q⟩ := q; exact ⟨⟨v, rfl, q⟩, kb⟩
    | brk τ => obtain ⟨rfl, q⟩ := q; exact ⟨⟨rfl, q⟩, kb⟩
    | cont τ => obtain ⟨rfl, q⟩ := q; exact ⟨⟨rfl, q⟩, kb⟩) fun _ _ x => x)
theorem Ex.one {st : Stmt} (h : Ex1 c k env W σ st o) : Ex c k env W σ [st] o := by
  cases o with
  | next τ => exact Ex.cons h Ex.nil
  | ret e => exact Ex.stop h fun _ h => nomatch h
  | brk τ => exact Ex.stop h fun _ h => nomatch h
  | cont τ => exact Ex.stop h fun _ h => nomatch h
theorem Ex.weak {ss : List Stmt} {τ τ' : Loc} (h : Ex c k env W σ ss (.next τ)) (hs : ∀ x e, τ'.lookup x = some e → τ.lookup x = some e) : Ex c k env W σ ss (.next τ') :=
  ⟨fun A s₀ F₀ X s R G g I => wpAny_mono (h.run A s₀ F₀ X s R G g I) (fun _ _ q => ⟨⟨q.1.1, q.1.2.sub hs⟩, q.2⟩) fun _ _ x => x⟩
theorem Ev.here {x : PySem.Expr} {e : Ent} {A : Around} {s₀ s : Shared} {F₀ : Fz} {X : List Addr} {E : Value → Shared → Prop} {Q : Value → Shared → Prop} (h : Ev c k env σ x e) (R : Room k A) (G : EnvG env) (g : GdS c.K A.frames s₀ s) (I : InFn s₀ F₀ W X env σ s)
    (q : ∀ v s', InFn s₀ F₀ W X env σ s' → Holds (Ff F₀ s₀.heap (W ++ X)) s'.heap e v → Ks s s' → s.toks ≤ s'.toks → Q v s') : wpAny (model c.prog c.w) A (eval x env) Q E s :=
  (h.run A _ s R G (I.gd g) I.lay).use fun v s' k' t' h' => q v s' (I.step k' t') (I.holds h') k' t'
theorem EvB.here {x : PySem.Expr} {b : Bool} {A : Around} {s₀ s : Shared} {F₀ : Fz} {X : List Addr} {E : Value → Shared → Prop} {Q : Bool → Shared → Prop} (h : EvB c k env σ x b) (R : Room k A) (G : EnvG env) (g : GdS c.K A.frames s₀ s) (I : InFn s₀ F₀ W X env σ s)
    (q : ∀ s', InFn s₀ F₀ W X env σ s' → Ks s s' → Q b s') : wpAny (model c.prog c.w) A (isTrue x env (eval x env)) Q E s :=
  (h.run A _ s R G (I.gd g) I.lay).use fun s' k' t' => q s' (I.step k' t') k'

theorem Ex1.assign {x : Str} {p' p : Pos} {value : PySem.Expr} {e : Ent} (h : Ev c k env σ value e) (hk : CanStore env W x) (hs : swapsWith value (some (.Name x p')) p.line env = pure false := by rfl) :
    Ex1 c k env W σ (.Assign [.Name x p'] value p) (.next ((x, e) :: σ)) := by
  constructor; intro A s₀ F₀ X s R G g I
  exact wpAny_Assign_Name (h.here R G g I fun v s' I' h' k' _ => storeAny I' G hk h' fun s'' I'' kb => ⟨⟨rfl, I''⟩, (KB.ks k').trans kb⟩) hs
theorem Ex1.aug {x : Str} {p' p : Pos} {op : Operator} {value : PySem.Expr} {e₁ e₂ e : Ent} (h : Ev c k env σ value e₂) (ho : Op2 c k (inplaceOp op) e₁ e₂ e) (hk : CanStore env W x) (hl : σ.lookup x = some e₁)
    (hc : (x == ("__classdict__" : Str)) = false := by decide) :
    Ex1 c k env W σ (.AugAssign (.Name x p') op value p) (.next ((x, e) :: σ)) := by
  constructor; intro A s₀ F₀ X s R G g I
  have ld : ∀ {Q : Value → Shared → Prop}, (∀ v, Holds (Ff F₀ s₀.heap (W ++ X)) s.heap e₁ v → Q v s) → wpAny (model c.prog c.w) A (loadName env x) Q (fun _ _ => False) s := by
    intro Q hq
    obtain ⟨m, hn, hv⟩ := I.lay.ns
    obtain ⟨v, hh, q⟩ := hv x e₁ hl
    rcases q with ⟨q1, q2⟩ | ⟨q1 | q1, cc, q2, q3⟩
    · exact wpAny_loadName_local G.kind q1 hn q2 (hq v hh)
    · exact wpAny_loadName_cell G.kind q1 q2 q3 (hq v hh)
    · exact wpAny_loadName_free G.kind q1 q2 q3 (hq v hh) hc
  refine wpAny_AugAssign_Name (ld fun v₁ h₁ => h.here R G g I fun v₂ s₂ I₂ h₂ k₂ t₂ => ?_)
  refine (ho.run A _ s₂ v₁ v₂ R (I₂.gd (g.ks k₂)) (h₁.kp k₂.kp) h₂).use fun v s₃ k₃ t₃ h₃ => ?_
  exact storeAny (I₂.step k₃ t₃) G hk (I₂.holds h₃) fun s'' I'' kb => ⟨⟨rfl, I''⟩, (KB.ks (k₂.trans k₃)).trans kb⟩
theorem Ex1.ret {x : PySem.Expr} {p : Pos} {e : Ent} (h : Ev c k env σ x e) : Ex1 c k env W σ (.Return (some x) p) (.ret e) := by
  constructor; intro A s₀ F₀ X s R G g I
  exact wpAny_Return_some (h.here R G g I fun v s' I' h' k' _ => ⟨⟨v, rfl, I'.ks, I'.tk, h'⟩, KB.ks k'⟩)
theorem Ex1.ite {t : PySem.Expr} {b o' : List Stmt} {p : Pos} {v : Bool} (ht : EvB c k env σ t v) (hb : v = true → Ex c k env W σ b o) (ho : v = false → Ex c k env W σ o' o) : Ex1 c k env W σ (.If t b o' p) o := by
  constructor; intro A s₀ F₀ X s R G g I
  refine wpAny_If (ht.here R G g I fun s' I' k' => ?_)
  cases v with
  | true => exact wpAny_mono ((hb rfl).run A s₀ F₀ X s' R G (g.ks k') I') (fun _ _ q => ⟨q.1, (KB.ks k').trans q.2⟩) fun _ _ x => x
  | false => exact wpAny_mono ((ho rfl).run A s₀ F₀ X s' R G (g.ks k') I') (fun _ _ q => ⟨q.1, (KB.ks k').trans q.2⟩) fun _ _ x => x
theorem Ex1.brk {p : Pos} : Ex1 c k env W σ (.Break p) (.brk σ) := ⟨fun A s₀ F₀ X s R G g I => wpAny_bind (wpAny_standAt (wpAny_pure ⟨⟨rfl, I⟩, KB.refl⟩))⟩
end
end Mine
end
section
open PySem PySem.Calls PySem.W
namespace Mine
variable [iO : Old]

noncomputable def alive (F : Fz) (h : Heap) : Fz := fun a => F a ∧ ∃ o, h.get? a = some o
theorem Rep.alive {F : Fz} {h : Heap} {v : Value} {d : PyData} (x : Rep F h v d) : Rep (Mine.alive F h) h v d := by
  refine Rep.rec (motive_1 := fun v d _ => Rep (Mine.alive F h) h v d) (motive_2 := fun vs ds _ => RepAll (Mine.alive F h) h vs ds) .none .bool .int .str ?_ ?_ .nil ?_ x
  · intro a o vs n xs f n' e c d r ih; exact .list ⟨f, _, e⟩ n' e c d ih
  · intro a o vs n xs f n' e c d r ih; exact .tuple ⟨f, _, e⟩ n' e c d ih
  · intro v vs d ds _ _ p q; exact .cons p q
theorem RepAll.alive {F : Fz} {h : Heap} {vs : List Value} {ds : List PyData} (x : RepAll F h vs ds) : RepAll (Mine.alive F h) h vs ds := RepAll.ind (P := RepAll (Mine.alive F h) h) .nil (fun a _ r => .cons a.alive r) x
theorem Holds.alive {F : Fz} {h : Heap} {e : Ent} {v : Value} (x : Holds F h e v) : Holds (Mine.alive F h) h e v := by
  cases e with
  | d y => exact Rep.alive x
  | v u => exact x
theorem HoldsAll.alive {F : Fz} {h : Heap} {es : List Ent} {vs : List Value} (x : HoldsAll F h es vs) : HoldsAll (Mine.alive F h) h es vs := by
  induction x with
  | nil => exact .nil
  | cons x r ih => exact .cons x.alive ih

inductive BindH (F : Fz) (h : Heap) : Loc → List (Str × Value) → Prop
  | nil : BindH F h [] []
  | cons {x e v σ bs} : Holds F h e v → BindH F h σ bs → BindH F h ((x, e) :: σ) ((x, v) :: bs)
theorem BindH.mono' {F F' : Fz} {h h' : Heap} (f : ∀ {e v}, Holds F h e v → Holds F' h' e v) {σ : Loc} {bs : List (Str × Value)} (x : BindH F h σ bs) : BindH F' h' σ bs := by
  induction x with
  | nil => exact .nil
  | cons x r ih => exact .cons (f x) ih
theorem BindH.kp {F : Fz} {h h' : Heap} (k : Kp h h') {σ : Loc} {bs : List (Str × Value)} (x : BindH F h σ bs) : BindH F h' σ bs := x.mono' fun x => x.kp k
theorem BindH.mono {F F' : Fz} {h : Heap} (hF : ∀ a, a ≠ tab0 → F a → F' a) {σ : Loc} {bs : List (Str × Value)} (x : BindH F h σ bs) : BindH F' h σ bs := x.mono' fun x => x.mono hF fun _ _ _ _ _ e => e
theorem BindH.names {F : Fz} {h : Heap} {σ : Loc} {bs : List (Str × Value)} (x : BindH F h σ bs) : bs.map (·.1) = σ.map (·.1) := by
  induction x with
  | nil => rfl
  | cons x r ih => exact congrArg (List.cons _) ih
theorem BindH.get {F : Fz} {h : Heap} {σ : Loc} {bs : List (Str × Value)} {x : Str} {e : Ent} (H : BindH F h σ bs) (hx : σ.lookup x = some e) : ∃ v, (x, v) ∈ bs ∧ Holds F h e v := by
  induction H with
  | nil => injection hx
  | @cons y e' v σ bs z r ih =>
    rw [List.lookup_cons] at hx
    by_cases hyx : x = y
    · subst hyx
      rw [show (x == x) = true from beq_self_eq_true x] at hx
      obtain rfl := Option.some.inj hx
      exact ⟨v, .head _, z⟩
    · rw [beq_false_of_ne hyx] at hx
      obtain ⟨u, m, w⟩ := ih hx
      exact ⟨u, .tail _ m, w⟩

theorem bindL_skip {kf : Str → Option NameKind} {x : Str} : ∀ {bs : List (Str × Value)} {m : Str → Option Value}, x ∉ bs.map (·.1) → bindL kf bs m x = m x := by
  intro xs
  induction xs with
  | nil =>
    intro _ _
    exact rfl
  | cons a r ih =>
    obtain ⟨n, v⟩ := a
    intro m h
    simp only [List.map_cons, List.mem_cons, not_or] at h
    unfold bindL
    rw [ih h.2]
    split
    · exact if_neg h.1
    · rfl
theorem bindC_skip {kf : Str → Option NameKind} {x : Str} : ∀ {bs : List (Str × Value)} {m : Str → Option Value}, x ∉ bs.map (·.1) → bindC kf bs m x = m x := by
  intro xs
  induction xs with
  | nil =>
    intro _ _
    exact rfl
  | cons a r ih =>
    obtain ⟨n, v⟩ := a
    intro m h
    simp only [List.map_cons, List.mem_cons, not_or] at h
    unfold bindC
    rw [ih h.2]
    split
    · rfl
    · exact if_neg h.1
theorem bindL_get {kf : Str → Option NameKind} {x : Str} {v : Value} (hk : kf x = some .local) : ∀ {bs : List (Str × Value)} {m : Str → Option Value}, (bs.map (·.1)).Nodup → (x, v) ∈ bs → bindL kf bs m x = some v := by
  intro xs
  induction xs with
  | nil =>
    intro m _ h; cases h
  | cons a r ih =>
    obtain ⟨n, u⟩ := a
    intro m hn hm
    simp only [List.map_cons, List.nodup_cons] at hn
    unfold bindL
    rcases List.mem_cons.mp hm with e | hm
    · cases e
      rw [bindL_skip hn.1, if_pos hk]
      exact if_pos rfl
    · exact ih hn.2 hm
theorem bindC_get {kf : Str → Option NameKind} {x : Str} {v : Value} (hk : kf x = some .cell) : ∀ {bs : List (Str × Value)} {m : Str → Option Value}, (bs.map (·.1)).Nodup → (x, v) ∈ bs → bindC kf bs m x = some v := by
  intro xs
  induction xs with
  | nil =>
    intro m _ h; cases h
  | cons a r ih =>
    obtain ⟨n, u⟩ := a
    intro m hn hm
    simp only [List.map_cons, List.nodup_cons] at hn
    unfold bindC
    rcases List.mem_cons.mp hm with e | hm
    · cases e
      rw [bindC_skip hn.1, if_neg (by rw [hk]; decide)]
      exact if_pos rfl
    · exact ih hn.2 hm

theorem beyond {K : Frag} {s s₁ : Shared} (k : Ks s s₁) {fr : Option (List Env)} (g : Gd K fr s₁) {a : Addr} (h : s₁.heap.objs.size ≤ a) : s.heap.get? a = none ∧ a ≠ tab0 := by
  have nt : a ≠ tab0 := by
    rintro rfl
    obtain ⟨o, e⟩ := g.tab.ex
    exact absurd (Heap.lt_size e) (Nat.not_lt.mpr h)
  refine ⟨?_, nt⟩
  cases e : s.heap.get? a with
  | none => rfl
  | some o => obtain ⟨_, q⟩ := k.kp.live nt e; exact absurd (Heap.lt_size q) (Nat.not_lt.mpr h)

section
variable {M : Model} {A : Around} {E : Value → Shared → Prop} {s₀ s : Shared} {env : Env}
theorem stL' {n : Str} {v : Value} {m cm : Str → Option Value} {Q : Unit → Shared → Prop} (x : InCallC s₀ env.locals m env.cells cm s) (f : FrameAt s.heap env.locals) (hk : env.scope.kind = .function) (hl : env.kindOf n = some .local)
    (h : ∀ s', InCallC s₀ env.locals (fun y => if y = n then some v else m y) env.cells cm s' → FrameAt s'.heap env.locals → Q () s') : wpAny M A (storeName env n v) Q E s := by
  rw [storeName_local hl (by rw [hk]; rfl)]
  refine nsSet_cls x.toInCall.ns fun h' hn hs hf => h _ ⟨⟨?_, hn, fun b o e => ?_, x.toInCall.fresh⟩, fun k c hc => (x.cell k c hc).sameBut hs (dict_ne_cell x.toInCall.ns (x.cell k c hc)), x.apart, x.above⟩ (hf f)
  · obtain ⟨h₁, tk, rfl⟩ := x.toInCall.same
    exact ⟨h', _, rfl⟩
  · exact hs.extBut b o (Nat.ne_of_lt (Nat.lt_of_lt_of_le (Heap.lt_size e) x.toInCall.fresh)) (x.toInCall.keep b o e)
theorem stC' {n : Str} {v : Value} {m cm : Str → Option Value} {c : Addr} {Q : Unit → Shared → Prop} (x : InCallC s₀ env.locals m env.cells cm s) (f : FrameAt s.heap env.locals) (hk : env.scope.kind = .function) (hl : env.kindOf n = some .cell) (hc : env.cells.lookup n = some c)
    (h : ∀ s', InCallC s₀ env.locals m env.cells (fun y => if y = n then some v else cm y) s' → FrameAt s'.heap env.locals → Q () s') : wpAny M A (storeName env n v) Q E s := by
  have hLc := x.above n c (mem_of_lookup hc)
  have hcc := x.cell n c hc
  refine wpAny_storeName_cell hk hl hc (x.cell n c hc) fun h' hc' hs' => h _ ⟨⟨?_, x.toInCall.ns.sameBut hs' (Nat.ne_of_lt hLc), fun b o e => ?_, x.toInCall.fresh⟩, fun k c' hk' => ?_, x.apart, x.above⟩ ?_
  · obtain ⟨h₁, tk, rfl⟩ := x.toInCall.same
    exact ⟨h', _, rfl⟩
  · exact hs'.extBut b o (Nat.ne_of_lt (Nat.lt_trans (Nat.lt_of_lt_of_le (Heap.lt_size e) x.toInCall.fresh) hLc)) (x.toInCall.keep b o e)
  · by_cases hkn : k = n
    · subst hkn
      rw [hc] at hk'; obtain rfl := Option.some.inj hk'
      rw [if_pos rfl]; exact hc'
    · rw [if_neg hkn]
      exact (x.cell k c' hk').sameBut hs' fun e => hkn (name_of_addr x.apart (mem_of_lookup hk') (e ▸ mem_of_lookup hc))
  · obtain ⟨oc, ec, dc⟩ := hcc
    exact f.but ec (fun _ _ z => by rw [dc] at z; injection z) fun b o n e => hs'.extBut b o n e
theorem bindParams' (f : Str × Value → PUnit → Sem (ForInStep PUnit)) (hf : ∀ n v u, f (n, v) u = (do storeName env n v; pure (.yield ⟨⟩))) (hk : env.scope.kind = .function) :
    ∀ (binds : List (Str × Value)) (m cm : Str → Option Value) (s : Shared) (Q : PUnit → Shared → Prop), InCallC s₀ env.locals m env.cells cm s → FrameAt s.heap env.locals →
      (∀ x ∈ binds, env.kindOf x.1 = some .local ∨ (env.kindOf x.1 = some .cell ∧ (env.cells.lookup x.1).isSome = true)) →
      (∀ s', InCallC s₀ env.locals (bindL env.kindOf binds m) env.cells (bindC env.kindOf binds cm) s' → FrameAt s'.heap env.locals → Q ⟨⟩ s') → wpAny M A (forIn binds ⟨⟩ f) Q E s := by
  intro xs
  induction xs with
  | nil =>
    intro m cm s Q x g _ h
    rw [List.forIn_nil]; exact wpAny_pure (h s x g)
  | cons a r ih =>
    obtain ⟨n, v⟩ := a
    intro m cm s Q x g hkind h
    rw [List.forIn_cons, hf]
    have hr : ∀ y ∈ r, env.kindOf y.1 = some .local ∨ (env.kindOf y.1 = some .cell ∧ (env.cells.lookup y.1).isSome = true) := fun y hy => hkind y (List.mem_cons_of_mem _ hy)
    rcases hkind (n, v) List.mem_cons_self with hl | ⟨hl, hc⟩
    · refine wpAny_bind (wpAny_bind (stL' x g hk hl fun s' x' g' => wpAny_pure (ih _ _ s' Q x' g' hr fun s'' x'' => h s'' ?_)))
      unfold bindL bindC; rw [if_pos hl, if_pos hl]; exact x''
    · obtain ⟨c, hc⟩ := Option.isSome_iff_exists.mp hc
      have hnl : ¬ env.kindOf n = some .local := by rw [hl]; decide
      refine wpAny_bind (wpAny_bind (stC' x g hk hl hc fun s' x' g' => wpAny_pure (ih _ _ s' Q x' g' hr fun s'' x'' => h s'' ?_)))
      unfold bindL bindC; rw [if_neg hnl, if_neg hnl]; exact x''
end
section
variable {M : Model} {A : Around} {E : Value → Shared → Prop} {s : Shared}
theorem newEnv_cells {scope : Scope} {globals : Addr} {binds : List (Str × Value)} {qual : Str} {func : Option Addr} {code : Value} {builtins : Addr} {Q : Env → Shared → Prop}
    (hk : scope.kind = .function)
    (hkind : ∀ x ∈ binds, scope.names.lookup x.1 = some .local ∨ (scope.names.lookup x.1 = some .cell ∧ ((cellsFrom (s.heap.objs.size + 1) scope.names []).lookup x.1).isSome = true))
    (hQ : ∀ env, env = newEnv scope s.heap.objs.size globals (cellsFrom (s.heap.objs.size + 1) scope.names []) qual func code none builtins →
      ∀ s', InCallC s env.locals (bindL env.kindOf binds fun _ => none) env.cells (bindC env.kindOf binds fun _ => none) s' → FrameAt s'.heap env.locals → Q env s') :
    wpAny M A (newFunctionEnv scope globals [] binds qual func code none builtins) Q E s := by
  simp only [newFunctionEnv, Option.isSome_none, Bool.false_eq_true, if_false]
  refine wpAny_bind (wpAny_alloc ?_)
  refine wpAny_bind (wpAny_layCells _ (fun name kind cells => by cases hkc : kind == NameKind.cell <;> simp [hkc]) _ _ _ _ ?_)
  have ok := cellsFrom_ok scope.names (s.heap.push { cls := .type "frame", data := .dict #[] }) (s.heap.objs.size + 1) [] ⟨fun _ _ hm => (nomatch hm), List.Pairwise.nil⟩ (by rw [Heap.size_push]; exact Nat.le_refl _)
  rw [Heap.size_push] at ok
  rw [show ({ s with heap := s.heap.push { cls := .type "frame", data := .dict #[] } } : Shared).heap.objs.size = s.heap.objs.size + 1 from Heap.size_push ..]
  refine wpAny_bind (bindParams' (s₀ := s) (env := newEnv scope s.heap.objs.size globals (cellsFrom (s.heap.objs.size + 1) scope.names []) qual func code none builtins)
    _ (fun _ _ _ => rfl) hk binds (fun _ => none) (fun _ => none) _ _
    ⟨⟨⟨_, _, rfl⟩, (Heap.Ns.new s.heap (.type "frame")).keeps (pushCells_keeps _ _), fun b o e => pushCells_keeps _ _ b o (Heap.get?_push_of_some _ e), Nat.le_refl _⟩,
      fun n c hc => (ok.empty n c (mem_of_lookup hc)).1, ok.apart, fun n c hm => (ok.empty n c hm).2⟩ ⟨_, _, _, pushCells_keeps _ _ _ _ (Heap.get?_push_size _ rfl), rfl, rfl⟩
    hkind fun s' x f => wpAny_pure (hQ _ rfl s' x f))
end
noncomputable abbrev muOf (env : Env) : List Addr := env.locals :: env.cells.map (·.2)
section
variable {c : Cx} {k : Nat}
theorem fn_of {a : Addr} {o : Obj} {fd : FuncData} {body : List Stmt} {σ₀ : Loc} {es : List Ent} {e : Ent}
    (hx : ∀ L, Ex c k (callEnvC fd L a) (muOf (callEnvC fd L a)) σ₀ body (.ret e))
    (hb : ∀ A F s vs, Gd c.K A.frames s → HoldsAll F s.heap es vs → wpAny (model c.prog c.w) A (bindArgs fd ⟨vs, []⟩) (fun bs s₁ => Ks s s₁ ∧ BindH (F.ext s.heap) s₁.heap σ₀ bs) (fun _ _ => False) s)
    (ho : c.K.lookup a = some o) (hd : o.data = .func fd) (hbody : fd.body = .stmts body) (hcode : codeIn c.K fd.code fd.qualname = true) (hclo : fd.closure = []) (hgl : fd.globals = mainGlobals) (hbi : fd.builtins = builtinsNs)
    (hco : fd.scope.isCoroutine = false) (hgen : fd.scope.isGenerator = false) (hk : fd.scope.kind = .function) (hnd : (σ₀.map (·.1)).Nodup) (hcn : ((cellsFrom 0 fd.scope.names []).map (·.1)).Nodup)
    (hkind : ∀ n, ∀ x ∈ σ₀.map (·.1), fd.scope.names.lookup x = some .local ∨ (fd.scope.names.lookup x = some .cell ∧ ((cellsFrom n fd.scope.names []).lookup x).isSome = true)) : FnC c (k + 1) (.ref a) es e := by
  constructor; intro A F s vs R g hvs
  refine wpAny_call (codeAny_call_function (R.depth) (g.inK _ _ ho) hd hco hgen hbody (codeRec_of g.inK hcode) ?_)
  refine wpAny_mono (wpAny_toks_of (n := s.toks) (Nat.le_refl _) (hb A.in1 (alive F s.heap) s vs g hvs.alive)) (fun bs s₁ q => ?_) fun _ _ x => x.2.elim
  obtain ⟨t₁, k₁, hbs⟩ := q
  have g₁ := g.ks k₁ t₁
  rw [hclo]
  have hnd' : (bs.map (·.1)).Nodup := by rw [hbs.names]; exact hnd
  refine wpAny_mono (wpAny_toks_of (n := s₁.toks) (Nat.le_refl _) (newEnv_cells (Q := fun env s₂ => env = callEnvC fd s₁.heap.objs.size a ∧ FrameAt s₂.heap env.locals ∧ InCallC s₁ env.locals (bindL env.kindOf bs fun _ => none) env.cells (bindC env.kindOf bs fun _ => none) s₂)
    (E := fun _ _ => False) hk (fun x hx => hkind _ x.1 (by rw [← hbs.names]; exact List.mem_map_of_mem hx)) fun env he s' x f => ⟨he, f, x⟩)) (fun env s₂ q => ?_) fun _ _ x => x.2.elim
  obtain ⟨t₂, rfl, X0, X⟩ := q
  generalize hL : s₁.heap.objs.size = L at X X0
  have eL : (callEnvC fd L a).locals = L := rfl
  obtain ⟨h₂, tk₂, rfl⟩ := X.toInCall.same
  have k₂ : Ks s₁ { s₁ with heap := h₂, toks := tk₂ } := Ks.mk (Kp.of X.toInCall.keep)
  have g₂ : Gd c.K A.frames { s₁ with heap := h₂, toks := tk₂ } := g₁.ks k₂ t₂
  refine ⟨g₂.lim, codeAny_func ?_⟩
  have fresh : ∀ b ∈ muOf (callEnvC fd L a), s.heap.get? b = none ∧ b ≠ tab0 := fun b hb => by
    refine beyond k₁ g₁ ?_
    rcases List.mem_cons.mp hb with rfl | hb
    · exact X.toInCall.fresh
    · obtain ⟨p, hp, rfl⟩ := List.mem_map.mp hb
      exact Nat.le_of_lt (Nat.lt_of_le_of_lt X.toInCall.fresh (X.above p.1 p.2 hp))
  have notF : ∀ b ∈ muOf (callEnvC fd L a), ¬ Ff (alive F s.heap) s.heap (muOf (callEnvC fd L a) ++ []) b := fun b hb z => by
    rcases z with ⟨_, o, e⟩ | ⟨_, z⟩
    · rw [(fresh b hb).1] at e; injection e
    · exact z (by rw [List.append_nil]; exact hb)
  have cellMem : ∀ x cc, (callEnvC fd L a).cells.lookup x = some cc → cc ∈ muOf (callEnvC fd L a) := fun x cc h => .tail _ (List.mem_map_of_mem (f := (·.2)) (mem_of_lookup h))
  have I : InFn s (alive F s.heap) (muOf (callEnvC fd L a)) [] (callEnvC fd L a) σ₀ { s₁ with heap := h₂, toks := tk₂ } := by
    refine ⟨k₁.trans k₂, Nat.le_trans t₁ t₂, ⟨⟨_, X.toInCall.ns, fun x ex hx => ?_⟩, notF _ (.head _), (fresh _ (.head _)).2, fun x cc h => ⟨⟨_, X.cell x cc h⟩, notF _ (cellMem x cc h), (fresh _ (cellMem x cc h)).2⟩, fun x y cc h1 h2 => name_of_addr X.apart (mem_of_lookup h1) (mem_of_lookup h2)⟩, fun b hb => (fresh b (by rwa [List.append_nil] at hb)).1, fun b hb => ?_, .head _, fun hb => (fresh tab0 (by rwa [List.append_nil] at hb)).2 rfl, fun a f => f.2⟩
    · obtain ⟨v, hm, hv⟩ := hbs.get hx
      have hv' : Holds (Ff (alive F s.heap) s.heap (muOf (callEnvC fd L a) ++ [])) h₂ ex v := by
        have z : Holds (alive ((alive F s.heap).ext s.heap) s₁.heap) s₁.heap ex v := hv.alive
        refine z.mono (fun b n f => ?_) fun b o _ n e => k₂.kp.keep _ _ n e
        obtain ⟨f | f, o, e⟩ := f
        · exact .inl f
        · refine .inr ⟨f, fun hb => ?_⟩
          rw [List.append_nil] at hb
          have : L ≤ b := by
            rcases List.mem_cons.mp hb with rfl | hb
            · exact Nat.le_refl _
            · obtain ⟨p, hp, rfl⟩ := List.mem_map.mp hb
              exact Nat.le_of_lt (X.above p.1 p.2 hp)
          exact absurd (Heap.lt_size e) (Nat.not_lt.mpr (hL ▸ this))
      refine ⟨v, hv', ?_⟩
      rcases hkind (L + 1) x (by rw [← hbs.names]; exact List.mem_map_of_mem (f := (·.1)) hm) with hl | ⟨hl, hc⟩
      · exact .inl ⟨hl, bindL_get hl hnd' hm⟩
      · obtain ⟨cc, hcc⟩ := Option.isSome_iff_exists.mp hc
        refine .inr ⟨.inl hl, cc, hcc, ?_⟩
        have := X.cell x cc hcc
        rwa [bindC_get (kf := (callEnvC fd L a).kindOf) hl hnd' hm] at this
    · rw [List.append_nil] at hb
      rcases List.mem_cons.mp hb with rfl | hb
      · exact ns_some X.toInCall.ns
      · obtain ⟨p, hp, rfl⟩ := List.mem_map.mp hb
        have hn2 : ((callEnvC fd L a).cells.map (·.1)).Nodup := by
          rw [show (callEnvC fd L a).cells.map (·.1) = (cellsFrom 0 fd.scope.names []).map (·.1) from PyProof.Rows.cellsFrom_names _ _ _ _ _ rfl]; exact hcn
        obtain ⟨o, e, _⟩ := X.cell p.1 p.2 (PyProof.Rows.lookup_of_mem_nodup hn2 hp)
        exact ⟨o, e⟩
  refine wpAny_mono ((hx L).run _ s (alive F s.heap) [] _ (R.deeper _) ⟨hk, hgl, hbi⟩ ⟨g.toGdH, g.tok, g₂.fr.deeper (by show fd.scope.kind ≠ _; rw [hk]; decide) rfl (fresh L (.head _)).2 (g.nold (fresh L (.head _)).1) X0⟩ I) (fun f s' q => ?_) fun _ _ x => x.elim
  obtain ⟨⟨v, rfl, k', t', h'⟩, _⟩ := q
  refine ⟨k', h'.mono (fun b n f => ?_) fun _ _ _ _ _ e => e⟩
  rcases f with ⟨f, _⟩ | ⟨f, _⟩
  · exact .inl f
  · exact .inr f
end
end Mine
namespace Mine
variable [iO : Old]
structure FnOk (c : Cx) (a : Addr) (fd : FuncData) (body : List Stmt) (ns : List Str) : Prop where
  ho : ∃ o, c.K.lookup a = some o ∧ o.data = .func fd
  hbody : fd.body = .stmts body
  hcode : codeIn c.K fd.code fd.qualname = true
  hclo : fd.closure = []
  hgl : fd.globals = mainGlobals
  hbi : fd.builtins = builtinsNs
  hco : fd.scope.isCoroutine = false
  hgen : fd.scope.isGenerator = false
  hk : fd.scope.kind = .function
  hnd : ns.Nodup
  hcn : ((cellsFrom 0 fd.scope.names []).map (·.1)).Nodup
  hnf : fd.scope.names.all (fun x => x.2 != .free) = true
  hkind : ∀ x ∈ ns, fd.scope.names.lookup x = some .local ∨ (fd.scope.names.lookup x = some .cell ∧ ((cellsFrom 0 fd.scope.names []).lookup x).isSome = true)
theorem lookup_some_iff {α β : Type} {l : List (Str × α)} {l' : List (Str × β)} {x : Str} (e : l.map (·.1) = l'.map (·.1)) (h : (l.lookup x).isSome = true) : (l'.lookup x).isSome = true := by
  induction l generalizing l' with
  | nil => injection h
  | cons a r ih => cases l' with
    | nil => injection e
    | cons b r' =>
      obtain ⟨n, u⟩ := a; obtain ⟨n', u'⟩ := b
      obtain ⟨e1, e2⟩ := List.cons.inj e
      obtain rfl : n = n' := e1
      rw [List.lookup_cons] at h ⊢
      cases q : x == n with
      | true => rfl
      | false => rw [q] at h; exact ih e2 h
structure EnvT (env : Env) (names : List (Str × NameKind)) (Mu : List Addr) : Prop where
  g : EnvG env
  kind : ∀ {x k}, names.lookup x = some k → k ≠ .free → env.kindOf x = some k
  fr : ∀ x, names.lookup x = some .free → (env.kindOf x = some .free ∨ env.kindOf x = some .cell) ∧ ∃ cc, env.cells.lookup x = some cc
  own : ∀ x, names.lookup x = some .cell → ∃ cc, env.cells.lookup x = some cc ∧ cc ∈ Mu
theorem cellsFrom_has : ∀ (names : List (Str × NameKind)) (n : Nat) (acc : List (Str × Addr)) (x : Str), (∃ cc, acc.lookup x = some cc) ∨ (x, NameKind.cell) ∈ names → ∃ cc, (cellsFrom n names acc).lookup x = some cc := by
  intro xs
  induction xs with
  | nil =>
    intro n acc x h
    rcases h with h | h
    · exact h
    · cases h
  | cons a r ih =>
    obtain ⟨y, kd⟩ := a
    intro n acc x h
    unfold cellsFrom
    split
    · refine ih _ _ x ?_
      rcases h with ⟨cc, h⟩ | h
      · by_cases q : x = y
        · exact .inl ⟨n, by rw [q, List.lookup_cons, beq_self_eq_true]⟩
        · exact .inl ⟨cc, by rw [List.lookup_cons, beq_false_of_ne q]; exact h⟩
      · rcases List.mem_cons.mp h with e | h
        · cases e; exact .inl ⟨n, by rw [List.lookup_cons, beq_self_eq_true]⟩
        · exact .inr h
    · rename_i hk
      refine ih _ _ x ?_
      rcases h with h | h
      · exact .inl h
      · rcases List.mem_cons.mp h with e | h
        · cases e; exact absurd rfl hk
        · exact .inr h
theorem callT {fd : FuncData} {L a : Addr} (hk : fd.scope.kind = .function) (hgl : fd.globals = mainGlobals) (hbi : fd.builtins = builtinsNs) (hnf : fd.scope.names.all (fun x => x.2 != .free) = true) : EnvT (callEnvC fd L a) fd.scope.names (muOf (callEnvC fd L a)) :=
  ⟨⟨hk, hgl, hbi⟩, fun h _ => h, fun x hx => by
    have := List.all_eq_true.mp hnf _ (mem_of_lookup hx)
    simp at this, fun x hx => by
    obtain ⟨cc, h⟩ := cellsFrom_has fd.scope.names (L + 1) [] x (.inr (mem_of_lookup hx))
    exact ⟨cc, h, .tail _ (List.mem_map_of_mem (f := (·.2)) (mem_of_lookup h))⟩⟩
theorem EnvT.store {env : Env} {names : List (Str × NameKind)} {Mu : List Addr} (T : EnvT env names Mu) {x : Str} (h : names.lookup x = some .local ∨ names.lookup x = some .cell) : CanStore env Mu x := by
  rcases h with h | h
  · exact .inl (T.kind h (by decide))
  · exact .inr ⟨T.kind h (by decide), T.own x h⟩
theorem Ev.globT {c : Cx} {k : Nat} {env : Env} {σ : Loc} {names : List (Str × NameKind)} {Mu : List Addr} {x : Str} {p : Pos} {v : Value} (T : EnvT env names Mu) (e : nsIn c.K mainGlobals x = some (some v)) (hx : names.lookup x = some .globalImplicit) (hd : (x == ("__debug__" : Str)) = false := by decide) : Ev c k env σ (.Name x p) (.v v) := Ev.glob e (T.kind hx (by decide)) hd
theorem Ev.biT {c : Cx} {k : Nat} {env : Env} {σ : Loc} {names : List (Str × NameKind)} {Mu : List Addr} {x : Str} {p : Pos} {v : Value} (T : EnvT env names Mu) (e : nsIn c.K mainGlobals x = some none) (hb : bootBuiltins x = some v) (hx : names.lookup x = some .globalImplicit) (hn : x ≠ "__name__" := by decide) (hd : (x == ("__debug__" : Str)) = false := by decide) :
    Ev c k env σ (.Name x p) (.v v) := Ev.bi e hb (T.kind hx (by decide)) hn hd
section
variable {c : Cx} {k : Nat} {a : Addr} {fd : FuncData} {body : List Stmt}
theorem FnOk.fn {ns : List Str} {es' es : List Ent} {e : Ent} (H : FnOk c a fd body ns) (hl : ns.length = es'.length) (hx : ∀ env Mu, EnvT env fd.scope.names Mu → Ex c k env Mu (ns.zip es') body (.ret e))
    (hb : ∀ A F s vs, Gd c.K A.frames s → HoldsAll F s.heap es vs → wpAny (model c.prog c.w) A (bindArgs fd ⟨vs, []⟩) (fun bs s₁ => Ks s s₁ ∧ BindH (F.ext s.heap) s₁.heap (ns.zip es') bs) (fun _ _ => False) s) : FnC c (k + 1) (.ref a) es e := by
  obtain ⟨o, ho, hd⟩ := H.ho
  have en : (ns.zip es').map (·.1) = ns := by rw [List.map_fst_zip]; lia
  refine fn_of (fun L => hx _ _ (callT H.hk H.hgl H.hbi H.hnf)) hb ho hd H.hbody H.hcode H.hclo H.hgl H.hbi H.hco H.hgen H.hk (by rw [en]; exact H.hnd) H.hcn fun n x hx => ?_
  rw [en] at hx
  rcases H.hkind x hx with h | ⟨h, h2⟩
  · exact .inl h
  · exact .inr ⟨h, lookup_some_iff (PyProof.Rows.cellsFrom_names _ _ _ _ _ rfl) h2⟩
theorem bindAll {F : Fz} {h : Heap} {ns : List Str} {es : List Ent} {vs : List Value} (e : ns.length = es.length) (x : HoldsAll F h es vs) : BindH F h (ns.zip es) (ns.zip vs) := by
  induction x generalizing ns with
  | nil => cases ns with
    | nil => exact .nil
    | cons => injection e
  | cons x r ih => cases ns with
    | nil => injection e
    | cons a ns => exact .cons x (ih (Nat.succ.inj e))
theorem HoldsAll.len {F : Fz} {h : Heap} {es : List Ent} {vs : List Value} (x : HoldsAll F h es vs) : vs.length = es.length := by
  induction x with
  | nil => rfl
  | cons x r ih => exact congrArg (· + 1) ih
theorem FnOk.plain {ns : List Str} {es : List Ent} {e : Ent} (H : FnOk c a fd body ns) (hl : ns.length = es.length) (hx : ∀ env Mu, EnvT env fd.scope.names Mu → Ex c k env Mu (ns.zip es) body (.ret e))
    (hb : ∀ vs : List Value, vs.length = ns.length → bindArgs fd ⟨vs, []⟩ = pure (ns.zip vs)) : FnC c (k + 1) (.ref a) es e :=
  H.fn hl hx fun A F s vs g h => by
    rw [hb vs (h.len.trans hl.symm)]
    exact wpAny_pure ⟨Ks.refl _, (bindAll hl h).mono fun _ _ f => .inl f⟩
end
theorem binds1 {fd : FuncData} {x : Str} (h : ∀ v, bindArgs fd ⟨[v], []⟩ = pure [(x, v)]) (vs : List Value) (e : vs.length = [x].length) : bindArgs fd ⟨vs, []⟩ = pure ([x].zip vs) := by
  obtain ⟨v, rfl⟩ := List.length_eq_one_iff.mp e; exact h v
theorem binds2 {fd : FuncData} {x y : Str} (h : ∀ v u, bindArgs fd ⟨[v, u], []⟩ = pure [(x, v), (y, u)]) (vs : List Value) (e : vs.length = [x, y].length) : bindArgs fd ⟨vs, []⟩ = pure ([x, y].zip vs) := by
  cases vs with
  | nil => injection e
  | cons v r => obtain ⟨u, rfl⟩ := List.length_eq_one_iff.mp (Nat.succ.inj e); exact h v u
end Mine
end
section
open PySem PySem.Calls PySem.W
namespace Mine
variable [iO : Old]

theorem HoldsAll.get {F : Fz} {h : Heap} {es : List Ent} {vs : List Value} {i : Nat} {e : Ent} (x : HoldsAll F h es vs) (q : es[i]? = some e) : ∃ v, vs[i]? = some v ∧ Holds F h e v := by
  induction x generalizing i with
  | nil => injection q
  | cons x r ih => cases i with
    | zero => obtain rfl := Option.some.inj q; exact ⟨_, rfl, x⟩
    | succ i => exact ih q

theorem nfr_of {o : Obj} {T : String} (c : o.cls = .type T) (h : T ≠ "frame" := by decide) : NFr o := fun z => h (Value.type.inj (c.symm.trans z))
theorem nf_of {h : Heap} {a : Addr} {o : Obj} (e : h.get? a = some o) (n : NFr o) : ¬ FrameAt h a := fun ⟨_, _, _, e', c, _⟩ => by rw [e] at e'; obtain rfl := Option.some.inj e'; exact n c
theorem li_nf {h h' : Heap} {a l : Addr} {i : Nat} (x : h.IsListIter a l i) (k : ∀ o, NFr o → h.get? a = some o → h'.get? a = some o) : h'.IsListIter a l i := by obtain ⟨o, e, c, d⟩ := x; exact ⟨o, k o (nfr_of c) e, c, d⟩
theorem l_nf {h h' : Heap} {a : Addr} {vs : Array Value} (x : h.IsList a vs) (k : ∀ o, NFr o → h.get? a = some o → h'.get? a = some o) : h'.IsList a vs := by obtain ⟨o, e, c, d⟩ := x; exact ⟨o, k o (nfr_of c) e, c, d⟩
theorem t_nf {h h' : Heap} {a : Addr} {vs : Array Value} (x : h.IsTuple a vs) (k : ∀ o, NFr o → h.get? a = some o → h'.get? a = some o) : h'.IsTuple a vs := by obtain ⟨o, e, c, d⟩ := x; exact ⟨o, k o (nfr_of c) e, c, d⟩
theorem ti_nf {h h' : Heap} {a l : Addr} {i : Nat} (x : h.IsTupleIter a l i) (k : ∀ o, NFr o → h.get? a = some o → h'.get? a = some o) : h'.IsTupleIter a l i := by obtain ⟨o, e, c, d⟩ := x; exact ⟨o, k o (nfr_of c) e, c, d⟩
noncomputable abbrev KeepBut (wr : List Addr) (h h' : Heap) : Prop := ∀ b o, b ∉ wr → h.get? b = some o → h'.get? b = some o

structure Iter (c : Cx) (A : Around) (G fp : Fz) (it : Value) (wr : List Addr) (items : List Ent) (At : Nat → Shared → Prop) : Prop where
  next : ∀ i s e (Q : Option Value → Shared → Prop) (E : Value → Shared → Prop), items[i]? = some e → At i s →
    (∀ v h' tk, KeepBut wr s.heap h' → At (i + 1) { s with heap := h', toks := tk } → Holds (G.ext s.heap) h' e v → Q (some v) { s with heap := h', toks := tk }) → wpAny (model c.prog c.w) A (pyNext it) Q E s
  done : ∀ s (Q : Option Value → Shared → Prop) (E : Value → Shared → Prop), At items.length s → (∀ h' tk, KeepBut wr s.heap h' → Q none { s with heap := h', toks := tk }) → wpAny (model c.prog c.w) A (pyNext it) Q E s
  frame : ∀ i s s', At i s → (∀ b o, fp b → b ≠ tab0 → NFr o → s.heap.get? b = some o → s'.heap.get? b = some o) → At i s'
  nf : ∀ i s, At i s → ∀ b ∈ wr, ¬ FrameAt s.heap b
  live : ∀ i s, At i s → ∀ b ∈ wr, ∃ o, s.heap.get? b = some o
  soft : ∀ i s, At i s → ∀ b ∈ wr, ∀ o, s.heap.get? b = some o → Soft o
  go : ∀ i elts q p T s (Q : Unit → Shared → Prop) (E : Value → Shared → Prop), At i s → Q () s → wpAny (model c.prog c.w) A (letOwnedTupleGo (.Tuple elts q p) it (.ref T)) Q E s
  self : ∀ s (Q : Value → Shared → Prop) (E : Value → Shared → Prop), At 0 s → Q it s → wpAny (model c.prog c.w) A (pyIter it) Q E s

theorem Iter.tab {c : Cx} {A : Around} {G fp : Fz} {it : Value} {wr : List Addr} {items : List Ent} {At : Nat → Shared → Prop} (x : Iter c A G fp it wr items At) {i : Nat} {s : Shared} {h' : Heap} (a : At i s) (k : KeepBut wr s.heap h') : Tab s.heap → Tab h' :=
  fun T => T.but (P := (· ∈ wr)) (fun b o m e => x.soft i s a b m o e) k
noncomputable def Opened (c : Cx) (A : Around) (F : Fz) (s : Shared) (items : List Ent) (it : Value) (s' : Shared) : Prop :=
  Ks s s' ∧ ∃ wr fp At, (∀ a ∈ wr, s.heap.get? a = none ∧ a ≠ tab0) ∧ Iter c A (fun a => F.ext s.heap a ∧ a ∉ wr ∧ ∃ o, s'.heap.get? a = some o) fp it wr items At ∧ At 0 s' ∧ ∀ b, fp b → b ≠ tab0 → (∃ o, s'.heap.get? b = some o) ∧ (F.ext s.heap b)

section
variable {c : Cx} {k : Nat}
theorem iterList {A : Around} (hh : A.handled = none) {G : Fz} {I ax : Addr} {vs : List Value} {es : List Ent} (hne : ax ≠ I) (nI : I ≠ tab0) (nx : ax ≠ tab0) (hG : ∀ a, G a → a ≠ I) (hl : vs.length = es.length) :
    Iter c A G (fun b => b = I ∨ b = ax ∨ G b) (.ref I) [I] es (fun i s => s.heap.IsListIter I ax i ∧ s.heap.IsList ax vs.toArray ∧ HoldsAll G s.heap es vs) where
  next := fun i s e Q E he P hQ => by
    obtain ⟨a1, a2, a3⟩ := P
    obtain ⟨v, hv, hh'⟩ := a3.get he
    refine wpAny_pyNext_list_item a1 a2 (x := v) (by simpa using hv) fun h' hit' hs' => ?_
    have kp : ∀ b o, G b → b ≠ tab0 → NFr o → s.heap.get? b = some o → h'.get? b = some o := fun b o g _ _ e => hs'.extBut b o (hG b g) e
    exact hQ v h' s.toks (fun b o hb e => hs'.extBut b o (fun z => hb (z ▸ .head _)) e) ⟨hit', a2.extBut hs'.extBut hne, a3.mono (fun _ _ f => f) kp⟩ (hh'.mono (fun _ _ f => .inl f) kp)
  done := fun s Q E P hQ => by
    obtain ⟨a1, a2, a3⟩ := P
    exact wpAny_pyNext_list_end hh a1 a2 (by simp [hl]) fun h' he' => hQ h' s.toks fun b o hb e => he' b o (fun z => hb (z ▸ .head _)) e
  frame := fun i s s' P hk => by
    obtain ⟨a1, a2, a3⟩ := P
    exact ⟨li_nf a1 fun o c e => hk I o (.inl rfl) nI c e, l_nf a2 fun o c e => hk ax o (.inr (.inl rfl)) nx c e, a3.mono (fun _ _ f => f) fun a o g n c e => hk a o (.inr (.inr g)) n c e⟩
  nf := fun i s P b hb => by obtain ⟨⟨o, e, hc, _⟩, _, _⟩ := P; rw [List.mem_singleton.mp hb]; exact nf_of e (nfr_of hc)
  live := fun i s P b hb => by obtain ⟨⟨o, e, _⟩, _, _⟩ := P; rw [List.mem_singleton.mp hb]; exact ⟨o, e⟩
  soft := fun i s P b hb o' e' => by obtain ⟨⟨o, e, hc, _⟩, _, _⟩ := P; rw [List.mem_singleton.mp hb, e] at e'; obtain rfl := Option.some.inj e'; exact .inr ⟨by rw [hc]; decide, by rw [hc]; decide⟩
  go := fun i elts q p T s Q E P hQ => by
    obtain ⟨a1, _, _⟩ := P
    exact wpAny_letOwnedTupleGo_listiter a1 hQ
  self := fun s Q E P hQ => by
    obtain ⟨a1, _, _⟩ := P
    exact wpAny_pyIter_listiter a1 hQ
theorem goTuple {A : Around} {elts : List PySem.Expr} {q : Nat} {p : Pos} {I l T : Addr} {i : Nat} {s : Shared} {Q : Unit → Shared → Prop} {E : Value → Shared → Prop} (hit : s.heap.IsTupleIter I l i) (hQ : Q () s) :
    wpAny (model c.prog c.w) A (letOwnedTupleGo (.Tuple elts q p) (.ref I) (.ref T)) Q E s := by
  obtain ⟨o, ho, hc, hd⟩ := hit
  unfold letOwnedTupleGo
  refine wpAny_bind (wpAny_load ho ?_)
  rw [hc, hd]
  show wpAny _ A (if (["enumerate", "zip", "dict_itemiterator", "dict_reverseitemiterator", "odict_iterator", "itertools.zip_longest", "itertools.pairwise"].contains "tuple_iterator" &&
      (#[.ref l, .int i 0] : Array Value)[0]? == some (rawInt T)) = true then _ else _) Q E s
  rw [if_neg (by
    intro h
    rw [show (["enumerate", "zip", "dict_itemiterator", "dict_reverseitemiterator", "odict_iterator", "itertools.zip_longest", "itertools.pairwise"].contains "tuple_iterator") = false from by decide, Bool.false_and] at h
    injection h)]
  exact wpAny_pure hQ
theorem goRange {A : Around} {elts : List PySem.Expr} {q : Nat} {p : Pos} {I T : Addr} {x l st : Int} {s : Shared} {Q : Unit → Shared → Prop} {E : Value → Shared → Prop} (ho : IsRangeIter s.heap I x l st) (hQ : Q () s) :
    wpAny (model c.prog c.w) A (letOwnedTupleGo (.Tuple elts q p) (.ref I) (.ref T)) Q E s := by
  unfold letOwnedTupleGo
  refine wpAny_bind (wpAny_load ho ?_)
  show wpAny _ A (if (["enumerate", "zip", "dict_itemiterator", "dict_reverseitemiterator", "odict_iterator", "itertools.zip_longest", "itertools.pairwise"].contains "range_iterator" &&
      (#[rawInt x, rawInt l, rawInt st] : Array Value)[0]? == some (rawInt T)) = true then _ else _) Q E s
  rw [if_neg (by
    intro h
    rw [show (["enumerate", "zip", "dict_itemiterator", "dict_reverseitemiterator", "odict_iterator", "itertools.zip_longest", "itertools.pairwise"].contains "range_iterator") = false from by decide, Bool.false_and] at h
    injection h)]
  exact wpAny_pure hQ
theorem iterTuple {A : Around} (hh : A.handled = none) {G : Fz} {I ax : Addr} {vs : List Value} {es : List Ent} (hne : ax ≠ I) (nI : I ≠ tab0) (nx : ax ≠ tab0) (hG : ∀ a, G a → a ≠ I) (hl : vs.length = es.length) :
    Iter c A G (fun b => b = I ∨ b = ax ∨ G b) (.ref I) [I] es (fun i s => s.heap.IsTupleIter I ax i ∧ s.heap.IsTuple ax vs.toArray ∧ HoldsAll G s.heap es vs) where
  next := fun i s e Q E he P hQ => by
    obtain ⟨a1, a2, a3⟩ := P
    obtain ⟨v, hv, hh'⟩ := a3.get he
    refine wpAny_pyNext_tuple_item a1 a2 (x := v) (by simpa using hv) fun h' hit' hs' => ?_
    have kp : ∀ b o, G b → b ≠ tab0 → NFr o → s.heap.get? b = some o → h'.get? b = some o := fun b o g _ _ e => hs'.extBut b o (hG b g) e
    exact hQ v h' s.toks (fun b o hb e => hs'.extBut b o (fun z => hb (z ▸ .head _)) e) ⟨hit', a2.extBut hs'.extBut hne, a3.mono (fun _ _ f => f) kp⟩ (hh'.mono (fun _ _ f => .inl f) kp)
  done := fun s Q E P hQ => by
    obtain ⟨a1, a2, a3⟩ := P
    exact wpAny_pyNext_tuple_end hh a1 a2 (by simp [hl]) fun h' he' => hQ h' s.toks fun b o hb e => he' b o (fun z => hb (z ▸ .head _)) e
  frame := fun i s s' P hk => by
    obtain ⟨a1, a2, a3⟩ := P
    exact ⟨ti_nf a1 fun o c e => hk I o (.inl rfl) nI c e, t_nf a2 fun o c e => hk ax o (.inr (.inl rfl)) nx c e, a3.mono (fun _ _ f => f) fun a o g n c e => hk a o (.inr (.inr g)) n c e⟩
  nf := fun i s P b hb => by obtain ⟨⟨o, e, hc, _⟩, _, _⟩ := P; rw [List.mem_singleton.mp hb]; exact nf_of e (nfr_of hc)
  live := fun i s P b hb => by obtain ⟨⟨o, e, _⟩, _, _⟩ := P; rw [List.mem_singleton.mp hb]; exact ⟨o, e⟩
  soft := fun i s P b hb o' e' => by obtain ⟨⟨o, e, hc, _⟩, _, _⟩ := P; rw [List.mem_singleton.mp hb, e] at e'; obtain rfl := Option.some.inj e'; exact .inr ⟨by rw [hc]; decide, by rw [hc]; decide⟩
  go := fun i elts q p T s Q E P hQ => by
    obtain ⟨a1, _, _⟩ := P
    exact goTuple a1 hQ
  self := fun s Q E P hQ => by
    obtain ⟨a1, _, _⟩ := P
    exact wpAny_pyIter_tupleiter a1 hQ
noncomputable def rangeEnts (n : Nat) : List Ent := (List.range n).map fun (i : Nat) => Ent.d (.int (i : Int))
theorem rangeEnts_get {n i : Nat} {e : Ent} (h : (rangeEnts n)[i]? = some e) : i < n ∧ e = .d (.int (i : Int)) := by
  unfold rangeEnts at h
  rw [List.getElem?_map] at h
  cases q : (List.range n)[i]? with
  | none => rw [q] at h; injection h
  | some j =>
    rw [q] at h
    obtain ⟨a, b⟩ := List.getElem?_eq_some_iff.mp q
    rw [List.getElem_range] at b
    obtain rfl := Option.some.inj h
    exact ⟨by simpa using a, by rw [b]⟩
theorem iterRange {A : Around} (hh : A.handled = none) {G : Fz} {I : Addr} {n : Nat} (nI : I ≠ tab0) :
    Iter c A G (fun b => b = I) (.ref I) [I] (rangeEnts n) (fun i s => IsRangeIter s.heap I (i : Int) ((n : Int) - i) 1) where
  next := fun i s e Q E he a1 hQ => by
    obtain ⟨hi, rfl⟩ := rangeEnts_get he
    refine wpAny_pyNext_range_item a1 (by lia) fun h' hit' hs' => ?_
    refine hQ _ h' _ (fun b o hb e => hs'.extBut b o (fun z => hb (z ▸ .head _)) e) ?_ (.int _ _)
    show IsRangeIter h' I ((i + 1 : Nat) : Int) ((n : Int) - ((i + 1 : Nat) : Int)) 1
    have e2 : (n : Int) - ((i + 1 : Nat) : Int) = (n : Int) - (i : Int) - 1 := by push_cast; lia
    rw [e2]; exact hit'
  done := fun s Q E a1 hQ => wpAny_pyNext_range_end hh a1 (by simp [rangeEnts]) fun h' he' => hQ h' s.toks fun b o hb e => he' b o (fun z => hb (z ▸ .head _)) e
  frame := fun i s s' a1 hk => hk I _ rfl nI (nfr_of (T := "range_iterator") rfl) a1
  nf := fun i s a1 b hb => by rw [List.mem_singleton.mp hb]; exact nf_of a1 (nfr_of (T := "range_iterator") rfl)
  live := fun i s a1 b hb => by rw [List.mem_singleton.mp hb]; exact ⟨_, a1⟩
  soft := fun i s a1 b hb o' e' => by rw [List.mem_singleton.mp hb] at e'; rw [show s.heap.get? I = _ from a1] at e'; obtain rfl := Option.some.inj e'; exact .inr ⟨show Value.type "range_iterator" ≠ Value.type "code" by decide, show Value.type "range_iterator" ≠ Value.none by decide⟩
  go := fun i elts q p T s Q E a1 hQ => goRange a1 hQ
  self := fun s Q E a1 hQ => wpAny_pyIter_rangeiter a1 hQ

structure SrcX (c : Cx) (k : Nat) (env : Env) (σ : Loc) (iter : PySem.Expr) (items : List Ent) : Prop where
  run : ∀ A F s, Room k A → EnvG env → Gd c.K A.frames s → Lay env σ F s.heap →
    wpAny (model c.prog c.w) A (eval iter env) (fun xv s₁ => wpAny (model c.prog c.w) A (pyIter xv) (fun it s' => Opened c A F s items it s') (fun _ _ => False) s₁) (fun _ _ => False) s
  set : ∀ x, foldedSetIterable iter env x = pure x

theorem fresh_size {K : Frag} {s s₁ : Shared} (k : Ks s s₁) {fr : Option (List Env)} (g : Gd K fr s₁) : s.heap.get? s₁.heap.objs.size = none ∧ s₁.heap.objs.size ≠ tab0 := beyond k g (Nat.le_refl _)
theorem HoldsAll.ofReps {F : Fz} {h : Heap} {ds : List PyData} {vs : List Value} (r : RepAll F h vs ds) : HoldsAll (Mine.alive F h) h (ds.map .d) vs := (HoldsAll.ofRep r).alive

theorem Iter.weaken {A : Around} {G G' fp : Fz} {it : Value} {wr : List Addr} {items : List Ent} {At : Nat → Shared → Prop} (hG : ∀ a, G' a → G a) (x : Iter c A G' fp it wr items At) : Iter c A G fp it wr items At :=
  ⟨fun i s e Q E he a hQ => x.next i s e Q E he a fun v h' tk k a' hv => hQ v h' tk k a' (hv.mono (fun a _ f => f.imp (hG a) id) fun _ _ _ _ _ e => e), x.done, x.frame, x.nf, x.live, x.soft, x.go, x.self⟩

noncomputable def Gi (F : Fz) (h h₁ : Heap) (I : Addr) : Fz := fun a => (F.ext h a ∧ a ≠ I) ∧ ∃ o, h₁.get? a = some o
theorem openSeq {A : Around} {F : Fz} {s s₁ : Shared} {es : List Ent} {ax : Addr} {At : Nat → Shared → Prop} {o : Obj} (k₁ : Ks s s₁) (g₁ : Gd c.K A.frames s₁) (f : F.ext s.heap ax) (nx : ax ≠ tab0) (hx : ∃ o, s₁.heap.get? ax = some o) (ho : o.isFreed = false)
    (it : Iter c A (Gi F s.heap s₁.heap s₁.heap.objs.size) (fun b => b = s₁.heap.objs.size ∨ b = ax ∨ Gi F s.heap s₁.heap s₁.heap.objs.size b) (.ref s₁.heap.objs.size) [s₁.heap.objs.size] es At)
    (h0 : At 0 { s₁ with heap := s₁.heap.push o }) : Opened c A F s es (.ref s₁.heap.objs.size) { s₁ with heap := s₁.heap.push o } := by
  obtain ⟨f1, f2⟩ := fresh_size k₁ g₁
  have kp : Kp s₁.heap (s₁.heap.push o) := Kp.push _ _
  refine ⟨k₁.trans (Ks.mk (tk := s₁.toks) kp), [s₁.heap.objs.size], _, _, fun a ha => by rw [List.mem_singleton.mp ha]; exact ⟨f1, f2⟩, it.weaken fun a q => ⟨q.1.1, fun m => q.1.2 (List.mem_singleton.mp m), (by obtain ⟨o', e⟩ := q.2; exact ⟨o', Heap.get?_push_of_some _ e⟩)⟩, h0, ?_⟩
  rintro b (rfl | rfl | q) nb
  · exact ⟨⟨_, Heap.get?_push_size _ ho⟩, .inr f1⟩
  · exact ⟨(by obtain ⟨o', e⟩ := hx; exact kp.live nb e), f⟩
  · exact ⟨(by obtain ⟨o', e⟩ := q.2; exact kp.live nb e), q.1.1⟩
theorem HoldsAll.gi {F : Fz} {s s₁ : Shared} {ds : List PyData} {vs : List Value} {h' : Heap} (r : RepAll (F.ext s.heap) s₁.heap vs ds) (kp : Kp s₁.heap h') : HoldsAll (Gi F s.heap s₁.heap s₁.heap.objs.size) h' (ds.map .d) vs :=
  (HoldsAll.ofReps r).mono (fun a _ q => ⟨⟨q.1, fun m => by
      obtain ⟨o, e⟩ := q.2
      rw [m] at e
      exact absurd (Heap.lt_size e) (Nat.lt_irrefl _)⟩, q.2⟩) fun a o _ n e => kp.keep a o n e

theorem openList {A : Around} {F : Fz} {s s₁ : Shared} {ds : List PyData} {xv : Value} (R : Room k A) (k₁ : Ks s s₁) (g₁ : Gd c.K A.frames s₁) (h₁ : Holds (F.ext s.heap) s₁.heap (.d (.list ds)) xv) :
    wpAny (model c.prog c.w) A (pyIter xv) (fun it s' => Opened c A F s (ds.map .d) it s') (fun _ _ => False) s₁ := by
  obtain ⟨l, vs, rfl, f, n, hl, r⟩ := h₁.isList
  have hx : ∃ o, s₁.heap.get? l = some o := by obtain ⟨o, e, _⟩ := hl; exact ⟨o, e⟩
  have hll : l ≠ s₁.heap.objs.size := by obtain ⟨o, e⟩ := hx; exact Nat.ne_of_lt (Heap.lt_size e)
  exact wpAny_pyIter_list hl (openSeq k₁ g₁ f n hx rfl (iterList R.1 hll (fresh_size k₁ g₁).2 n (fun a q => q.1.2) (by rw [r.length, List.length_map])) ⟨⟨_, Heap.get?_push_size _ rfl, rfl, rfl⟩, hl.push _, HoldsAll.gi r (Kp.push _ _)⟩)
theorem openTuple {A : Around} {F : Fz} {s s₁ : Shared} {ds : List PyData} {xv : Value} (R : Room k A) (k₁ : Ks s s₁) (g₁ : Gd c.K A.frames s₁) (h₁ : Holds (F.ext s.heap) s₁.heap (.d (.tuple ds)) xv) :
    wpAny (model c.prog c.w) A (pyIter xv) (fun it s' => Opened c A F s (ds.map .d) it s') (fun _ _ => False) s₁ := by
  obtain ⟨l, vs, rfl, f, n, hl, r⟩ := h₁.isTuple
  have hx : ∃ o, s₁.heap.get? l = some o := by obtain ⟨o, e, _⟩ := hl; exact ⟨o, e⟩
  have hll : l ≠ s₁.heap.objs.size := by obtain ⟨o, e⟩ := hx; exact Nat.ne_of_lt (Heap.lt_size e)
  exact wpAny_pyIter_tuple hl (openSeq k₁ g₁ f n hx rfl (iterTuple R.1 hll (fresh_size k₁ g₁).2 n (fun a q => q.1.2) (by rw [r.length, List.length_map])) ⟨⟨_, Heap.get?_push_size _ rfl, rfl, rfl⟩, hl.push _, HoldsAll.gi r (Kp.push _ _)⟩)

theorem SrcX.list {env : Env} {σ : Loc} {iter : PySem.Expr} {ds : List PyData} (h : Ev c k env σ iter (.d (.list ds))) (hs : ∀ x, foldedSetIterable iter env x = pure x := by intro _; rfl) : SrcX c k env σ iter (ds.map .d) :=
  ⟨fun A F s R G g L => (h.run A F s R G g L).use fun xv s₁ k₁ t₁ h₁ => openList R k₁ (g.ks k₁ t₁) h₁, hs⟩
theorem SrcX.tuple {env : Env} {σ : Loc} {iter : PySem.Expr} {ds : List PyData} (h : Ev c k env σ iter (.d (.tuple ds))) (hs : ∀ x, foldedSetIterable iter env x = pure x := by intro _; rfl) : SrcX c k env σ iter (ds.map .d) :=
  ⟨fun A F s R G g L => (h.run A F s R G g L).use fun xv s₁ k₁ t₁ h₁ => openTuple R k₁ (g.ks k₁ t₁) h₁, hs⟩
theorem SrcX.range {env : Env} {σ : Loc} {e : PySem.Expr} {n : Nat} {p q : Pos} (hf : Ev c k env σ (.Name "range" q) (.v (.type "range"))) (h : Ev c k env σ e (.d (.int n))) (hn : n < 2 ^ 60) (hst : ∀ y p, e ≠ .Starred y p := by intro _ _ h; cases h) :
    SrcX c k env σ (.Call (.Name "range" q) [e] [] p) (rangeEnts n) := by
  refine ⟨fun A F s R G g L => ?_, fun _ => rfl⟩
  refine PyProof.Rows.Call_ ((hf.run A F s R G g L).use fun fv s₁ k₁ t₁ h₁ => ?_)
  obtain rfl : fv = .type "range" := h₁
  have ha : EvAll c k env σ [e] [.d (.int n)] := .cons h .nil hst
  refine callWith_type (ha.plain) ?_
  have key := spl (pos := p) R G ha (g.ks k₁ t₁) (L.kp k₁.kp)
  rw [star_cons hst] at key ⊢
  refine evalArgs_plain (wpAny_mono key (fun vs s₂ q => ?_) fun _ _ x => x)
  obtain ⟨⟨k₂, t₂⟩, hv⟩ := q
  obtain ⟨v, rfl, hv'⟩ := hv.one
  obtain ⟨t, rfl⟩ := hv'.isInt
  refine call_range_1 ?_
  have hsz : Builtin.Range.rangeSize 0 n 1 = (n : Int) := by rw [rangeSize_one]; split <;> lia
  refine wpAny_pyIter_range (IsRange.new ..) (small_one (by lia) (by lia) (by lia) (by lia)) ?_
  rw [hsz]
  have kp := Kp.push s₂.heap { cls := .type "range", data := .fields #[.int 0 s₂.toks, .int n t, .int 1 (s₂.toks + 1)] }
  have k₃ : Ks s { s₂ with heap := s₂.heap.push { cls := .type "range", data := .fields #[.int 0 s₂.toks, .int n t, .int 1 (s₂.toks + 1)] }, toks := s₂.toks + 1 + 1 } := (k₁.trans k₂).trans (Ks.mk kp)
  have g₃ := g.ks k₃ (Nat.le_trans t₁ (Nat.le_trans t₂ (Nat.le_succ_of_le (Nat.le_succ _))))
  obtain ⟨f1, f2⟩ := fresh_size k₃ g₃
  refine ⟨k₃.trans (Ks.mk (tk := s₂.toks + 1 + 1) (Kp.push _ _)), _, _, _, fun a ha => by rw [List.mem_singleton.mp ha]; exact ⟨f1, f2⟩, iterRange R.1 f2, ?_, ?_⟩
  · show IsRangeIter _ _ ((0 : Nat) : Int) ((n : Int) - ((0 : Nat) : Int)) 1
    have : (n : Int) - ((0 : Nat) : Int) = n := by simp
    rw [this]
    exact Heap.get?_push_size _ rfl
  · rintro b rfl nb
    exact ⟨⟨_, Heap.get?_push_size _ rfl⟩, .inr f1⟩
end
end Mine
end
section
open PySem PySem.Calls PySem.W
namespace Mine
variable [iO : Old]

section
variable {s₀ s s' : Shared} {F₀ : Fz} {W X wr : List Addr} {env : Env} {σ τ : Loc}
theorem Ff_le {h₀ : Heap} {a : Addr} (x : Ff F₀ h₀ (W ++ (wr ++ X)) a) : Ff F₀ h₀ (W ++ X) a := by
  rcases x with x | ⟨x, n⟩
  · exact .inl x
  · exact .inr ⟨x, fun m => n (by
      rcases List.mem_append.mp m with m | m
      · exact List.mem_append_left _ m
      · exact List.mem_append_right _ (List.mem_append_right _ m))⟩
theorem Ff_nW (I : InFn s₀ F₀ W X env σ s) {a : Addr} (x : Ff F₀ s₀.heap (W ++ X) a) : a ∉ W := fun m => by
  rcases x with x | ⟨_, n⟩
  · obtain ⟨o, e⟩ := I.f0 a x
    rw [I.new a (List.mem_append_left _ m)] at e; injection e
  · exact n (List.mem_append_left _ m)
theorem ext_nW (I : InFn s₀ F₀ W X env σ s) {a : Addr} (x : (Ff F₀ s₀.heap (W ++ X)).ext s.heap a) : a ∉ W := fun m => by
  rcases x with x | x
  · exact Ff_nW I x m
  · obtain ⟨o, e⟩ := I.live a (List.mem_append_left _ m)
    rw [e] at x; injection x
theorem InFn.nF (I : InFn s₀ F₀ W X env σ s) {a : Addr} (m : a ∈ W ++ X) : ¬ F₀ a := fun f => by
  obtain ⟨o, e⟩ := I.f0 a f
  rw [I.new a m] at e; injection e

theorem alive_grow (I : InFn s₀ F₀ W X env σ s) (hf : ∀ a ∈ wr, s.heap.get? a = none) {e : Ent} {v : Value} (x : Holds (Ff F₀ s₀.heap (W ++ X)) s.heap e v) : Holds (Ff F₀ s₀.heap (W ++ (wr ++ X))) s.heap e v :=
  x.alive.mono (fun a n q => by
    obtain ⟨q, o, e⟩ := q
    rcases q with q | ⟨q, n⟩
    · exact .inl q
    · refine .inr ⟨q, fun m => ?_⟩
      rcases List.mem_append.mp m with m | m
      · exact n (List.mem_append_left _ m)
      · rcases List.mem_append.mp m with m | m
        · rw [hf a m] at e; injection e
        · exact n (List.mem_append_right _ m)) fun _ _ _ _ _ e => e
theorem InFn.grow (I : InFn s₀ F₀ W X env σ s) (k : Ks s s') (t : s.toks ≤ s'.toks) (hf : ∀ a ∈ wr, s.heap.get? a = none ∧ a ≠ tab0) (hl : ∀ a ∈ wr, ∃ o, s'.heap.get? a = some o) : InFn s₀ F₀ W (wr ++ X) env σ s' := by
  have I' := I.step k t
  have split : ∀ {a : Addr}, a ∈ W ++ (wr ++ X) → a ∈ wr ∨ a ∈ W ++ X := fun {a} m => by
    rcases List.mem_append.mp m with m | m
    · exact .inr (List.mem_append_left _ m)
    · rcases List.mem_append.mp m with m | m
      · exact .inl m
      · exact .inr (List.mem_append_right _ m)
  refine ⟨I'.ks, I'.tk, ⟨?_, fun f => I'.lay.nL (Ff_le f), I'.lay.nT, fun x c h => ⟨(I'.lay.cell x c h).1, fun f => (I'.lay.cell x c h).2.1 (Ff_le f), (I'.lay.cell x c h).2.2⟩, I'.lay.apart⟩, fun a m => ?_, fun a m => ?_, I'.loc, fun m => ?_, I'.f0⟩
  · obtain ⟨m, hn, hv⟩ := I.lay.ns
    refine ⟨m, Ns.kp k.kp I.lay.nT hn, fun x e hx => ?_⟩
    obtain ⟨v, hh, q⟩ := hv x e hx
    refine ⟨v, (alive_grow I (fun a m => (hf a m).1) hh).kp k.kp, ?_⟩
    rcases q with q | ⟨q, c, e1, e2⟩
    · exact .inl q
    · exact .inr ⟨q, c, e1, IsCell.kp k.kp (I.lay.cell x c e1).2.2 e2⟩
  · rcases split m with m | m
    · cases e : s₀.heap.get? a with
      | none => rfl
      | some o => obtain ⟨_, q⟩ := I.ks.kp.live (hf a m).2 e; rw [(hf a m).1] at q; injection q
    · exact I.new a m
  · rcases split m with m | m
    · exact hl a m
    · exact I'.live a m
  · rcases split m with m | m
    · exact (hf _ m).2 rfl
    · exact I.nmu m

theorem InFn.turned {h' : Heap} {tk : Nat} (I : InFn s₀ F₀ W (wr ++ X) env σ s) (hk : KeepBut wr s.heap h') (t : s.toks ≤ tk) (hW : ∀ a ∈ wr, a ∉ W) (hc : ∀ x c, env.cells.lookup x = some c → c ∉ wr) (hl : ∀ a ∈ wr, ∃ o, h'.get? a = some o) (tb : Tab s.heap → Tab h') :
    InFn s₀ F₀ W (wr ++ X) env σ { s with heap := h', toks := tk } := by
  obtain ⟨h₁, t₁, e, kp⟩ := I.ks
  have nwr : ∀ a ∈ wr, a ∈ W ++ (wr ++ X) := fun a m => List.mem_append_right _ (List.mem_append_left _ m)
  have ntab : tab0 ∉ wr := fun m => I.nmu (nwr _ m)
  refine ⟨⟨h', tk, by rw [e], I.ks.kp.andThen (fun b o o₁ n q q₁ => hk b o₁ (fun m => ?_) q₁) (fun T => ?_)⟩, Nat.le_trans I.tk t, ⟨?_, I.lay.nL, I.lay.nT, fun x c h => ?_, I.lay.apart⟩, I.new, fun a m => ?_, I.loc, I.nmu, I.f0⟩
  · rw [I.new b (nwr b m)] at q; injection q
  · exact tb (I.ks.kp.tab T)
  · obtain ⟨m, hn, hv⟩ := I.lay.ns
    have hL : env.locals ∉ wr := fun m => hW _ m I.loc
    refine ⟨m, hn.at' fun o q => hk _ o hL q, fun x ex hx => ?_⟩
    obtain ⟨v, hh, q⟩ := hv x ex hx
    refine ⟨v, hh.mono (fun _ _ f => f) fun a o f n _ q => hk a o (fun m => ?_) q, ?_⟩
    · rcases f with f | ⟨_, f⟩
      · exact I.nF (nwr a m) f
      · exact f (nwr a m)
    · rcases q with q | ⟨q, c, e1, o, e2, e3⟩
      · exact .inl q
      · exact .inr ⟨q, c, e1, o, hk _ _ (hc x c e1) e2, e3⟩
  · obtain ⟨⟨v, o, e1, e2⟩, r⟩ := I.lay.cell x c h
    exact ⟨⟨v, o, hk _ _ (hc x c h) e1, e2⟩, r⟩
  · by_cases m' : a ∈ wr
    · exact hl a m'
    · obtain ⟨o, q⟩ := I.live a m
      exact ⟨o, hk _ _ m' q⟩
theorem InFn.close {σ₁ : Loc} {s₁ : Shared} {h' : Heap} {tk : Nat} (I₁ : InFn s₀ F₀ W X env σ₁ s₁) (I : InFn s₀ F₀ W (wr ++ X) env σ s) (hk : KeepBut wr s.heap h') (t : s.toks ≤ tk) (hW : ∀ a ∈ wr, a ∉ W ++ X) (hc : ∀ x c, env.cells.lookup x = some c → c ∉ wr) (tb : Tab s.heap → Tab h') :
    InFn s₀ F₀ W X env σ { s with heap := h', toks := tk } := by
  obtain ⟨h₁, t₁, e, kp⟩ := I.ks
  have nwr : ∀ a ∈ wr, a ∈ W ++ (wr ++ X) := fun a m => List.mem_append_right _ (List.mem_append_left _ m)
  have ntab : tab0 ∉ wr := fun m => I.nmu (nwr _ m)
  have up : ∀ {a : Addr}, a ∈ W ++ X → a ∈ W ++ (wr ++ X) := fun {a} m => by
    rcases List.mem_append.mp m with m | m
    · exact List.mem_append_left _ m
    · exact List.mem_append_right _ (List.mem_append_right _ m)
  refine ⟨⟨h', tk, by rw [e], I.ks.kp.andThen (fun b o o₁ n q q₁ => hk b o₁ (fun m => ?_) q₁) (fun T => ?_)⟩, Nat.le_trans I.tk t, ⟨?_, I₁.lay.nL, I₁.lay.nT, fun x c h => ?_, I₁.lay.apart⟩, I₁.new, fun a m => ?_, I₁.loc, I₁.nmu, I₁.f0⟩
  · rw [I.new b (nwr b m)] at q; injection q
  · exact tb (I.ks.kp.tab T)
  · obtain ⟨m, hn, hv⟩ := I.lay.ns
    have hL : env.locals ∉ wr := fun m => hW _ m (List.mem_append_left _ I.loc)
    refine ⟨m, hn.at' fun o q => hk _ o hL q, fun x ex hx => ?_⟩
    obtain ⟨v, hh, q⟩ := hv x ex hx
    have hh' : Holds (Ff F₀ s₀.heap (W ++ (wr ++ X))) h' ex v := hh.mono (fun _ _ f => f) fun a o f n _ q => hk a o (fun m => by
      rcases f with f | ⟨_, f⟩
      · exact I.nF (nwr a m) f
      · exact f (nwr a m)) q
    refine ⟨v, hh'.mono (fun _ _ f => Ff_le f) fun _ _ _ _ _ e => e, ?_⟩
    rcases q with q | ⟨q, c, e1, o, e2, e3⟩
    · exact .inl q
    · exact .inr ⟨q, c, e1, o, hk _ _ (hc x c e1) e2, e3⟩
  · obtain ⟨⟨v, o, e1, e2⟩, r⟩ := I.lay.cell x c h
    exact ⟨⟨v, o, hk _ _ (hc x c h) e1, e2⟩, (I₁.lay.cell x c h).2⟩
  · obtain ⟨o, q⟩ := I.live a (up m)
    exact ⟨o, hk _ _ (fun z => hW _ z m) q⟩
end

theorem RepAll.uncons {F : Fz} {h : Heap} {vs : List Value} {d : PyData} {ds : List PyData} (r : RepAll F h vs (d :: ds)) : ∃ v vs', vs = v :: vs' ∧ Rep F h v d ∧ RepAll F h vs' ds := by
  cases r with
  | cons a b => exact ⟨_, _, rfl, a, b⟩

inductive Binds : PySem.Expr → Ent → Loc → Prop
  | name {x p e} : Binds (.Name x p) e [(x, e)]
  | two {x y p q n r d₁ d₂} : Binds (.Tuple [.Name x p, .Name y q] n r) (.d (.tuple [d₁, d₂])) [(y, .d d₂), (x, .d d₁)]
  | three {x y z p q u n r d₁ d₂ d₃} : Binds (.Tuple [.Name x p, .Name y q, .Name z u] n r) (.d (.tuple [d₁, d₂, d₃])) [(z, .d d₃), (y, .d d₂), (x, .d d₁)]

section
variable {c : Cx} {k : Nat} {env : Env} {W : List Addr} {σ τ : Loc}
theorem ext_keep {h h' : Heap} (e : Heap.ExtBut h.objs.size h h') : ∀ b o, h.get? b = some o → h'.get? b = some o := fun b o q => e b o (Nat.ne_of_lt (Heap.lt_size q)) q
theorem assignTo {A : Around} {s₀ s : Shared} {F₀ : Fz} {X : List Addr} {tgt : PySem.Expr} {e : Ent} {b : Loc} {v : Value} {E : Value → Shared → Prop} {Q : Unit → Shared → Prop} (B : Binds tgt e b) (R : Room k A) (G : EnvG env) (hst : ∀ p ∈ b, CanStore env W p.1)
    (I : InFn s₀ F₀ W X env τ s) (hv : Holds (Ff F₀ s₀.heap (W ++ X)) s.heap e v) (h : ∀ s', InFn s₀ F₀ W X env (b ++ τ) s' → KB W s s' → Q () s') : wpAny (model c.prog c.w) A (assign tgt env v) Q E s := by
  cases B with
  | name => exact wpAny_assign_Name (storeAny I G (hst _ (.head _)) hv fun s' I' kb => h s' I' kb)
  | two =>
    obtain ⟨T, vs, rfl, f, n, hT, r⟩ := hv.isTuple
    obtain ⟨v₁, vs, r1, r0, r⟩ := r.uncons
    obtain ⟨v₂, vs, r2, r3, r⟩ := r.uncons
    cases r
    subst r2; subst r1
    refine PyProof.Rows.assign_Tuple_tuple R.1 hT rfl rfl fun h' he => ?_
    have k' : Ks s { s with heap := h' } := Ks.mk (tk := s.toks) (Kp.of (ext_keep he))
    refine PyProof.Rows.assignInOrder_cons (PyProof.Rows.assign_Name (storeAny (I.step k' (Nat.le_refl _)) G (hst _ (.tail _ (.head _))) (Holds.kp k'.kp (e := .d _) r0) fun s₁ I₁ kb₁ => ?_))
    refine PyProof.Rows.assignInOrder_cons (PyProof.Rows.assign_Name (storeAny I₁ G (hst _ (.head _)) (KB.rep (fun a m => I.nF (List.mem_append_left _ m)) kb₁ (Holds.kp k'.kp (e := .d _) r3)) fun s₂ I₂ kb₂ => ?_))
    exact PyProof.Rows.assignInOrder_nil (h s₂ I₂ (((KB.ks k').trans kb₁).trans kb₂))
  | three =>
    obtain ⟨T, vs, rfl, f, n, hT, r⟩ := hv.isTuple
    obtain ⟨v₁, vs, r1, r0, r⟩ := r.uncons
    obtain ⟨v₂, vs, r2, r3, r⟩ := r.uncons
    obtain ⟨v₃, vs, r4, r5, r⟩ := r.uncons
    cases r
    subst r4; subst r2; subst r1
    refine PyProof.Rows.assign_Tuple_tuple R.1 hT rfl rfl fun h' he => ?_
    have k' : Ks s { s with heap := h' } := Ks.mk (tk := s.toks) (Kp.of (ext_keep he))
    refine PyProof.Rows.assignInOrder_cons (PyProof.Rows.assign_Name (storeAny (I.step k' (Nat.le_refl _)) G (hst _ (.tail _ (.tail _ (.head _)))) (Holds.kp k'.kp (e := .d _) r0) fun s₁ I₁ kb₁ => ?_))
    have hr3 := KB.rep (fun a m => I.nF (List.mem_append_left _ m)) kb₁ (Holds.kp k'.kp (e := .d _) r3)
    have hr5 := KB.rep (fun a m => I.nF (List.mem_append_left _ m)) kb₁ (Holds.kp k'.kp (e := .d _) r5)
    refine PyProof.Rows.assignInOrder_cons (PyProof.Rows.assign_Name (storeAny I₁ G (hst _ (.tail _ (.head _))) hr3 fun s₂ I₂ kb₂ => ?_))
    refine PyProof.Rows.assignInOrder_cons (PyProof.Rows.assign_Name (storeAny I₂ G (hst _ (.head _)) (KB.rep (fun a m => I.nF (List.mem_append_left _ m)) kb₂ hr5) fun s₃ I₃ kb₃ => ?_))
    exact PyProof.Rows.assignInOrder_nil (h s₃ I₃ ((((KB.ks k').trans kb₁).trans kb₂).trans kb₃))
end
end Mine
end
section
open PySem PySem.Calls PySem.W
namespace Mine
variable [iO : Old]
theorem KB.turn {wr : List Addr} {s : Shared} {h' : Heap} {tk : Nat} (q : KeepBut wr s.heap h') (nf : ∀ b ∈ wr, ¬ FrameAt s.heap b) : KB wr s { s with heap := h', toks := tk } :=
  ⟨fun b o n _ _ e => q b o n e, fun L _ f => (by obtain ⟨o, es, ep, e, r⟩ := id f; exact ⟨o, es, ep, q L o (fun m => nf L m f) e, r⟩), fun L m n _ ⟨o, es, ep, e, r⟩ => ⟨o, es, ep, q L o n e, r⟩⟩
theorem KB.wr {W wr : List Addr} {s a b : Shared} (hwr : ∀ a ∈ wr, s.heap.get? a = none ∧ a ≠ tab0) (x : KB W s a) (y : KB wr a b) : KB W s b :=
  ⟨fun i o n t c e => y.keep i o (fun m => by rw [(hwr i m).1] at e; injection e) t c (x.keep i o n t c e), fun L n f => y.fr L n (x.fr L n f), fun L m n t h => y.ns L m (fun z => by obtain ⟨_, _, _, q, _⟩ := h; rw [(hwr L z).1] at q; injection q) t (x.ns L m n t h)⟩

inductive LoopR (c : Cx) (k : Nat) (env : Env) (W : List Addr) (tgt : PySem.Expr) (body : List Stmt) : List Ent → Loc → Out → Prop
  | done {σ} : LoopR c k env W tgt body [] σ (.next σ)
  | next {e es b σ σ' o} : Binds tgt e b → (∀ p ∈ b, CanStore env W p.1) → Ex c k env W (b ++ σ) body (.next σ') → LoopR c k env W tgt body es σ' o → LoopR c k env W tgt body (e :: es) σ o
  | cont {e es b σ σ' o} : Binds tgt e b → (∀ p ∈ b, CanStore env W p.1) → Ex c k env W (b ++ σ) body (.cont σ') → LoopR c k env W tgt body es σ' o → LoopR c k env W tgt body (e :: es) σ o
  | brk {e es b σ σ'} : Binds tgt e b → (∀ p ∈ b, CanStore env W p.1) → Ex c k env W (b ++ σ) body (.brk σ') → LoopR c k env W tgt body (e :: es) σ (.next σ')
  | ret {e es b σ r} : Binds tgt e b → (∀ p ∈ b, CanStore env W p.1) → Ex c k env W (b ++ σ) body (.ret r) → LoopR c k env W tgt body (e :: es) σ (.ret r)

section
variable {c : Cx} {k : Nat} {env : Env} {W : List Addr} {σ τ : Loc} {o : Out}
theorem turnAssign {A : Around} {s₀ s s₁ : Shared} {F₀ : Fz} {X wr : List Addr} {items es : List Ent} {tgt : PySem.Expr} {it : Value} {fp : Fz} {At : Nat → Shared → Prop} {i : Nat} {e : Ent} {b : Loc} {E : Value → Shared → Prop} {Q : Option Value → Shared → Prop} {Q' : Unit → Shared → Prop}
    (I₀ : InFn s₀ F₀ W X env σ s) (hwr : ∀ a ∈ wr, s.heap.get? a = none ∧ a ≠ tab0)
    {sO : Heap} (hit : Iter c A (fun a => (Ff F₀ s₀.heap (W ++ X)).ext s.heap a ∧ a ∉ wr ∧ ∃ o, sO.get? a = some o) fp it wr items At)
    (he : items[i]? = some e) (ha : At i s₁) (I : InFn s₀ F₀ W (wr ++ X) env τ s₁)
    (hQ : ∀ v s₂, KB wr s₁ s₂ → At (i + 1) s₂ → InFn s₀ F₀ W (wr ++ X) env τ s₂ → Holds (Ff F₀ s₀.heap (W ++ (wr ++ X))) s₂.heap e v → Q (some v) s₂) : wpAny (model c.prog c.w) A (pyNext it) Q E s₁ := by
  have hW : ∀ a ∈ wr, a ∉ W := fun a m mw => by
    obtain ⟨o, e⟩ := I₀.live a (List.mem_append_left _ mw)
    rw [(hwr a m).1] at e; injection e
  have hc : ∀ x c, env.cells.lookup x = some c → c ∉ wr := fun x c h m => by
    obtain ⟨⟨v, o, e, _⟩, _⟩ := I₀.lay.cell x c h
    rw [(hwr c m).1] at e; injection e
  have key : wpAny (model c.prog c.w) A (pyNext it) (fun r s₂ => ∃ v h' tk, r = some v ∧ s₂ = { s₁ with heap := h', toks := tk } ∧ KeepBut wr s₁.heap h' ∧ At (i + 1) { s₁ with heap := h', toks := tk } ∧ Holds (Fz.ext (fun a => (Ff F₀ s₀.heap (W ++ X)).ext s.heap a ∧ a ∉ wr ∧ ∃ o, sO.get? a = some o) s₁.heap) h' e v) (fun _ _ => False) s₁ :=
    hit.next i s₁ e _ _ he ha fun v h' tk q1 q2 q3 => ⟨v, h', tk, rfl, rfl, q1, q2, q3⟩
  refine wpAny_mono (wpAny_toks_of (n := s₁.toks) (Nat.le_refl _) key) (fun r s₂ q => ?_) fun _ _ x => x.2.elim
  obtain ⟨t, v, h', tk, rfl, rfl, q1, q2, q3⟩ := q
  refine hQ v _ (KB.turn q1 (hit.nf _ _ ha)) q2 (I.turned q1 t hW hc (hit.live _ _ q2) (hit.tab ha q1)) (q3.mono (fun a n f => ?_) fun _ _ _ _ _ e => e)
  rcases f with f | f
  case inr => exact ext_Ff I n (.inr f)
  rcases ext_Ff I₀ n f.1 with x | ⟨x, y⟩
  · exact .inl x
  · refine .inr ⟨x, fun m => ?_⟩
    rcases List.mem_append.mp m with m | m
    · exact y (List.mem_append_left _ m)
    · rcases List.mem_append.mp m with m | m
      · exact f.2.1 m
      · exact y (List.mem_append_right _ m)
theorem goTo {A : Around} {tgt : PySem.Expr} {e : Ent} {b : Loc} {F G fp : Fz} {h : Heap} {it v : Value} {wr : List Addr} {items : List Ent} {At : Nat → Shared → Prop} {i : Nat} {s : Shared} {E : Value → Shared → Prop} {Q : Unit → Shared → Prop}
    (B : Binds tgt e b) (hit : Iter c A G fp it wr items At) (ha : At i s) (hv : Holds F h e v) (hQ : Q () s) : wpAny (model c.prog c.w) A (letOwnedTupleGo tgt it v) Q E s := by
  cases B with
  | name => exact wpAny_of_eq (a := ()) rfl hQ
  | two =>
    obtain ⟨T, vs, rfl, f, n, hT, r⟩ := hv.isTuple
    exact hit.go i _ _ _ T s Q E ha hQ
  | three =>
    obtain ⟨T, vs, rfl, f, n, hT, r⟩ := hv.isTuple
    exact hit.go i _ _ _ T s Q E ha hQ

theorem wrOut {wr X : List Addr} {s₀ s : Shared} {F₀ : Fz} (I : InFn s₀ F₀ W X env σ s) (hwr : ∀ a ∈ wr, s.heap.get? a = none ∧ a ≠ tab0) : ∀ a ∈ wr, a ∉ W ++ X := fun a m mw => by
  obtain ⟨o, e⟩ := I.live a mw
  rw [(hwr a m).1] at e; injection e
theorem wrCell {wr X : List Addr} {s₀ s : Shared} {F₀ : Fz} (I : InFn s₀ F₀ W X env σ s) (hwr : ∀ a ∈ wr, s.heap.get? a = none ∧ a ≠ tab0) : ∀ x c, env.cells.lookup x = some c → c ∉ wr := fun x c h m => by
  obtain ⟨⟨v, o, e, _⟩, _⟩ := I.lay.cell x c h
  rw [(hwr c m).1] at e; injection e
theorem forGen {A : Around} {s₀ s s₂ : Shared} {F₀ : Fz} {X wr : List Addr} {τ₀ : Loc} {tgt : PySem.Expr} {body : List Stmt} {items : List Ent} {it : Value} {At : Nat → Shared → Prop} {E : Value → Shared → Prop}
    (I : InFn s₀ F₀ W X env σ s) (hwr : ∀ a ∈ wr, s.heap.get? a = none ∧ a ≠ tab0)
    (turn : ∀ {i : Nat} {τ b : Loc} {o' : Out} {e : Ent} {s' : Shared} {Q3 : Flow → Shared → Prop} {E' : Value → Shared → Prop} {Q : Option Value → Shared → Prop}, items[i]? = some e → At i s' → InFn s₀ F₀ W (wr ++ X) env τ s' → KB W s s' → Binds tgt e b → (∀ p ∈ b, CanStore env W p.1) → Ex c k env W (b ++ τ) body o' →
      (∀ f s₃, OutP s₀ F₀ W (wr ++ X) env o' f s₃ → At (i + 1) s₃ → KB W s s₃ → Q3 f s₃) →
      (∀ v s₃, wpAny (model c.prog c.w) A (letOwnedTupleGo tgt it v) (fun _ s₁' => wpAny (model c.prog c.w) A (PySem.assign tgt env v) (fun _ s₂ => wpAny (model c.prog c.w) A (execs body env) Q3 E' s₂) E' s₁') E' s₃ → Q (some v) s₃) → wpAny (model c.prog c.w) A (pyNext it) Q E' s')
    (done : ∀ {τ : Loc} {s' : Shared}, At items.length s' → InFn s₀ F₀ W (wr ++ X) env τ s' → KB W s s' → wpAny (model c.prog c.w) A (pyNext it) (fun r s₃ => r = none ∧ InFn s₀ F₀ W X env τ s₃ ∧ KB W s s₃) (fun _ _ => False) s')
    (h0 : At 0 s₂) (I₂ : InFn s₀ F₀ W (wr ++ X) env τ₀ s₂) (kb₀ : KB W s s₂) (L : LoopR c k env W tgt body items τ₀ o) :
    codeAny (model c.prog c.w) A (.forLoop tgt it body [] env) (fun r s' => match r with | .ok f => OutP s₀ F₀ W X env o f s' ∧ KB W s s' | .error e => cameBackBy (model c.prog c.w) A env E e s') s₂ := by
  refine codeAny_forLoop_any (fun n s' => ∃ i τ, n = items.length - i + 1 ∧ i ≤ items.length ∧ LoopR c k env W tgt body (items.drop i) τ o ∧ At i s' ∧ InFn s₀ F₀ W (wr ++ X) env τ s' ∧ KB W s s') ?_ (items.length + 1) ⟨0, τ₀, rfl, Nat.zero_le _, L, h0, I₂, kb₀⟩
  rintro n s' ⟨i, τ, rfl, hi, L', ha, I', kb⟩
  cases q : items[i]? with
  | none =>
    have hi' : i = items.length := Nat.le_antisymm hi (List.getElem?_eq_none_iff.mp q)
    subst hi'
    rw [List.drop_length] at L'
    cases L'
    refine wpAny_mono (done ha I' kb) (fun r s₂ q => ?_) fun _ _ x => x.elim
    obtain ⟨rfl, q1, q2⟩ := q
    exact wpAny_execs_nil ⟨⟨rfl, q1⟩, q2⟩
  | some e =>
    have hlt : i < items.length := (List.getElem?_eq_some_iff.mp q).1
    have hm : items.length - (i + 1) + 1 < items.length - i + 1 := by omega
    rw [List.drop_eq_getElem_cons hlt, (List.getElem?_eq_some_iff.mp q).2] at L'
    cases L' with
    | next B hst hx r =>
      refine turn q ha I' kb B hst hx (fun f s₃ z a₃ kb₃ => ?_) fun v s₃ w => w
      obtain ⟨rfl, I₃⟩ := z
      exact ⟨_, hm, i + 1, _, rfl, hlt, r, a₃, I₃, kb₃⟩
    | cont B hst hx r =>
      refine turn q ha I' kb B hst hx (fun f s₃ z a₃ kb₃ => ?_) fun v s₃ w => w
      obtain ⟨rfl, I₃⟩ := z
      exact ⟨_, hm, i + 1, _, rfl, hlt, r, a₃, I₃, kb₃⟩
    | brk B hst hx =>
      refine turn q ha I' kb B hst hx (fun f s₃ z a₃ kb₃ => ?_) fun v s₃ w => w
      obtain ⟨rfl, I₃⟩ := z
      exact ⟨⟨rfl, I.close I₃ (fun _ _ _ e => e) (Nat.le_refl _) (wrOut I hwr) (wrCell I hwr) (fun T => T)⟩, kb₃⟩
    | ret B hst hx =>
      refine turn q ha I' kb B hst hx (fun f s₃ z a₃ kb₃ => ?_) fun v s₃ w => w
      obtain ⟨v', rfl, q1, q2, q3⟩ := z
      exact ⟨⟨v', rfl, q1, q2, q3.mono (fun _ _ f => Ff_le f) fun _ _ _ _ _ e => e⟩, kb₃⟩
theorem forCore {A : Around} {s₀ s s₂ : Shared} {F₀ : Fz} {X wr : List Addr} {τ₀ : Loc} {tgt : PySem.Expr} {body : List Stmt} {items : List Ent} {it : Value} {fp : Fz} {At : Nat → Shared → Prop} {sO : Heap} {E : Value → Shared → Prop}
    (R : Room k A) (G : EnvG env) (g : GdS c.K A.frames s₀ s) (I : InFn s₀ F₀ W X env σ s) (hwr : ∀ a ∈ wr, s.heap.get? a = none ∧ a ≠ tab0)
    (hit : Iter c A (fun a => (Ff F₀ s₀.heap (W ++ X)).ext s.heap a ∧ a ∉ wr ∧ ∃ o, sO.get? a = some o) fp it wr items At) (h0 : At 0 s₂) (hfp : ∀ b, fp b → b ≠ tab0 → (Ff F₀ s₀.heap (W ++ X)).ext s.heap b)
    (I₂ : InFn s₀ F₀ W (wr ++ X) env τ₀ s₂) (kb₀ : KB W s s₂) (L : LoopR c k env W tgt body items τ₀ o) :
    codeAny (model c.prog c.w) A (.forLoop tgt it body [] env) (fun r s' => match r with | .ok f => OutP s₀ F₀ W X env o f s' ∧ KB W s s' | .error e => cameBackBy (model c.prog c.w) A env E e s') s₂ := by
  have kbw : ∀ {a b : Shared}, KB W s a → KB wr a b → KB W s b := fun x y => KB.wr hwr x y
  have hat : ∀ {j : Nat} {a b : Shared}, KB W a b → At j a → At j b := fun x y => hit.frame _ _ _ y fun b o f n c e => x.keep b o (ext_nW I (hfp b f n)) n c e
  refine forGen I hwr (fun {i τ b o' e s' Q3 E' Q} q ha I' kb B hst hx hf hQ => ?_) (fun {τ s'} ha I' kb => ?_) h0 I₂ kb₀ L
  · refine turnAssign (items := items) (es := items) (tgt := tgt) (b := τ) (Q' := fun _ _ => True) I hwr hit q ha I' fun v s₂ kb₂ ha₂ I₂ hv => hQ v s₂ (goTo B hit ha₂ hv ?_)
    refine wpAny_mono (assignTo (E := fun _ _ => False) B R G hst I₂ hv fun s₃ I₃ kb₃ => wpAny_mono (hx.run A s₀ F₀ (wr ++ X) s₃ R G (g.kb ((kbw kb kb₂).trans kb₃)) I₃) (fun f s₄ z => ?_) fun _ _ x => x.elim) (fun _ _ x => x) fun _ _ x => x.elim
    exact hf f s₄ z.1 (hat z.2 (hat kb₃ ha₂)) (((kbw kb kb₂).trans kb₃).trans z.2)
  · have key : wpAny (model c.prog c.w) A (pyNext it) (fun r s₂ => ∃ h' tk, r = none ∧ s₂ = { s' with heap := h', toks := tk } ∧ KeepBut wr s'.heap h') (fun _ _ => False) s' :=
      hit.done s' _ _ ha fun h' tk q1 => ⟨h', tk, rfl, rfl, q1⟩
    refine wpAny_mono (wpAny_toks_of (n := s'.toks) (Nat.le_refl _) key) (fun r s₂ q => ?_) fun _ _ x => x.2.elim
    obtain ⟨t, h', tk, rfl, rfl, q1⟩ := q
    exact ⟨rfl, I.close I' q1 t (wrOut I hwr) (wrCell I hwr) (hit.tab ha q1), kbw kb (KB.turn q1 (hit.nf _ _ ha))⟩
theorem Ex1.for {tgt iter : PySem.Expr} {body : List Stmt} {items : List Ent} {p : Pos} (hs : SrcX c k env σ iter items) (L : LoopR c k env W tgt body items σ o) : Ex1 c k env W σ (.For tgt iter body [] p) o := by
  constructor; intro A s₀ F₀ X s R G g I
  refine wpAny_For ?_ hs.set
  have hsrc := hs.run A (Ff F₀ s₀.heap (W ++ X)) s R G (I.gd g) I.lay
  refine wpAny_mono (wpAny_toks_of (n := s.toks) (Nat.le_refl _) hsrc) (fun xv s₁ q => ?_) fun _ _ x => x.2.elim
  refine wpAny_mono (wpAny_toks_of (n := s₁.toks) (Nat.le_refl _) q.2) (fun it s₂ q' => ?_) fun _ _ x => x.2.elim
  obtain ⟨t₂, k₂, wr, fp, At, hwr, hit, h0, hfp⟩ := q'
  exact forCore R G g I hwr hit h0 (fun b f n => (hfp b f n).2) (I.grow (wr := wr) k₂ (Nat.le_trans q.1 t₂) hwr (hit.live _ _ h0)) (KB.ks k₂) L
theorem Ex1.assignTup {value : PySem.Expr} {elts : List PySem.Expr} {n : Nat} {q p : Pos} {e : Ent} {b : Loc} (h : Ev c k env σ value e) (B : Binds (.Tuple elts n q) e b) (hst : ∀ p ∈ b, CanStore env W p.1)
    (hs : swapsWithSole [.Tuple elts n q] value p.line env = pure false := by rfl) (hw : swappedStores [.Tuple elts n q] value env = pure none := by rfl) :
    Ex1 c k env W σ (.Assign [.Tuple elts n q] value p) (.next (b ++ σ)) := by
  constructor; intro A s₀ F₀ X s R G g I
  exact PyProof.Rows.Assign_Tuple (h.here R G g I fun v s' I' h' k' _ => assignTo B R G hst I' h' fun s'' I'' kb => ⟨⟨rfl, I''⟩, (KB.ks k').trans kb⟩) hs hw
end
end Mine
end
section
open PySem PySem.Calls PySem.W
namespace Mine
variable [iO : Old]

noncomputable def clo (env : Env) : List (Str × NameKind) → List (Str × Addr) → List (Str × Addr)
  | [], acc => acc
  | (n, k) :: r, acc => if k == .free then clo env r ((n, (env.cells.lookup n).getD 0) :: acc) else clo env r acc
theorem forClo {env : Env} (f : Str × NameKind → List (Str × Addr) → Sem (ForInStep (List (Str × Addr))))
    (hf : ∀ n k acc, f (n, k) acc = if k == .free then (do let c ← cellOf env n; pure (.yield ((n, c) :: acc))) else pure (.yield acc)) :
    ∀ (names : List (Str × NameKind)) (acc : List (Str × Addr)), (∀ x ∈ names, x.2 = .free → ∃ c, env.cells.lookup x.1 = some c) → forIn names acc f = pure (clo env names acc) := by
  intro xs
  induction xs with
  | nil =>
    intro _ _
    exact rfl
  | cons a r ih =>
    obtain ⟨n, k⟩ := a
    intro acc h
    have ih := fun acc => ih acc fun y hy => h y (.tail _ hy)
    rw [List.forIn_cons, hf]
    by_cases hk : k = .free
    · subst hk
      obtain ⟨c, hc⟩ := h _ (.head _) rfl
      have e : cellOf env n = pure c := by unfold cellOf; rw [hc]
      simp only [beq_self_eq_true, if_true, clo, hc, Option.getD_some, e]
      exact ih _
    · have hb : (k == NameKind.free) = false := by simpa using hk
      simp only [hb, Bool.false_eq_true, if_false, clo]
      exact ih _
theorem closureFor_clo {scope : Scope} {env : Env} (hf : ∀ x ∈ scope.names, x.2 = .free → ∃ c, env.cells.lookup x.1 = some c) : closureFor scope env = pure (clo env scope.names []) := by
  unfold closureFor
  show (forIn scope.names ([] : List (Str × Addr)) _ >>= fun cs => pure cs) = _
  rw [forClo (env := env) _ (fun n k acc => by cases hkc : k == NameKind.free <;> simp [hkc]) _ _ hf]
  rfl
theorem clo_mem {env : Env} : ∀ {names : List (Str × NameKind)} {acc : List (Str × Addr)} {p : Str × Addr}, (∀ x ∈ names, x.2 = .free → ∃ c, env.cells.lookup x.1 = some c) → p ∈ clo env names acc → p ∈ acc ∨ ((p.1, NameKind.free) ∈ names ∧ env.cells.lookup p.1 = some p.2) := by
  intro xs
  induction xs with
  | nil =>
    intro _ _ _ h
    exact .inl h
  | cons a r ih =>
    obtain ⟨n, k⟩ := a
    intro acc p hf h
    unfold clo at h
    by_cases hk : (k == NameKind.free) = true
    · rw [if_pos hk] at h
      have hk' : k = .free := by simpa using hk
      subst hk'
      obtain ⟨c, hc⟩ := hf _ (.head _) rfl
      rcases ih (fun x hx => hf x (.tail _ hx)) h with h | ⟨h1, h2⟩
      · rcases List.mem_cons.mp h with rfl | h
        · exact .inr ⟨.head _, by simp [hc]⟩
        · exact .inl h
      · exact .inr ⟨.tail _ h1, h2⟩
    · rw [if_neg hk] at h
      rcases ih (fun x hx => hf x (.tail _ hx)) h with h | ⟨h1, h2⟩
      · exact .inl h
      · exact .inr ⟨.tail _ h1, h2⟩
theorem clo_has {env : Env} : ∀ {names : List (Str × NameKind)} {acc : List (Str × Addr)} {x : Str}, (x, NameKind.free) ∈ names ∨ (∃ c, (x, c) ∈ acc) → ∃ c, (x, c) ∈ clo env names acc := by
  intro xs
  induction xs with
  | nil =>
    intro _ _ h
    rcases h with h | h
    · cases h
    · exact h
  | cons a r ih =>
    obtain ⟨n, k⟩ := a
    intro acc x h
    unfold clo
    split
    · refine ih ?_
      rcases h with h | ⟨c, h⟩
      · rcases List.mem_cons.mp h with e | h
        · cases e; exact .inr ⟨_, .head _⟩
        · exact .inl h
      · exact .inr ⟨c, .tail _ h⟩
    · rename_i hk
      refine ih ?_
      rcases h with h | h
      · rcases List.mem_cons.mp h with e | h
        · cases e; exact absurd rfl hk
        · exact .inl h
      · exact .inr h
theorem lookup_of_some {α : Type} : ∀ {l : List (Str × α)} {x : Str}, (∃ c, (x, c) ∈ l) → ∃ c, l.lookup x = some c := by
  intro xs
  induction xs with
  | nil =>
    rintro x ⟨c, h⟩; cases h
  | cons a r ih =>
    obtain ⟨n, v⟩ := a
    rintro x ⟨c, h⟩
    rw [List.lookup_cons]
    by_cases e : x = n
    · subst e; rw [beq_self_eq_true]; exact ⟨_, rfl⟩
    · rw [beq_false_of_ne e]
      rcases List.mem_cons.mp h with q | h
      · cases q; exact absurd rfl e
      · exact ih ⟨c, h⟩
theorem cellsFrom_app : ∀ (names : List (Str × NameKind)) (n : Nat) (acc : List (Str × Addr)), cellsFrom n names acc = cellsFrom n names [] ++ acc := by
  intro xs
  induction xs with
  | nil =>
    intro _ _
    exact rfl
  | cons a r ih =>
    obtain ⟨y, k⟩ := a
    intro n acc
    unfold cellsFrom
    split
    · rw [ih (n + 1) ((y, n) :: acc), ih (n + 1) [(y, n)]]; simp
    · exact ih n acc
theorem cellsFrom_mem : ∀ {names : List (Str × NameKind)} {n : Nat} {acc : List (Str × Addr)} {p : Str × Addr}, p ∈ cellsFrom n names acc → p ∈ acc ∨ (p.1, NameKind.cell) ∈ names := by
  intro xs
  induction xs with
  | nil =>
    intro _ _ _ h
    exact .inl h
  | cons a r ih =>
    obtain ⟨y, k⟩ := a
    intro n acc p h
    unfold cellsFrom at h
    split at h
    · rename_i hk
      have hk' : k = .cell := by simpa using hk
      subst hk'
      rcases ih h with h | h
      · rcases List.mem_cons.mp h with rfl | h
        · exact .inr (.head _)
        · exact .inl h
      · exact .inr (.tail _ h)
    · rcases ih h with h | h
      · exact .inl h
      · exact .inr (.tail _ h)

theorem relabel_lookup {env : Env} : ∀ {names : List (Str × NameKind)} {x : Str} {k : NameKind}, names.lookup x = some k → k ≠ .free →
    (names.map fun (n, k) => if (k == NameKind.free && env.scope.kind == .function && env.kindOf n == some .cell) then (n, NameKind.cell) else (n, k)).lookup x = some k := by
  intro xs
  induction xs with
  | nil =>
    intro x k h; injection h
  | cons a r ih =>
    obtain ⟨n, k'⟩ := a
    intro x k h hk
    show List.lookup x ((if (k' == NameKind.free && env.scope.kind == .function && env.kindOf n == some .cell) = true then (n, NameKind.cell) else (n, k')) :: _) = _
    have e : ∀ y, List.lookup x ((if (k' == NameKind.free && env.scope.kind == .function && env.kindOf n == some .cell) = true then (n, NameKind.cell) else (n, k')) :: y) =
        match x == n with | true => some (if (k' == NameKind.free && env.scope.kind == .function && env.kindOf n == some .cell) = true then NameKind.cell else k') | false => List.lookup x y := by
      intro y; split <;> rw [List.lookup_cons] <;> rfl
    rw [e]
    rw [List.lookup_cons] at h
    cases hx : x == n with
    | true =>
      rw [hx] at h
      injection h with h
      subst h
      have : (k' == NameKind.free) = false := by simpa using hk
      simp [this]
    | false => rw [hx] at h; exact ih h hk
theorem relabel_free {env : Env} : ∀ {names : List (Str × NameKind)} {x : Str}, names.lookup x = some .free →
    (names.map fun (n, k) => if (k == NameKind.free && env.scope.kind == .function && env.kindOf n == some .cell) then (n, NameKind.cell) else (n, k)).lookup x = some .free ∨
    (names.map fun (n, k) => if (k == NameKind.free && env.scope.kind == .function && env.kindOf n == some .cell) then (n, NameKind.cell) else (n, k)).lookup x = some .cell := by
  intro xs
  induction xs with
  | nil =>
    intro x h; injection h
  | cons a r ih =>
    obtain ⟨n, k'⟩ := a
    intro x h
    show List.lookup x ((if (k' == NameKind.free && env.scope.kind == .function && env.kindOf n == some .cell) = true then (n, NameKind.cell) else (n, k')) :: _) = _ ∨ List.lookup x ((if (k' == NameKind.free && env.scope.kind == .function && env.kindOf n == some .cell) = true then (n, NameKind.cell) else (n, k')) :: _) = _
    have e : ∀ y, List.lookup x ((if (k' == NameKind.free && env.scope.kind == .function && env.kindOf n == some .cell) = true then (n, NameKind.cell) else (n, k')) :: y) =
        match x == n with | true => some (if (k' == NameKind.free && env.scope.kind == .function && env.kindOf n == some .cell) = true then NameKind.cell else k') | false => List.lookup x y := by
      intro y; split <;> rw [List.lookup_cons] <;> rfl
    rw [e]
    rw [List.lookup_cons] at h
    cases hx : x == n with
    | true =>
      rw [hx] at h; obtain rfl := Option.some.inj h
      simp only
      split
      · exact .inr rfl
      · exact .inl rfl
    | false => rw [hx] at h; exact ih h

noncomputable def compE (scope : Scope) (env : Env) (L : Addr) : Env :=
  { scope := relabel scope env, locals := L, globals := env.globals, cells := cellsFrom (L + 1) scope.names (clo env scope.names []), qual := env.qual, func := none, code := env.code, frame := env.frame, builtins := env.builtins }

structure CompOk (scope : Scope) (names : List (Str × NameKind)) : Prop where
  kind : scope.kind = .function
  nd : (scope.names.map (·.1)).Nodup
  fr : scope.names.all (fun x => x.2 != .free || (names.lookup x.1 == some .cell || names.lookup x.1 == some .free)) = true
  loc : scope.names.all (fun x => x.2 != .local || scope.names.lookup x.1 == some .local) = true

noncomputable abbrev compMu (scope : Scope) (L : Addr) : List Addr := L :: (cellsFrom (L + 1) scope.names []).map (·.2)

section
variable {env : Env} {names : List (Str × NameKind)} {Mu : List Addr} {scope : Scope} {L : Addr}
theorem CompOk.has (ok : CompOk scope names) (T : EnvT env names Mu) : ∀ x ∈ scope.names, x.2 = .free → ∃ c, env.cells.lookup x.1 = some c := fun x hx hf => by
  have := List.all_eq_true.mp ok.fr x hx
  rw [hf] at this
  simp only [bne_self_eq_false, Bool.false_or, Bool.or_eq_true, beq_iff_eq] at this
  rcases this with h | h
  · obtain ⟨cc, h, _⟩ := T.own _ h; exact ⟨cc, h⟩
  · exact (T.fr _ h).2
theorem kind_unique {names : List (Str × NameKind)} (nd : (names.map (·.1)).Nodup) {x : Str} {k k' : NameKind} (h : (x, k) ∈ names) (h' : (x, k') ∈ names) : k = k' := by
  induction names with
  | nil => cases h
  | cons a r ih =>
    obtain ⟨nd1, nd2⟩ := List.nodup_cons.mp nd
    rcases List.mem_cons.mp h with e | m <;> rcases List.mem_cons.mp h' with e' | m'
    · rw [← e'] at e; exact (Prod.mk.inj e).2
    · cases e; exact (nd1 (List.mem_map_of_mem (f := (·.1)) m')).elim
    · cases e'; exact (nd1 (List.mem_map_of_mem (f := (·.1)) m)).elim
    · exact ih nd2 m m'
theorem compCell (ok : CompOk scope names) (T : EnvT env names Mu) {x : Str} {cc : Addr} (h : (compE scope env L).cells.lookup x = some cc) :
    ((x, NameKind.cell) ∈ scope.names ∧ (x, cc) ∈ cellsFrom (L + 1) scope.names []) ∨ ((x, NameKind.free) ∈ scope.names ∧ env.cells.lookup x = some cc) := by
  have hm : (x, cc) ∈ cellsFrom (L + 1) scope.names (clo env scope.names []) := mem_of_lookup h
  rw [cellsFrom_app] at hm
  rcases List.mem_append.mp hm with hm | hm
  · rcases cellsFrom_mem hm with z | z
    · cases z
    · exact .inl ⟨z, hm⟩
  · rcases clo_mem (ok.has T) hm with z | z
    · cases z
    · exact .inr z
theorem compT (ok : CompOk scope names) (T : EnvT env names Mu) : EnvT (compE scope env L) scope.names (compMu scope L) := by
  refine ⟨⟨ok.kind, T.g.glob, T.g.bi⟩, fun h hk => relabel_lookup h hk, fun x h => ⟨relabel_free h, ?_⟩, fun x h => ?_⟩
  · obtain ⟨c, hc⟩ := clo_has (env := env) (acc := []) (.inl (mem_of_lookup h))
    refine lookup_of_some ⟨c, ?_⟩
    show (x, c) ∈ cellsFrom (L + 1) scope.names (clo env scope.names [])
    rw [cellsFrom_app]
    exact List.mem_append_right _ hc
  · obtain ⟨cc, h'⟩ := cellsFrom_has scope.names (L + 1) (clo env scope.names []) x (.inr (mem_of_lookup h))
    refine ⟨cc, h', .tail _ ?_⟩
    rcases compCell ok T h' with ⟨_, z⟩ | ⟨z, _⟩
    · exact List.mem_map_of_mem (f := (·.2)) z
    · exact absurd (kind_unique ok.nd z (mem_of_lookup h)) (by decide)
end

section
variable {M : Model} {A : Around} {E : Value → Shared → Prop} {s : Shared} {env : Env}
theorem wpAny_compEnv {scope : Scope} {cl : List (Str × Addr)} {Q : Env → Shared → Prop}
    (h : Q { scope := scope, locals := s.heap.objs.size, globals := env.globals, cells := cellsFrom (s.heap.objs.size + 1) scope.names cl, qual := env.qual, func := none, code := env.code, frame := env.frame, builtins := env.builtins }
      { s with heap := pushCells (s.heap.push { cls := .type "dict", data := .dict #[] }) scope.names }) :
    wpAny M A (newFunctionEnv scope env.globals cl [] env.qual none .none (some env)) Q E s := by
  simp only [newFunctionEnv, Option.isSome_some, if_true]
  refine wpAny_bind (wpAny_alloc ?_)
  refine wpAny_bind (wpAny_layCells _ (fun name kind cells => by cases hkc : kind == NameKind.cell <;> simp [hkc]) _ _ _ _ ?_)
  rw [show ({ s with heap := s.heap.push { cls := .type "dict", data := .dict #[] } } : Shared).heap.objs.size = s.heap.objs.size + 1 from Heap.size_push ..]
  simp only [List.forIn_nil]
  exact wpAny_bind (wpAny_pure (wpAny_pure h))
end
end Mine
end
section
open PySem PySem.Calls PySem.W
namespace Mine
variable [iO : Old]
section
variable {s₀ s : Shared} {F₀ : Fz} {W X wr : List Addr} {env : Env} {σ : Loc}
theorem InFn.turn {h' : Heap} {tk : Nat} (I : InFn s₀ F₀ W X env σ s) (hk : KeepBut wr s.heap h') (t : s.toks ≤ tk) (hX : ∀ a ∈ wr, a ∈ X) (hW : ∀ a ∈ wr, a ∉ W) (hc : ∀ x c, env.cells.lookup x = some c → c ∉ wr) (hl : ∀ a ∈ wr, ∃ o, h'.get? a = some o) (tb : Tab s.heap → Tab h') :
    InFn s₀ F₀ W X env σ { s with heap := h', toks := tk } := by
  obtain ⟨h₁, t₁, e, kp⟩ := I.ks
  have nwr : ∀ a ∈ wr, a ∈ W ++ X := fun a m => List.mem_append_right _ (hX a m)
  have ntab : tab0 ∉ wr := fun m => I.nmu (nwr _ m)
  refine ⟨⟨h', tk, by rw [e], I.ks.kp.andThen (fun b o o₁ n q q₁ => hk b o₁ (fun m => ?_) q₁) (fun T => ?_)⟩, Nat.le_trans I.tk t, ⟨?_, I.lay.nL, I.lay.nT, fun x c h => ?_, I.lay.apart⟩, I.new, fun a m => ?_, I.loc, I.nmu, I.f0⟩
  · rw [I.new b (nwr b m)] at q; injection q
  · exact tb (I.ks.kp.tab T)
  · obtain ⟨m, hn, hv⟩ := I.lay.ns
    have hL : env.locals ∉ wr := fun m => hW _ m I.loc
    refine ⟨m, hn.at' fun o q => hk _ o hL q, fun x ex hx => ?_⟩
    obtain ⟨v, hh, q⟩ := hv x ex hx
    refine ⟨v, hh.mono (fun _ _ f => f) fun a o f n _ q => hk a o (fun m => ?_) q, ?_⟩
    · rcases f with f | ⟨_, f⟩
      · exact I.nF (nwr a m) f
      · exact f (nwr a m)
    · rcases q with q | ⟨q, c, e1, o, e2, e3⟩
      · exact .inl q
      · exact .inr ⟨q, c, e1, o, hk _ _ (hc x c e1) e2, e3⟩
  · obtain ⟨⟨v, o, e1, e2⟩, r⟩ := I.lay.cell x c h
    exact ⟨⟨v, o, hk _ _ (hc x c h) e1, e2⟩, r⟩
  · by_cases m' : a ∈ wr
    · exact hl a m'
    · obtain ⟨o, q⟩ := I.live a m
      exact ⟨o, hk _ _ m' q⟩
end

noncomputable def tgtNames : PySem.Expr → List Str
  | .Name x _ => [x]
  | .Tuple [.Name x _, .Name y _] _ _ => [y, x]
  | .Tuple [.Name x _, .Name y _, .Name z _] _ _ => [z, y, x]
  | _ => []
theorem Binds.names {t : PySem.Expr} {e : Ent} {b : Loc} (B : Binds t e b) : b.map (·.1) = tgtNames t := by cases B <;> rfl

noncomputable def capt (σ : Loc) (names : List (Str × NameKind)) : Loc := names.filterMap fun x => if x.2 == .free then (σ.lookup x.1).map (x.1, ·) else none
theorem capt_mem {σ : Loc} {names : List (Str × NameKind)} {p : Str × Ent} (h : p ∈ capt σ names) : σ.lookup p.1 = some p.2 ∧ (p.1, NameKind.free) ∈ names := by
  unfold capt at h
  obtain ⟨x, hx, hq⟩ := List.mem_filterMap.mp h
  obtain ⟨n, k⟩ := x
  by_cases hk : k = .free
  · subst hk
    simp only [beq_self_eq_true, if_true, Option.map_eq_some_iff] at hq
    obtain ⟨e, he, rfl⟩ := hq
    exact ⟨he, hx⟩
  · have : (k == NameKind.free) = false := by simpa using hk
    simp [this] at hq
theorem capt_get {σ : Loc} {names : List (Str × NameKind)} {x : Str} {e : Ent} (h : σ.lookup x = some e) (m : (x, NameKind.free) ∈ names) : (capt σ names).lookup x = some e := by
  have hm : (x, e) ∈ capt σ names := by
    unfold capt
    exact List.mem_filterMap.mpr ⟨(x, .free), m, by simp [h]⟩
  obtain ⟨e', he'⟩ := lookup_of_some ⟨e, hm⟩
  have := (capt_mem (mem_of_lookup he')).1
  rw [show ((x, e') : Str × Ent).1 = x from rfl, h] at this
  rw [he', this]

inductive IfsR (c : Cx) (k : Nat) (env : Env) (σ : Loc) : List PySem.Expr → Bool → Prop
  | nil : IfsR c k env σ [] true
  | one {t b} : EvB c k env σ t b → IfsR c k env σ [t] b
inductive CompR (c : Cx) (k : Nat) (env : Env) (σ₀ : Loc) (tgt elt : PySem.Expr) (ifs : List PySem.Expr) : List Ent → List PyData → Prop
  | nil : CompR c k env σ₀ tgt elt ifs [] []
  | skip {e es b ds} : Binds tgt e b → IfsR c k env (b ++ σ₀) ifs false → CompR c k env σ₀ tgt elt ifs es ds → CompR c k env σ₀ tgt elt ifs (e :: es) ds
  | take {e es b d ds} : Binds tgt e b → IfsR c k env (b ++ σ₀) ifs true → Ev c k env (b ++ σ₀) elt (.d d) → CompR c k env σ₀ tgt elt ifs es ds → CompR c k env σ₀ tgt elt ifs (e :: es) (d :: ds)

section
variable {c : Cx} {k : Nat} {A : Around} {R : Result → Shared → Prop} {s : Shared}
theorem IfsR.run {env : Env} {σ : Loc} {W : List Addr} {ifs : List PySem.Expr} {b : Bool} {s₀ : Shared} {F₀ : Fz} {X : List Addr} {E : Value → Shared → Prop} {Q : Bool → Shared → Prop} (h : IfsR c k env σ ifs b) (R : Room k A) (G : EnvG env) (g : GdS c.K A.frames s₀ s) (I : InFn s₀ F₀ W X env σ s)
    (q : ∀ s', InFn s₀ F₀ W X env σ s' → Ks s s' → Q b s') : wpAny (model c.prog c.w) A (forIn ifs true fun c r => if r = true then do let ok ← isTrue c env (eval c env); pure (ForInStep.yield ok) else pure (ForInStep.yield r)) Q E s := by
  cases h with
  | nil => rw [List.forIn_nil]; exact wpAny_pure (q s I (Ks.refl _))
  | one h =>
    rw [List.forIn_cons]
    refine wpAny_bind ?_
    rw [if_pos rfl]
    refine wpAny_bind (h.here R G g I fun s' I' k' => ?_)
    exact wpAny_pure (wpAny_pure (q s' I' k'))

theorem compLoop_any {elt target iter : PySem.Expr} {ifs : List PySem.Expr} {scope : Scope} {pos : Pos} {it acc : Value} {env : Env} (I : Nat → Shared → Prop)
    (turn : ∀ n s, I n s → wpAny (model c.prog c.w) A (pyNext it) (fun r s₁ => match r with
      | none => R (.ok .next) s₁
      | some v => wpAny (model c.prog c.w) A (letOwnedTupleGo target it v) (fun _ s₁' => wpAny (model c.prog c.w) A (PySem.assign target env v) (fun _ s₂ =>
          wpAny (model c.prog c.w) A (forIn ifs true fun c r => if r = true then do let ok ← isTrue c env (eval c env); pure (ForInStep.yield ok) else pure (ForInStep.yield r)) (fun ok s₃ =>
            if ok = true then wpAny (model c.prog c.w) A (eval elt env) (fun x s₄ =>
              wpAny (model c.prog c.w) A (call (.builtin "list.append") [acc, x]) (fun _ s₅ => ∃ m, m < n ∧ I m s₅) (fun _ _ => False) s₄) (fun _ _ => False) s₃
            else ∃ m, m < n ∧ I m s₃) (fun _ _ => False) s₂) (fun _ _ => False) s₁') (fun _ _ => False) s₁) (fun _ _ => False) s)
    (n : Nat) (h : I n s) :
    codeAny (model c.prog c.w) A (.compLoop (.ListComp elt [⟨target, iter, ifs, 0⟩] scope pos) 0 it acc env) R s := by
  refine codeAny_loop rfl I (fun n s hI => ?_) n h
  show wpAny _ A ((compTurn (.ListComp elt [⟨target, iter, ifs, 0⟩] scope pos) 0 it acc env).onRaise (fun x => do noteFrame x env; theTreesLotGoes x)) _ _ s
  refine wpAny_noted ?_
  rw [compTurn_list]
  refine wpAny_bind (wpAny_standAt (wpAny_bind (wpAny_mono (turn n s hI) (fun r s₁ h₁ => ?_) fun _ _ h' => h'.elim)))
  cases r with
  | none => exact wpAny_pure h₁
  | some v =>
    refine wpAny_bind (wpAny_mono h₁ (fun _ s₁' h₁' => ?_) fun _ _ h' => h'.elim)
    refine wpAny_bind (wpAny_mono h₁' (fun _ s₂ h₂ => wpAny_bind (wpAny_mono h₂ (fun ok s₃ h₃ => ?_) fun _ _ h' => h'.elim)) fun _ _ h' => h'.elim)
    cases ok with
    | false => exact wpAny_pure ⟨rfl, h₃⟩
    | true =>
      exact wpAny_bind (wpAny_bind (wpAny_mono h₃ (fun x s₄ h₄ => wpAny_bind (wpAny_mono h₄ (fun _ s₅ h₅ => wpAny_pure (wpAny_pure ⟨rfl, h₅⟩)) fun _ _ h' => h'.elim)) fun _ _ h' => h'.elim))

theorem turnC {env : Env} {τ : Loc} {W X : List Addr} {s₀ s₁ : Shared} {F₀ : Fz} {wr : List Addr} {items : List Ent} {it : Value} {fp G : Fz} {At : Nat → Shared → Prop} {i : Nat} {e : Ent} {E : Value → Shared → Prop} {Q : Option Value → Shared → Prop}
    (hX : ∀ a ∈ wr, a ∈ X) (hW : ∀ a ∈ wr, a ∉ W) (hc : ∀ x c, env.cells.lookup x = some c → c ∉ wr) (hG : ∀ a, a ≠ tab0 → G a → Ff F₀ s₀.heap (W ++ X) a)
    (hit : Iter c A G fp it wr items At) (he : items[i]? = some e) (ha : At i s₁) (I : InFn s₀ F₀ W X env τ s₁)
    (hQ : ∀ v s₂, KB wr s₁ s₂ → At (i + 1) s₂ → InFn s₀ F₀ W X env τ s₂ → Holds (Ff F₀ s₀.heap (W ++ X)) s₂.heap e v → Q (some v) s₂) : wpAny (model c.prog c.w) A (pyNext it) Q E s₁ := by
  have key : wpAny (model c.prog c.w) A (pyNext it) (fun r s₂ => ∃ v h' tk, r = some v ∧ s₂ = { s₁ with heap := h', toks := tk } ∧ KeepBut wr s₁.heap h' ∧ At (i + 1) { s₁ with heap := h', toks := tk } ∧ Holds (G.ext s₁.heap) h' e v) (fun _ _ => False) s₁ :=
    hit.next i s₁ e _ _ he ha fun v h' tk q1 q2 q3 => ⟨v, h', tk, rfl, rfl, q1, q2, q3⟩
  refine wpAny_mono (wpAny_toks_of (n := s₁.toks) (Nat.le_refl _) key) (fun r s₂ q => ?_) fun _ _ x => x.2.elim
  obtain ⟨t, v, h', tk, rfl, rfl, q1, q2, q3⟩ := q
  refine hQ v _ (KB.turn q1 (hit.nf _ _ ha)) q2 (I.turn q1 t hX hW hc (hit.live _ _ q2) (hit.tab ha q1)) (q3.mono (fun a n f => ?_) fun _ _ _ _ _ e => e)
  rcases f with f | f
  · exact hG a n f
  · exact ext_Ff I n (.inr f)
end
end Mine
end
section
open PySem PySem.Calls PySem.W
namespace Mine
variable [iO : Old]
noncomputable def LL (h : Heap) (l : Addr) (vs : List Value) : Prop := ∃ n, h.get? l = some { cls := .type "list", dict := none, data := .seq vs.toArray n, slots := #[] }
theorem LL.at {h h' : Heap} {l : Addr} {vs : List Value} (x : LL h l vs) (e : ∀ o, NFr o → h.get? l = some o → h'.get? l = some o) : LL h' l vs := by obtain ⟨n, q⟩ := x; exact ⟨n, e _ (nfr_of (T := "list") rfl) q⟩
theorem LL.isList {h : Heap} {l : Addr} {vs : List Value} (x : LL h l vs) : h.IsList l vs.toArray := by obtain ⟨n, q⟩ := x; exact ⟨_, q, rfl, n, rfl⟩
section
variable {c : Cx} {k : Nat}
theorem RepAll.snoc {F : Fz} {h : Heap} {vs : List Value} {ds : List PyData} {v : Value} {d : PyData} (r : RepAll F h vs ds) (x : Rep F h v d) : RepAll F h (vs ++ [v]) (ds ++ [d]) := r.append (.cons x .nil)

theorem compLoopC {A : Around} {s₀ s : Shared} {F₀ : Fz} {W wr : List Addr} {D : Addr} {cenv : Env} {names : List (Str × NameKind)} {σ₀ : Loc} {tgt elt iter : PySem.Expr} {ifs : List PySem.Expr} {scope : Scope} {pos : Pos} {it : Value} {items : List Ent} {ds : List PyData} {fp G : Fz} {At : Nat → Shared → Prop} {RR : Result → Shared → Prop}
    (R : Room k A) (T : EnvT cenv names W) (g : GdS c.K A.frames s₀ s) (hst : ∀ x ∈ tgtNames tgt, names.lookup x = some .local ∨ names.lookup x = some .cell) (hσ : ∀ p ∈ σ₀, σ₀.lookup p.1 = some p.2 ∧ p.1 ∉ tgtNames tgt)
    (h : CompR c k cenv σ₀ tgt elt ifs items ds) (hsz : ds.length ≤ sizeLine)
    (hit : Iter c A G fp it wr items At) (h0 : At 0 s) (I : InFn s₀ F₀ W (wr ++ [D]) cenv σ₀ s)
    (hW : ∀ a ∈ wr, a ∉ W) (hc : ∀ x c, cenv.cells.lookup x = some c → c ∉ wr) (hD : D ∉ W) (hcD : ∀ x c, cenv.cells.lookup x = some c → c ≠ D)
    (hG : ∀ a, a ≠ tab0 → G a → Ff F₀ s₀.heap (W ++ (wr ++ [D])) a) (hfp : ∀ b, fp b → b ≠ tab0 → b ∉ W ∧ b ≠ D) (hDwr : D ∉ wr) (hl : LL s.heap D [])
    (hRR : ∀ s' h' tk, InFn s₀ F₀ W (wr ++ [D]) cenv σ₀ s' → KeepBut wr s'.heap h' → (Tab s'.heap → Tab h') → s'.toks ≤ tk → (∃ vs : List Value, LL h' D vs ∧ RepAll (Ff F₀ s₀.heap (W ++ (wr ++ [D]))) h' vs ds) → RR (.ok .next) { s' with heap := h', toks := tk }) :
    codeAny (model c.prog c.w) A (.compLoop (.ListComp elt [⟨tgt, iter, ifs, 0⟩] scope pos) 0 it (.ref D) cenv) RR s := by
  have hXw : ∀ a ∈ wr, a ∈ wr ++ [D] := fun a m => List.mem_append_left _ m
  have hXD : ∀ a ∈ [D], a ∈ wr ++ [D] := fun a m => List.mem_append_right _ m
  have nD : ¬ Ff F₀ s₀.heap (W ++ (wr ++ [D])) D := fun f => by
    have m : D ∈ W ++ (wr ++ [D]) := List.mem_append_right _ (List.mem_append_right _ (.head _))
    rcases f with f | ⟨_, f⟩
    · exact I.nF m f
    · exact f m
  have nwr : ∀ a ∈ wr, ¬ Ff F₀ s₀.heap (W ++ (wr ++ [D])) a := fun a m' f => by
    have m : a ∈ W ++ (wr ++ [D]) := List.mem_append_right _ (List.mem_append_left _ m')
    rcases f with f | ⟨_, f⟩
    · exact I.nF m f
    · exact f m
  have ntD : D ≠ tab0 := fun z => I.nmu (z ▸ List.mem_append_right _ (List.mem_append_right _ (.head _)))
  refine compLoop_any (fun n s' => ∃ i vs dn dr, n = items.length - i + 1 ∧ i ≤ items.length ∧ CompR c k cenv σ₀ tgt elt ifs (items.drop i) dr ∧ ds = dn ++ dr ∧ At i s' ∧ InFn s₀ F₀ W (wr ++ [D]) cenv σ₀ s' ∧
    LL s'.heap D vs ∧ RepAll (Ff F₀ s₀.heap (W ++ (wr ++ [D]))) s'.heap vs dn ∧ FK s s') ?_ (items.length + 1) ⟨0, [], [], ds, rfl, Nat.zero_le _, h, rfl, h0, I, hl, .nil, FK.refl s⟩
  rintro n s' ⟨i, vs, dn, dr, rfl, hi, L', hds, ha, I', hl', hr, fk⟩
  cases q : items[i]? with
  | none =>
    have hi' : i = items.length := Nat.le_antisymm hi (List.getElem?_eq_none_iff.mp q)
    subst hi'
    rw [List.drop_length] at L'
    cases L'
    have key : wpAny (model c.prog c.w) A (pyNext it) (fun r s₂ => ∃ h' tk, r = none ∧ s₂ = { s' with heap := h', toks := tk } ∧ KeepBut wr s'.heap h') (fun _ _ => False) s' :=
      hit.done s' _ _ ha fun h' tk q1 => ⟨h', tk, rfl, rfl, q1⟩
    refine wpAny_mono (wpAny_toks_of (n := s'.toks) (Nat.le_refl _) key) (fun r s₂ q => ?_) fun _ _ x => x.2.elim
    obtain ⟨t, h', tk, rfl, rfl, q1⟩ := q
    refine hRR _ h' tk I' q1 (hit.tab ha q1) t ⟨vs, hl'.at fun o _ e => q1 D o hDwr e, ?_⟩
    · rw [List.append_nil] at hds
      rw [hds]
      exact hr.mono (fun _ _ f => f) fun a o f n _ e => q1 a o (fun m => nwr a m f) e
  | some e =>
    have hlt : i < items.length := (List.getElem?_eq_some_iff.mp q).1
    rw [List.drop_eq_getElem_cons hlt, (List.getElem?_eq_some_iff.mp q).2] at L'
    refine turnC hXw hW hc hG hit q ha I' fun v s₂ kb₂ ha₂ I₂ hv => ?_
    have hl₂ : LL s₂.heap D vs := hl'.at fun o c e => kb₂.keep D o hDwr ntD c e
    have hr₂ : RepAll (Ff F₀ s₀.heap (W ++ (wr ++ [D]))) s₂.heap vs dn := hr.mono (fun _ _ f => f) fun a o f n c e => kb₂.keep a o (fun m => nwr a m f) n c e
    have go : ∀ {b ok} {Q : Bool → Shared → Prop}, Binds tgt e b → IfsR c k cenv (b ++ σ₀) ifs ok → (∀ s₃, InFn s₀ F₀ W (wr ++ [D]) cenv (b ++ σ₀) s₃ → At (i + 1) s₃ → LL s₃.heap D vs → RepAll (Ff F₀ s₀.heap (W ++ (wr ++ [D]))) s₃.heap vs dn → FK s s₃ → Q ok s₃) →
        wpAny (model c.prog c.w) A (letOwnedTupleGo tgt it v) (fun _ s₁' => wpAny (model c.prog c.w) A (PySem.assign tgt cenv v) (fun _ s₂ =>
          wpAny (model c.prog c.w) A (forIn ifs true fun c r => if r = true then do let ok ← isTrue c cenv (eval c cenv); pure (ForInStep.yield ok) else pure (ForInStep.yield r)) Q (fun _ _ => False) s₂) (fun _ _ => False) s₁') (fun _ _ => False) s₂ := fun {b ok Q} B hif hQ => by
      refine goTo B hit ha₂ hv (assignTo B R T.g (fun p hp => T.store (hst p.1 (by rw [← B.names]; exact List.mem_map_of_mem (f := (·.1)) hp))) I₂ hv fun s₃ I₃ kb₃ => ?_)
      refine hif.run R T.g (g.fk ((fk.kb kb₂).kb kb₃)) I₃ fun s₄ I₄ k₄ => ?_
      have kb : KB W s₂ s₄ := kb₃.trans (KB.ks k₄)
      refine hQ s₄ I₄ (hit.frame _ _ _ ha₂ fun b o f n c e => kb.keep b o (hfp b f n).1 n c e) (hl₂.at fun o c e => kb.keep D o hD ntD c e) (hr₂.mono (fun _ _ f => f) fun a o f n c e => kb.keep a o (fun m => ?_) n c e) ((fk.kb kb₂).kb kb)
      rcases f with f | ⟨_, f⟩
      · exact I'.nF (List.mem_append_left _ m) f
      · exact f (List.mem_append_left _ m)
    have sub : ∀ {b s₃}, Binds tgt e b → InFn s₀ F₀ W (wr ++ [D]) cenv (b ++ σ₀) s₃ → InFn s₀ F₀ W (wr ++ [D]) cenv σ₀ s₃ := fun {b s₃} B x => x.sub fun y ey hy => by
      rw [List.lookup_append]
      have : b.lookup y = none := by
        cases e : b.lookup y with
        | none => rfl
        | some z => exact absurd (by rw [← B.names]; exact List.mem_map_of_mem (f := (·.1)) (mem_of_lookup e)) (hσ (y, ey) (mem_of_lookup hy)).2
      rw [this]
      exact hy
    cases L' with
    | skip B hif r =>
      refine go B hif fun s₃ I₃ ha₃ hl₃ hr₃ fk₃ => ?_
      rw [if_neg (by decide)]
      exact ⟨items.length - (i + 1) + 1, by lia, i + 1, vs, dn, dr, rfl, hlt, r, hds, ha₃, sub B I₃, hl₃, hr₃, fk₃⟩
    | take B hif hx r =>
      rename_i b d dr'
      refine go B hif fun s₃ I₃ ha₃ hl₃ hr₃ fk₃ => ?_
      rw [if_pos rfl]
      refine hx.here R T.g (g.fk fk₃) I₃ fun u s₄ I₄ hu k₄ t₄ => ?_
      have hl₄ : LL s₄.heap D vs := hl₃.at fun o c e => k₄.kp.keep D o ntD c e
      have hle : vs.length ≤ sizeLine := by
        have := hr₃.length; rw [hds] at hsz; simp at hsz; lia
      refine wpAny_list_append_plain hl₄ (fun h' hl₅ hs₅ => ?_) (by rw [List.size_toArray]; exact hle)
      have I₅ : InFn s₀ F₀ W (wr ++ [D]) cenv (b ++ σ₀) { s₄ with heap := h', toks := s₄.toks } := I₄.turn (wr := [D]) (fun b o n e => hs₅.extBut b o (fun z => n (z ▸ .head _)) e) (Nat.le_refl _) hXD
        (fun a m => by rw [List.mem_singleton.mp m]; exact hD) (fun x c h m => hcD x c h (List.mem_singleton.mp m)) (fun a m => by rw [List.mem_singleton.mp m]; obtain ⟨n5, e⟩ := hl₅; exact ⟨_, e⟩) (fun T => by obtain ⟨o, ho, so⟩ := list_soft hl₄.isList; exact T.one ho so hs₅.extBut)
      refine ⟨items.length - (i + 1) + 1, by lia, i + 1, vs ++ [u], dn ++ [d], dr', rfl, hlt, r, by rw [hds]; simp, ?_, sub B I₅, (show h'.PlainList D (vs ++ [u]).toArray by simpa using hl₅), ?_, (fk₃.ks k₄).trans fun L _ f => (by obtain ⟨n4, el⟩ := hl₄; exact f.but el (fun _ _ z => by injection z) fun b o n e => hs₅.extBut b o n e)⟩
      · exact hit.frame _ _ _ ha₃ fun b o f n c e => hs₅.extBut b o (hfp b f n).2 (k₄.kp.keep b o n c e)
      · have hu' : Rep (Ff F₀ s₀.heap (W ++ (wr ++ [D]))) s₄.heap u d := hu
        exact RepAll.mono (F := Ff F₀ s₀.heap (W ++ (wr ++ [D]))) (fun _ _ f => f) (fun a o f n _ e => hs₅.extBut a o (fun z => nD (by rw [z] at f; exact f)) e) ((hr₃.kp k₄.kp).snoc hu')
end
end Mine
end
section
open PySem PySem.Calls PySem.W
namespace Mine
variable [iO : Old]
theorem kind_lookup {names : List (Str × NameKind)} (nd : (names.map (·.1)).Nodup) {x : Str} {k : NameKind} (h : (x, k) ∈ names) : names.lookup x = some k := by
  obtain ⟨k', h'⟩ := lookup_of_some ⟨k, h⟩
  rw [h', kind_unique nd h (mem_of_lookup h')]
section
variable {c : Cx} {k : Nat}
theorem compI {F : Fz} {s s₂ : Shared} {env : Env} {names : List (Str × NameKind)} {Mu : List Addr} {σ : Loc} {scope : Scope} {H2 H4 : Heap} {C D : Addr} {wr : List Addr} (T : EnvT env names Mu) (ok : CompOk scope names) (L : Lay env σ F s.heap) (hCC : H2.objs.size = C)
    (hH4 : pushCells (H2.push { cls := .type "dict", data := .dict #[] }) scope.names = H4) (k₄ : Ks s { s₂ with heap := H4 }) (t₂' : s.toks ≤ s₂.toks) (nsC : H4.Ns C fun _ => none) (freshMu : ∀ a ∈ compMu scope C ++ (wr ++ [D]), s.heap.get? a = none ∧ a ≠ tab0) (live : ∀ a ∈ wr ++ [D], ∃ o, H4.get? a = some o) :
    InFn s (alive F s.heap) (compMu scope C) (wr ++ [D]) (compE scope env C) (capt σ scope.names) { s₂ with heap := H4, toks := s₂.toks } := by
  have cok := cellsFrom_ok scope.names (H2.push { cls := .type "dict", data := .dict #[] }) (C + 1) [] ⟨fun _ _ hm => (nomatch hm), List.Pairwise.nil⟩ (by rw [Heap.size_push, hCC]; exact Nat.le_refl _)
  rw [hH4, Heap.size_push, hCC] at cok
  have Tc := compT (L := C) ok T
  have cellOwn : ∀ {x cc}, (compE scope env C).cells.lookup x = some cc → (H4.IsCell cc none ∧ cc ∈ compMu scope C) ∨ ((x, NameKind.free) ∈ scope.names ∧ env.cells.lookup x = some cc) := fun {x cc} h => by
    rcases compCell ok T h with ⟨_, z⟩ | z
    · exact .inl ⟨(cok.empty x cc z).1, .tail _ (List.mem_map_of_mem (f := (·.2)) z)⟩
    · exact .inr z
  have nF : ∀ a ∈ compMu scope C ++ (wr ++ [D]), ¬ Ff (alive F s.heap) s.heap (compMu scope C ++ (wr ++ [D])) a := fun a m f => by
    rcases f with ⟨_, o, e⟩ | ⟨_, f⟩
    · rw [(freshMu a m).1] at e; injection e
    · exact f m
  have cellOld : ∀ {x cc}, env.cells.lookup x = some cc → (∃ o, s.heap.get? cc = some o) := fun h => by
    obtain ⟨⟨v, o, e, _⟩, _⟩ := L.cell _ _ h; exact ⟨o, e⟩
  refine ⟨k₄, t₂', ⟨⟨_, nsC, fun x e hx => ?_⟩, nF C (List.mem_append_left _ (.head _)), (freshMu C (List.mem_append_left _ (.head _))).2, fun x cc h => ?_, fun x y cc h1 h2 => ?_⟩, fun a m => (freshMu a m).1, fun a m => ?_, .head _, fun m => (freshMu _ m).2 rfl, fun a f => f.2⟩
  · have hx' := capt_mem (mem_of_lookup hx)
    obtain ⟨hx1, hx2⟩ := hx'
    obtain ⟨m, hn, hv⟩ := L.ns
    obtain ⟨v, hh, qq⟩ := hv x e hx1
    refine ⟨v, hh.alive.mono (fun a n f => .inl f) fun a o _ n e => k₄.kp.keep a o n e, ?_⟩
    have hfl : scope.names.lookup x = some .free := kind_lookup ok.nd hx2
    have hnl : env.kindOf x ≠ some .local := fun hl => by
      have := List.all_eq_true.mp ok.fr _ hx2
      simp only [bne_self_eq_false, Bool.false_or, Bool.or_eq_true, beq_iff_eq] at this
      rcases this with z | z
      · rw [T.kind z (by decide)] at hl; cases hl
      · rcases (T.fr _ z).1 with z | z <;> (rw [z] at hl; cases hl)
    rcases qq with ⟨q1, _⟩ | ⟨_, cc, q2, q3⟩
    · exact absurd q1 hnl
    · obtain ⟨kd, cc', hcc'⟩ := Tc.fr x hfl
      refine .inr ⟨kd.symm, cc', hcc', ?_⟩
      have : cc' = cc := by
        rcases compCell ok T hcc' with ⟨z, _⟩ | ⟨_, z⟩
        · exact absurd (kind_unique ok.nd z hx2) (by decide)
        · rw [q2] at z; obtain rfl := Option.some.inj z; rfl
      rw [this]
      exact IsCell.kp k₄.kp (L.cell x cc q2).2.2 q3
  · rcases cellOwn h with ⟨z, y⟩ | ⟨_, z⟩
    · exact ⟨⟨_, z⟩, nF cc (List.mem_append_left _ y), (freshMu cc (List.mem_append_left _ y)).2⟩
    · obtain ⟨⟨v, hv⟩, b, d⟩ := L.cell x cc z
      refine ⟨⟨v, IsCell.kp k₄.kp d hv⟩, fun f => ?_, d⟩
      obtain ⟨o, e⟩ := cellOld z
      rcases f with ⟨f, _⟩ | ⟨f, _⟩
      · exact b f
      · rw [e] at f; injection f
  · rcases compCell ok T h1 with ⟨_, z1⟩ | ⟨_, z1⟩ <;> rcases compCell ok T h2 with ⟨_, z2⟩ | ⟨_, z2⟩
    · exact name_of_addr cok.apart z1 z2
    · obtain ⟨o, e⟩ := cellOld z2
      have := (freshMu cc (List.mem_append_left _ (.tail _ (List.mem_map_of_mem (f := (·.2)) z1)))).1
      rw [this] at e; injection e
    · obtain ⟨o, e⟩ := cellOld z1
      have := (freshMu cc (List.mem_append_left _ (.tail _ (List.mem_map_of_mem (f := (·.2)) z2)))).1
      rw [this] at e; injection e
    · exact L.apart x y cc z1 z2
  · rcases List.mem_append.mp m with m | m
    · rcases List.mem_cons.mp m with rfl | m
      · exact ns_some nsC
      · obtain ⟨p, hp, rfl⟩ := List.mem_map.mp m
        obtain ⟨o, e, _⟩ := (cok.empty p.1 p.2 hp).1
        exact ⟨o, e⟩
    · exact live a m
theorem compCore {A : Around} {F : Fz} {s : Shared} {env : Env} {names : List (Str × NameKind)} {Mu : List Addr} {σ : Loc} {tgt elt iter : PySem.Expr} {ifs : List PySem.Expr} {scope : Scope} {pos : Pos} {items : List Ent} {ds : List PyData} {E : Value → Shared → Prop}
    {RR : Value → Addr → Result → Shared → Prop}
    (T : EnvT env names Mu) (ok : CompOk scope names) (hs : SrcX c k env σ iter items) (hst : (tgtNames tgt).all (fun x => scope.names.lookup x == some .local || scope.names.lookup x == some .cell) = true)
    (h : ∀ cenv W, EnvT cenv scope.names W → CompR c k cenv (capt σ scope.names) tgt elt ifs items ds) (hsz : ds.length ≤ sizeLine)
    (R : Room k A) (g : Gd c.K A.frames s) (L : Lay env σ F s.heap)
    (hRR : ∀ D C h' tk, Ks s { s with heap := h', toks := tk } → s.toks ≤ tk → s.heap.get? C = none → C ≠ tab0 → (∃ m, h'.Ns C m) → Holds (fun a => F.ext s.heap a ∧ a ≠ C) h' (.d (.list ds)) (.ref D) → (∃ vs, LL h' D vs ∧ RepAll (fun a => F.ext s.heap a ∧ a ≠ C ∧ a ≠ D) h' vs ds ∧ s.heap.get? D = none ∧ D ≠ tab0 ∧ D ≠ C) → RR (.ref D) C (.ok .next) { s with heap := h', toks := tk }) :
    wpAny (model c.prog c.w) A (eval iter env) (fun x s₁ => wpAny (model c.prog c.w) A (pyIter x) (fun it s₂ => wpAny (model c.prog c.w) A (newList []) (fun acc s₃ =>
      wpAny (model c.prog c.w) A (newFunctionEnv scope env.globals (clo env scope.names []) [] env.qual none .none (some env)) (fun cenv s₄ =>
        codeAny (model c.prog c.w) A (.compStart (.ListComp elt [⟨tgt, iter, ifs, 0⟩] scope pos) 0 it acc { cenv with scope := relabel scope env }) (RR acc cenv.locals) s₄) E s₃) E s₂) E s₁) E s := by
  have hst' : ∀ x ∈ tgtNames tgt, scope.names.lookup x = some .local ∨ scope.names.lookup x = some .cell := fun x hx => by
    have := List.all_eq_true.mp hst x hx
    simpa using this
  refine wpAny_mono (wpAny_toks_of (n := s.toks) (Nat.le_refl _) (hs.run A F s R T.g g L)) (fun xv s₁ q => ?_) fun _ _ x => x.2.elim
  refine wpAny_mono (wpAny_toks_of (n := s₁.toks) (Nat.le_refl _) q.2) (fun it s₂ q' => ?_) fun _ _ x => x.2.elim
  obtain ⟨t₂, k₂, wr, fp, At, hwr, hit, h0, hfp⟩ := q'
  have t₂' := Nat.le_trans q.1 t₂
  have g₂ := g.ks k₂ t₂'
  refine wpAny_newObj_type ?_ (by size_fits)
  refine wpAny_compEnv ?_
  generalize hH2 : s₂.heap.push { cls := .type "list", dict := none, data := .seq ([] : List Value).toArray } = H2
  have hC : H2.objs.size = s₂.heap.objs.size + 1 := by rw [← hH2, Heap.size_push]
  dsimp only
  generalize hD : s₂.heap.objs.size = D at hC
  generalize hCC : H2.objs.size = C at hC
  generalize hH4 : pushCells (H2.push { cls := .type "dict", data := .dict #[] }) scope.names = H4
  have cok := cellsFrom_ok scope.names (H2.push { cls := .type "dict", data := .dict #[] }) (C + 1) [] ⟨fun _ _ hm => (nomatch hm), List.Pairwise.nil⟩ (by rw [Heap.size_push, hCC]; exact Nat.le_refl _)
  rw [hH4, Heap.size_push, hCC] at cok
  have keep : ∀ b o, s₂.heap.get? b = some o → H4.get? b = some o := fun b o e => by
    rw [← hH4]; exact pushCells_keeps _ _ b o (Heap.get?_push_of_some _ (by rw [← hH2]; exact Heap.get?_push_of_some _ e))
  have nsC : H4.Ns C fun _ => none := by
    rw [← hH4, ← hCC]; exact (Heap.Ns.new H2 (.type "dict")).keeps (pushCells_keeps _ _)
  have lD : LL H4 D [] := by
    refine ⟨0, by rw [← hH4]; exact pushCells_keeps _ _ D _ (Heap.get?_push_of_some _ (by rw [← hH2, ← hD]; exact Heap.get?_push_size _ rfl))⟩
  have k₄ : Ks s { s₂ with heap := H4 } := k₂.trans (Ks.mk (tk := s₂.toks) (Kp.of keep))
  have fresh : ∀ {a}, D ≤ a → s.heap.get? a = none ∧ a ≠ tab0 := fun ha => beyond k₂ g₂ (by rw [hD]; exact ha)
  have dead : ∀ {a}, D ≤ a → s₂.heap.get? a = none := fun {a} ha => by
    cases e : s₂.heap.get? a with
    | none => rfl
    | some o => exact absurd (Heap.lt_size e) (by rw [hD]; exact Nat.not_lt.mpr ha)
  have hCD : D ≤ C := by rw [hC]; exact Nat.le_succ _
  have leW : ∀ a ∈ compMu scope C, C ≤ a := fun a m => by
    rcases List.mem_cons.mp m with rfl | m
    · exact Nat.le_refl _
    · obtain ⟨p, hp, rfl⟩ := List.mem_map.mp m
      exact Nat.le_of_lt (cok.empty p.1 p.2 hp).2
  have aliveWr : ∀ a ∈ wr, ∃ o, s₂.heap.get? a = some o := hit.live _ _ h0
  have wrW : ∀ a ∈ wr, a ∉ compMu scope C := fun a m mw => by
    obtain ⟨o, e⟩ := aliveWr a m
    rw [dead (Nat.le_trans hCD (leW a mw))] at e; injection e
  have wrD : D ∉ wr := fun m => by
    obtain ⟨o, e⟩ := aliveWr D m
    rw [dead (Nat.le_refl _)] at e; injection e
  have DW : D ∉ compMu scope C := fun m => by have := leW D m; rw [hC] at this; exact absurd this (Nat.not_le.mpr (Nat.lt_succ_self _))
  have Tc := compT (L := C) ok T
  have cellOwn : ∀ {x cc}, (compE scope env C).cells.lookup x = some cc → (H4.IsCell cc none ∧ cc ∈ compMu scope C) ∨ ((x, NameKind.free) ∈ scope.names ∧ env.cells.lookup x = some cc) := fun {x cc} h => by
    rcases compCell ok T h with ⟨_, z⟩ | z
    · exact .inl ⟨(cok.empty x cc z).1, .tail _ (List.mem_map_of_mem (f := (·.2)) z)⟩
    · exact .inr z
  have freshMu : ∀ a ∈ compMu scope C ++ (wr ++ [D]), s.heap.get? a = none ∧ a ≠ tab0 := fun a m => by
    rcases List.mem_append.mp m with m | m
    · exact fresh (Nat.le_trans hCD (leW a m))
    · rcases List.mem_append.mp m with m | m
      · exact hwr a m
      · rw [List.mem_singleton.mp m]; exact fresh (Nat.le_refl _)
  have cellOld : ∀ {x cc}, env.cells.lookup x = some cc → (∃ o, s.heap.get? cc = some o) := fun h => by
    obtain ⟨⟨v, o, e, _⟩, _⟩ := L.cell _ _ h; exact ⟨o, e⟩
  have cellWr : ∀ x cc, (compE scope env C).cells.lookup x = some cc → cc ∉ wr := fun x cc h m => by
    rcases cellOwn h with ⟨_, z⟩ | ⟨_, z⟩
    · exact wrW cc m z
    · obtain ⟨o, e⟩ := cellOld z
      rw [(hwr cc m).1] at e; injection e
  have cellD : ∀ x cc, (compE scope env C).cells.lookup x = some cc → cc ≠ D := fun x cc h z => by
    rcases cellOwn h with ⟨_, y⟩ | ⟨_, y⟩
    · exact DW (z ▸ y)
    · obtain ⟨o, e⟩ := cellOld y
      rw [z, (fresh (Nat.le_refl _)).1] at e; injection e
  have I : InFn s (alive F s.heap) (compMu scope C) (wr ++ [D]) (compE scope env C) (capt σ scope.names) { s₂ with heap := H4, toks := s₂.toks } := compI T ok L hCC hH4 k₄ t₂' nsC freshMu fun a m => by
    rcases List.mem_append.mp m with m | m
    · obtain ⟨o, e⟩ := aliveWr a m; exact ⟨o, keep _ _ e⟩
    · rw [List.mem_singleton.mp m]; obtain ⟨n, e⟩ := lD; exact ⟨_, e⟩
  have h04 : At 0 { s₂ with heap := H4, toks := s₂.toks } := hit.frame _ _ _ h0 fun b o _ _ _ e => keep b o e
  have core : codeAny (model c.prog c.w) A (.compLoop (.ListComp elt [⟨tgt, iter, ifs, 0⟩] scope pos) 0 it (.ref D) (compE scope env C)) (RR (.ref D) C) { s₂ with heap := H4, toks := s₂.toks } := by
    refine compLoopC (k := k) R Tc ⟨g.toGdH, g.tok, g.fr.kp k₄.kp⟩ hst' (fun p hp => ?_) (h _ _ Tc) hsz hit h04 I wrW cellWr DW cellD (fun a n f => ?_) (fun b f n => ?_) wrD lD fun s' h' tk I' hk tb t ⟨vs, hl', hr'⟩ => ?_
    · obtain ⟨x1, x2⟩ := capt_mem hp
      refine ⟨capt_get x1 x2, fun m => ?_⟩
      have hfl : scope.names.lookup p.1 = some .free := kind_lookup ok.nd x2
      rcases hst' _ m with z | z <;> (rw [hfl] at z; cases z)
    · obtain ⟨f1, f2, o, e⟩ := f
      have notMu : a ∉ compMu scope C ++ (wr ++ [D]) := fun m => by
        rcases List.mem_append.mp m with m | m
        · rw [dead (Nat.le_trans hCD (leW a m))] at e; injection e
        · rcases List.mem_append.mp m with m | m
          · exact f2 m
          · rw [List.mem_singleton.mp m, dead (Nat.le_refl _)] at e; injection e
      cases es : s.heap.get? a with
      | none => exact .inr ⟨es, notMu⟩
      | some o' =>
        rcases f1 with f1 | f1
        · exact .inl ⟨f1, o', es⟩
        · rw [es] at f1; injection f1
    · obtain ⟨⟨o, e⟩, _⟩ := hfp b f n
      refine ⟨fun m => ?_, fun z => ?_⟩
      · rw [dead (Nat.le_trans hCD (leW b m))] at e; injection e
      · rw [z, dead (Nat.le_refl _)] at e; injection e
    · obtain ⟨h₁, t₁, e, kp⟩ := I'.ks
      have t' : s.toks ≤ tk := Nat.le_trans I'.tk t
      have e2 : ({ s' with heap := h', toks := tk } : Shared) = { s with heap := h', toks := tk } := by rw [e]
      rw [e2]
      have wrC : C ∉ wr := fun m => wrW C m (.head _)
      refine hRR D C h' tk (Ks.mk (I'.ks.kp.andThen (fun b o o₁ n q q₁ => hk b o₁ (fun m => ?_) q₁) (fun T => ?_))) t' (freshMu C (List.mem_append_left _ (.head _))).1 (freshMu C (List.mem_append_left _ (.head _))).2 ?_ ?_ ?_
      · rw [(hwr b m).1] at q; injection q
      · exact tb (I'.ks.kp.tab T)
      · obtain ⟨m, hn, _⟩ := I'.lay.ns
        exact ⟨m, hn.at' fun o q => hk _ o wrC q⟩
      · refine Rep.mkList ⟨.inr (fresh (Nat.le_refl _)).1, fun z => ?_⟩ (fresh (Nat.le_refl _)).2 hl'.isList (hr'.mono (fun a n f => ?_) fun _ _ _ _ _ e => e)
        · rw [← z] at hC; exact absurd hC (Nat.ne_of_lt (Nat.lt_succ_self _))
        · rcases f with ⟨f, o, e⟩ | ⟨f1, f2⟩
          · exact ⟨.inl f, fun z => by rw [z, (freshMu C (List.mem_append_left _ (.head _))).1] at e; injection e⟩
          · exact ⟨.inr f1, fun z => f2 (z ▸ List.mem_append_left _ (.head _))⟩
      · refine ⟨vs, hl', hr'.mono (fun a n f => ?_) fun _ _ _ _ _ e => e, (fresh (Nat.le_refl _)).1, (fresh (Nat.le_refl _)).2, fun z => ?_⟩
        · rcases f with ⟨f, o, e⟩ | ⟨f1, f2⟩
          · exact ⟨.inl f, (fun z => by rw [z, (freshMu C (List.mem_append_left _ (.head _))).1] at e; injection e), (fun z => by rw [z, (fresh (Nat.le_refl _)).1] at e; injection e)⟩
          · exact ⟨.inr f1, fun z => f2 (z ▸ List.mem_append_left _ (.head _)), fun z => f2 (z ▸ List.mem_append_right _ (List.mem_append_right _ (.head _)))⟩
        · rw [← z] at hC; exact absurd hC (Nat.ne_of_lt (Nat.lt_succ_self _))
  exact codeAny_compStart_list core (hit.self _ _ _ h04 core)

theorem Ev.comp {env : Env} {names : List (Str × NameKind)} {Mu : List Addr} {σ : Loc} {tgt elt iter : PySem.Expr} {ifs : List PySem.Expr} {scope : Scope} {pos : Pos} {items : List Ent} {ds : List PyData}
    (T : EnvT env names Mu) (ok : CompOk scope names) (hs : SrcX c k env σ iter items) (hst : (tgtNames tgt).all (fun x => scope.names.lookup x == some .local || scope.names.lookup x == some .cell) = true)
    (h : ∀ cenv W, EnvT cenv scope.names W → CompR c k cenv (capt σ scope.names) tgt elt ifs items ds) (hsz : ds.length ≤ sizeLine) :
    Ev c k env σ (.ListComp elt [⟨tgt, iter, ifs, 0⟩] scope pos) (.d (.list ds)) := by
  constructor; intro A F s R G g L
  unfold Tri
  rw [eval_ListComp]
  refine wpAny_comprehension_free (use := none) rfl hs.set (closureFor_clo (ok.has T)) ok.kind (fun x hx hl => ?_) (compCore T ok hs hst h hsz R g L fun D C h' tk k' t hC nC hns hv _ => ?_)
  · have := List.all_eq_true.mp ok.loc x hx
    rw [hl] at this
    simpa using this
  · obtain ⟨m, hn⟩ := hns
    refine ⟨m, hn, fun h'' hs'' => ⟨?_, hv.mono (fun _ _ f => f.1) fun a o f _ _ e => hs''.extBut a o f.2 e⟩⟩
    refine ⟨h'', tk, rfl, k'.kp.andThen (fun b o o₁ n e e₁ => hs''.extBut b o₁ (fun z => ?_) e₁) (fun T => ?_)⟩
    · rw [z, hC] at e; injection e
    · obtain ⟨o, ho, so⟩ := ns_soft hn
      exact (k'.kp.tab T).one ho so hs''.extBut

theorem Ex1.assignComp {env : Env} {names : List (Str × NameKind)} {W : List Addr} {σ : Loc} {y : Str} {py spos : Pos} {tgt elt iter : PySem.Expr} {ifs : List PySem.Expr} {scope : Scope} {pos : Pos} {items : List Ent} {ds : List PyData}
    (T : EnvT env names W) (ok : CompOk scope names) (hs : SrcX c k env σ iter items) (hst : (tgtNames tgt).all (fun x => scope.names.lookup x == some .local || scope.names.lookup x == some .cell) = true) (hy : CanStore env W y)
    (h : ∀ cenv W, EnvT cenv scope.names W → CompR c k cenv (capt σ scope.names) tgt elt ifs items ds) (hsz : ds.length ≤ sizeLine)
    (hsw : swapsWith (.ListComp elt [⟨tgt, iter, ifs, 0⟩] scope pos) (some (.Name y py)) spos.line env = pure true) :
    Ex1 c k env W σ (.Assign [.Name y py] (.ListComp elt [⟨tgt, iter, ifs, 0⟩] scope pos) spos) (.next ((y, .d (.list ds)) :: σ)) := by
  constructor; intro A s₀ F₀ X s R G g I
  rw [exec_Assign_Name_used _ _ _ _ hsw]
  refine wpAny_bind (wpAny_standAt (wpAny_bind ?_))
  show wpAny _ A (do let _ ← comprehension (.ListComp elt [⟨tgt, iter, ifs, 0⟩] scope pos) scope env _ (newList []) false (eval iter env) (some (PySem.assign (.Name y py) env))) _ _ s
  refine wpAny_bind (wpAny_mono (wpAny_comprehension_free (use := some (PySem.assign (.Name y py) env)) (Q := fun _ s' => OutP s₀ F₀ W X env (.next ((y, .d (.list ds)) :: σ)) .next s' ∧ KB W s s') (E := fun _ _ => False) rfl hs.set (closureFor_clo (ok.has T)) ok.kind (fun x hx hl => ?_)
    (compCore T ok hs hst h hsz R (I.gd g) I.lay fun D C h' tk k' t hC nC hns hv _ => ?_)) (fun _ s' hq => wpAny_pure (wpAny_pure hq)) fun _ _ e => e)
  · have := List.all_eq_true.mp ok.loc x hx
    rw [hl] at this
    simpa using this
  · have hwr : ∀ a ∈ [C], s.heap.get? a = none ∧ a ≠ tab0 := fun a m => by rw [List.mem_singleton.mp m]; exact ⟨hC, nC⟩
    have I' := I.grow (wr := [C]) k' t hwr (fun a m => by rw [List.mem_singleton.mp m]; obtain ⟨m, hn⟩ := hns; exact ns_some hn)
    have hWX : ∀ a ∈ [C], a ∉ W ++ X := fun a m mw => by
      obtain ⟨o, e⟩ := I.live a mw
      rw [(hwr a m).1] at e; injection e
    have hCW : C ∉ W := fun m => hWX C (.head _) (List.mem_append_left _ m)
    show wpAny _ A (PySem.assign (.Name y py) env (.ref D)) _ _ _
    refine wpAny_assign_Name (storeAny I' T.g hy (hv.mono (fun a n f => ?_) fun _ _ _ _ _ e => e) fun s'' I'' kb => ?_)
    · rcases ext_Ff I n f.1 with z | ⟨z1, z2⟩
      · exact .inl z
      · refine .inr ⟨z1, fun m => ?_⟩
        rcases List.mem_append.mp m with m | m
        · exact z2 (List.mem_append_left _ m)
        · rcases List.mem_append.mp m with m | m
          · exact f.2 (List.mem_singleton.mp m)
          · exact z2 (List.mem_append_right _ m)
    · obtain ⟨m, hn⟩ := hns
      refine ⟨m, kb.ns C m hCW nC hn, fun h'' hs'' => ⟨⟨rfl, ?_⟩, ((KB.ks k').trans kb).drop hC hs''.extBut⟩⟩
      · have := I.close (tk := s''.toks) (h' := h'') I'' (fun b o n e => hs''.extBut b o (fun z => n (z ▸ .head _)) e) (Nat.le_refl _) hWX fun x cc h m => by
          obtain ⟨⟨v, o, e, _⟩, _⟩ := I.lay.cell x cc h
          rw [List.mem_singleton.mp m, hC] at e; injection e
        refine this fun T => ?_
        obtain ⟨o, ho, so⟩ := ns_soft (kb.ns C m hCW nC hn)
        exact T.one ho so hs''.extBut
end
end Mine
end
section
open PySem PySem.Calls PySem.W
namespace Mine
variable [iO : Old]

theorem Ex1.try {c : Cx} {k : Nat} {env : Env} {W : List Addr} {σ : Loc} {o : Out} {body : List Stmt} {h₀ : ExceptHandler} {hs : List ExceptHandler} {p : Pos} (h : Ex c k env W σ body o) : Ex1 c k env W σ (.Try body (h₀ :: hs) [] [] p) o := by
  constructor; intro A s₀ F₀ X s R G g I
  refine wpAny_Try_except (wpAny_mono (h.run A s₀ F₀ X s R G g I) (fun f s' q => ?_) fun _ _ x => x.elim)
  cases f with
  | next => exact wpAny_execs_nil q
  | _ => exact q

section
variable {s₀ s : Shared} {F₀ : Fz} {W X X' : List Addr} {env : Env} {σ : Loc}
theorem Ff_perm {h₀ : Heap} (hp : ∀ a, a ∈ X ↔ a ∈ X') {a : Addr} (f : Ff F₀ h₀ (W ++ X) a) : Ff F₀ h₀ (W ++ X') a := by
  rcases f with f | ⟨f, n⟩
  · exact .inl f
  · exact .inr ⟨f, fun m => n (by
      rcases List.mem_append.mp m with m | m
      · exact List.mem_append_left _ m
      · exact List.mem_append_right _ ((hp a).mpr m))⟩
theorem mem_perm (hp : ∀ a, a ∈ X ↔ a ∈ X') {a : Addr} (m : a ∈ W ++ X') : a ∈ W ++ X := by
  rcases List.mem_append.mp m with m | m
  · exact List.mem_append_left _ m
  · exact List.mem_append_right _ ((hp a).mpr m)
theorem Lay.weak {F F' : Fz} {h : Heap} (hF : ∀ a, F a → F' a) (nL : ¬ F' env.locals) (nc : ∀ x c, env.cells.lookup x = some c → ¬ F' c) (L : Lay env σ F h) : Lay env σ F' h := by
  obtain ⟨⟨m, hn, hv⟩, n, nT, hc, ha⟩ := L
  refine ⟨⟨m, hn, fun x e he => ?_⟩, nL, nT, fun x c e => ⟨(hc x c e).1, nc x c e, (hc x c e).2.2⟩, ha⟩
  obtain ⟨v, hh, q⟩ := hv x e he
  exact ⟨v, hh.mono (fun a _ f => hF a f) fun _ _ _ _ _ e => e, q⟩
theorem InFn.perm (I : InFn s₀ F₀ W X env σ s) (hp : ∀ a, a ∈ X ↔ a ∈ X') : InFn s₀ F₀ W X' env σ s :=
  ⟨I.ks, I.tk, I.lay.weak (fun a f => Ff_perm hp f) (fun f => I.lay.nL (Ff_perm (fun a => (hp a).symm) f)) (fun x c e f => (I.lay.cell x c e).2.1 (Ff_perm (fun a => (hp a).symm) f)), fun a m => I.new a (mem_perm hp m), fun a m => I.live a (mem_perm hp m), I.loc, fun m => I.nmu (mem_perm hp m), I.f0⟩
theorem InFn.nFf (I : InFn s₀ F₀ W X env σ s) {a : Addr} (m : a ∈ W ++ X) : ¬ Ff F₀ s₀.heap (W ++ X) a := fun f => by
  rcases f with f | ⟨_, f⟩
  · exact I.nF m f
  · exact f m
end

structure EvN (c : Cx) (k : Nat) (env : Env) (σ : Loc) (x : PySem.Expr) (ds : List PyData) : Prop where
  run : ∀ A F s, Room k A → EnvG env → Gd c.K A.frames s → Lay env σ F s.heap → wpAny (model c.prog c.w) A (eval x env) (fun v s' => Ks s s' ∧ ∃ l vs, v = .ref l ∧ s.heap.get? l = none ∧ l ≠ tab0 ∧ LL s'.heap l vs ∧ RepAll (fun a => F.ext s.heap a ∧ a ≠ l) s'.heap vs ds) (fun _ _ => False) s
section
variable {c : Cx} {k : Nat} {env : Env} {σ : Loc}
theorem EvN.list {xs : List PySem.Expr} {ds : List PyData} {pos : Pos} (ha : EvAll c k env σ xs (ds.map .d)) (hs : ds.length ≤ sizeLine) : EvN c k env σ (.List xs pos) ds := by
  constructor; intro A F s R G g L
  refine PyProof.Rows.List_ (wpAny_mono (spl R G ha g L) (fun vs s₁ h₁ => ?_) fun _ _ x => x)
  obtain ⟨⟨k₁, t₁⟩, h₁⟩ := h₁
  have r := h₁.rep
  have g₁ := g.ks k₁ t₁
  obtain ⟨f1, f2⟩ := fresh_size k₁ g₁
  refine wpAny_newObj_type ⟨k₁.trans (Ks.mk (tk := s₁.toks) (Kp.push _ _)), _, vs, rfl, f1, f2, ⟨0, Heap.get?_push_size _ rfl⟩, ?_⟩ (by show vs.toArray.size ≤ sizeLine; rw [List.size_toArray, r.length]; exact hs)
  have ra : RepAll (alive (F.ext s.heap) s₁.heap) s₁.heap vs ds := r.alive
  refine ra.mono (fun a n f => ⟨f.1, fun z => ?_⟩) fun a o _ n e => (Kp.push _ _).keep a o n e
  obtain ⟨o, e⟩ := f.2
  exact absurd (Heap.lt_size e) (by rw [z]; exact Nat.lt_irrefl _)
theorem EvN.comp {names : List (Str × NameKind)} {Mu : List Addr} {tgt elt iter : PySem.Expr} {ifs : List PySem.Expr} {scope : Scope} {pos : Pos} {items : List Ent} {ds : List PyData}
    (T : EnvT env names Mu) (ok : CompOk scope names) (hs : SrcX c k env σ iter items) (hst : (tgtNames tgt).all (fun x => scope.names.lookup x == some .local || scope.names.lookup x == some .cell) = true)
    (h : ∀ cenv W, EnvT cenv scope.names W → CompR c k cenv (capt σ scope.names) tgt elt ifs items ds) (hsz : ds.length ≤ sizeLine) :
    EvN c k env σ (.ListComp elt [⟨tgt, iter, ifs, 0⟩] scope pos) ds := by
  constructor; intro A F s R G g L
  rw [eval_ListComp]
  refine wpAny_comprehension_free (use := none) rfl hs.set (closureFor_clo (ok.has T)) ok.kind (fun x hx hl => ?_) (compCore T ok hs hst h hsz R g L fun D C h' tk k' t hC nC hns hv ⟨vs, hL, hr, hD, nD, hDC⟩ => ?_)
  · have := List.all_eq_true.mp ok.loc x hx
    rw [hl] at this
    simpa using this
  · obtain ⟨m, hn⟩ := hns
    refine ⟨m, hn, fun h'' hs'' => ⟨?_, D, vs, rfl, hD, nD, hL.at fun o _ e => hs''.extBut D o hDC e, hr.mono (fun a _ f => ⟨f.1, f.2.2⟩) fun a o f _ _ e => hs''.extBut a o f.2.1 e⟩⟩
    refine ⟨h'', tk, rfl, k'.kp.andThen (fun b o o₁ n e e₁ => hs''.extBut b o₁ (fun z => ?_) e₁) (fun T => ?_)⟩
    · rw [z, hC] at e; injection e
    · obtain ⟨o, ho, so⟩ := ns_soft hn
      exact (k'.kp.tab T).one ho so hs''.extBut
theorem EvN.ifExp {t b o : PySem.Expr} {p : Pos} {v : Bool} {ds : List PyData} (ht : EvB c k env σ t v) (hb : v = true → EvN c k env σ b ds) (ho : v = false → EvN c k env σ o ds) : EvN c k env σ (.IfExp t b o p) ds := by
  constructor; intro A F s R G g L
  refine PyProof.Rows.IfExp_ ((ht.run A F s R G g L).use fun s' k' t' => ?_)
  have fin : ∀ {x}, EvN c k env σ x ds → wpAny (model c.prog c.w) A (eval x env) (fun v s' => Ks s s' ∧ ∃ l vs, v = .ref l ∧ s.heap.get? l = none ∧ l ≠ tab0 ∧ LL s'.heap l vs ∧ RepAll (fun a => F.ext s.heap a ∧ a ≠ l) s'.heap vs ds) (fun _ _ => False) s' := fun h =>
    wpAny_mono (h.run A F s' R G (g.ks k' t') (L.kp k'.kp)) (fun v s₂ q => by
      obtain ⟨k₂, l, vs, e, f, n, hl, r⟩ := q
      refine ⟨k'.trans k₂, l, vs, e, ?_, n, hl, r.mono (fun a n f => ⟨Fz.ext_kp k'.kp n f.1, f.2⟩) fun _ _ _ _ _ e => e⟩
      exact k'.kp.gone n f) fun _ _ x => x
  cases v with
  | true => exact fin (hb rfl)
  | false => exact fin (ho rfl)
end

noncomputable def OwnAt (s₀ : Shared) (F₀ : Fz) (W X : List Addr) (l : Addr) (ds : List PyData) (s : Shared) : Prop := ∃ vs, LL s.heap l vs ∧ RepAll (Ff F₀ s₀.heap (W ++ (l :: X))) s.heap vs ds

structure ExO (c : Cx) (k : Nat) (env : Env) (W : List Addr) (l : Addr) (σ : Loc) (ds : List PyData) (ss : List Stmt) (b : Bool) (σ' : Loc) (ds' : List PyData) : Prop where
  run : ∀ A s₀ F₀ X s, Room k A → EnvG env → GdS c.K A.frames s₀ s → InFn s₀ F₀ W (l :: X) env σ s → OwnAt s₀ F₀ W X l ds s → wpAny (model c.prog c.w) A (execs ss env) (fun f s' => f = (if b then .next else .cont) ∧ InFn s₀ F₀ W (l :: X) env σ' s' ∧ OwnAt s₀ F₀ W X l ds' s' ∧ KB (l :: W) s s') (fun _ _ => False) s
structure ExO1 (c : Cx) (k : Nat) (env : Env) (W : List Addr) (l : Addr) (σ : Loc) (ds : List PyData) (st : Stmt) (b : Bool) (σ' : Loc) (ds' : List PyData) : Prop where
  run : ∀ A s₀ F₀ X s, Room k A → EnvG env → GdS c.K A.frames s₀ s → InFn s₀ F₀ W (l :: X) env σ s → OwnAt s₀ F₀ W X l ds s → wpAny (model c.prog c.w) A (exec st env) (fun f s' => f = (if b then .next else .cont) ∧ InFn s₀ F₀ W (l :: X) env σ' s' ∧ OwnAt s₀ F₀ W X l ds' s' ∧ KB (l :: W) s s') (fun _ _ => False) s

section
variable {c : Cx} {k : Nat} {env : Env} {W : List Addr} {l : Addr} {σ σ' σ₁ : Loc} {ds ds' ds₁ : List PyData} {b : Bool}
theorem KB.wide {s s' : Shared} (x : KB [l] s s') : KB (l :: W) s s' := ⟨fun a o n t c e => x.keep a o (fun m => n (List.mem_singleton.mp m ▸ .head _)) t c e, x.fr, fun L m n t h => x.ns L m (fun z => n (List.mem_singleton.mp z ▸ .head _)) t h⟩
theorem KB.own {s a b : Shared} (x : KB W s a) (y : KB (l :: W) a b) (fl : s.heap.get? l = none) : KB W s b :=
  ⟨fun i o n t c e => y.keep i o (fun m => by
    rcases List.mem_cons.mp m with m | m
    · rw [m, fl] at e; injection e
    · exact n m) t c (x.keep i o n t c e), fun L n f => y.fr L n (x.fr L n f), fun L m n t h => y.ns L m (fun z => by
    rcases List.mem_cons.mp z with z | z
    · obtain ⟨_, _, _, q, _⟩ := h; rw [z, fl] at q; injection q
    · exact n z) t (x.ns L m n t h)⟩
theorem KB.more {s s' : Shared} (x : KB W s s') : KB (l :: W) s s' := ⟨fun a o n t c e => x.keep a o (fun m => n (.tail _ m)) t c e, x.fr, fun L m n t h => x.ns L m (fun z => n (.tail _ z)) t h⟩
theorem OwnAt.kb {s₀ s s' : Shared} {F₀ : Fz} {X : List Addr} (I : InFn s₀ F₀ W (l :: X) env σ s) (x : OwnAt s₀ F₀ W X l ds s) (kb : KB W s s') (hl : l ∉ W) : OwnAt s₀ F₀ W X l ds s' := by
  obtain ⟨vs, h, r⟩ := x
  have ml : l ∈ W ++ (l :: X) := List.mem_append_right _ (.head _)
  refine ⟨vs, h.at fun o c e => kb.keep l o hl (fun z => I.nmu (z ▸ ml)) c e, r.mono (fun _ _ f => f) fun a o f n c e => kb.keep a o (fun m => ?_) n c e⟩
  exact I.nFf (List.mem_append_left _ m) f
theorem ExO.nil : ExO c k env W l σ ds [] true σ ds := ⟨fun _ _ _ _ _ _ _ _ I O => wpAny_execs_nil ⟨rfl, I, O, KB.refl⟩⟩
theorem ExO.cons {st : Stmt} {ss : List Stmt} (h : ExO1 c k env W l σ ds st true σ₁ ds₁) (r : ExO c k env W l σ₁ ds₁ ss b σ' ds') : ExO c k env W l σ ds (st :: ss) b σ' ds' := by
  constructor; intro A s₀ F₀ X s R G g I O
  exact wpAny_execs_cons (wpAny_mono (h.run A s₀ F₀ X s R G g I O) (fun f s' q => by
    obtain ⟨rfl, I', O', kb⟩ := q
    exact wpAny_mono (r.run A s₀ F₀ X s' R G (g.kb kb) I' O') (fun f s'' q => ⟨q.1, q.2.1, q.2.2.1, kb.trans q.2.2.2⟩) fun _ _ x => x) fun _ _ x => x)
theorem ExO.stop {st : Stmt} {ss : List Stmt} (h : ExO1 c k env W l σ ds st false σ' ds') : ExO c k env W l σ ds (st :: ss) false σ' ds' := by
  constructor; intro A s₀ F₀ X s R G g I O
  exact wpAny_execs_cons (wpAny_mono (h.run A s₀ F₀ X s R G g I O) (fun f s' q => by
    obtain ⟨rfl, q⟩ := q
    exact ⟨rfl, q⟩) fun _ _ x => x)
theorem ExO.one {st : Stmt} (h : ExO1 c k env W l σ ds st b σ' ds') : ExO c k env W l σ ds [st] b σ' ds' := by
  cases b with
  | true => exact ExO.cons h ExO.nil
  | false => exact ExO.stop h
theorem ExO1.cont {p : Pos} : ExO1 c k env W l σ ds (.Continue p) false σ ds := ⟨fun A s₀ F₀ X s R G g I O => wpAny_bind (wpAny_standAt (wpAny_pure ⟨rfl, I, O, KB.refl⟩))⟩
theorem ExO1.plain {st : Stmt} (hl : l ∉ W) (h : Ex1 c k env W σ st (.next σ')) : ExO1 c k env W l σ ds st true σ' ds := by
  constructor; intro A s₀ F₀ X s R G g I O
  refine wpAny_mono (h.run A s₀ F₀ (l :: X) s R G g I) (fun f s' q => ?_) fun _ _ x => x
  obtain ⟨⟨rfl, I'⟩, kb⟩ := q
  exact ⟨rfl, I', O.kb I kb hl, kb.more⟩

theorem ownLay {s₀ s : Shared} {F₀ : Fz} {X : List Addr} {x : Str} (I : InFn s₀ F₀ W (l :: X) env σ s) (O : OwnAt s₀ F₀ W X l ds s) (hx : σ.lookup x = some (.v (.ref l))) (hl : l ∉ W) (hc : ∀ y cc, env.cells.lookup y = some cc → cc ≠ l) :
    Lay env ((x, .d (.list ds)) :: σ) (fun a => Ff F₀ s₀.heap (W ++ (l :: X)) a ∨ a = l) s.heap := by
  have ml : l ∈ W ++ (l :: X) := List.mem_append_right _ (.head _)
  have nt : l ≠ tab0 := fun z => I.nmu (z ▸ ml)
  obtain ⟨vs, hh, r⟩ := O
  have L' := I.lay.weak (F' := fun a => Ff F₀ s₀.heap (W ++ (l :: X)) a ∨ a = l) (fun a f => .inl f) (fun f => by
    rcases f with f | f
    · exact I.lay.nL f
    · exact hl (f ▸ I.loc)) (fun y cc e f => by
    rcases f with f | f
    · exact (I.lay.cell y cc e).2.1 f
    · exact hc y cc e f)
  obtain ⟨⟨m, hn, hv⟩, n, nT, hcl, ha⟩ := L'
  refine ⟨⟨m, hn, fun y e hy => ?_⟩, n, nT, hcl, ha⟩
  rw [List.lookup_cons] at hy
  by_cases hyx : y = x
  · subst hyx
    rw [beq_self_eq_true] at hy
    obtain rfl := Option.some.inj hy
    obtain ⟨v, hh', q⟩ := hv y _ hx
    obtain rfl : v = .ref l := hh'
    exact ⟨_, Rep.mkList (.inr rfl) nt hh.isList (r.mono (fun a _ f => .inl f) fun _ _ _ _ _ e => e), q⟩
  · rw [beq_false_of_ne hyx] at hy
    exact hv y e hy

theorem ExO1.ite {t : PySem.Expr} {bd o' : List Stmt} {p : Pos} {v : Bool} {x : Str} (ht : EvB c k env ((x, .d (.list ds)) :: σ) t v) (hx : σ.lookup x = some (.v (.ref l))) (hl : l ∉ W) (hc : ∀ y cc, env.cells.lookup y = some cc → cc ≠ l)
    (hb : v = true → ExO c k env W l σ ds bd b σ' ds') (ho : v = false → ExO c k env W l σ ds o' b σ' ds') : ExO1 c k env W l σ ds (.If t bd o' p) b σ' ds' := by
  constructor; intro A s₀ F₀ X s R G g I O
  refine wpAny_If ((ht.run A _ s R G (I.gd g) (ownLay I O hx hl hc)).use fun s' k' t' => ?_)
  have I' := I.step k' t'
  have O' := O.kb I (KB.ks k') hl
  cases v with
  | true => exact wpAny_mono ((hb rfl).run A s₀ F₀ X s' R G (g.ks k') I' O') (fun _ _ q => ⟨q.1, q.2.1, q.2.2.1, (KB.ks k').trans q.2.2.2⟩) fun _ _ x => x
  | false => exact wpAny_mono ((ho rfl).run A s₀ F₀ X s' R G (g.ks k') I' O') (fun _ _ q => ⟨q.1, q.2.1, q.2.2.1, (KB.ks k').trans q.2.2.2⟩) fun _ _ x => x

theorem mapSeq_eq (xs : Array Value) (n : Nat) (f : Array Value → Array Value) : ∃ n', Obj.mapSeq f { cls := .type "list", dict := none, data := .seq xs n, slots := #[] } = { cls := .type "list", dict := none, data := .seq (f xs) n', slots := #[] } := ⟨_, rfl⟩
theorem ownTurn {s₀ s : Shared} {F₀ : Fz} {X : List Addr} {vs : List Value} {f : Array Value → Array Value} {vs' : List Value} {n : Nat} (I : InFn s₀ F₀ W (l :: X) env σ s) (hl : l ∉ W) (hc : ∀ y cc, env.cells.lookup y = some cc → cc ≠ l)
    (hh : s.heap.get? l = some { cls := .type "list", dict := none, data := .seq vs.toArray n, slots := #[] }) (hf : f vs.toArray = vs'.toArray) (r : RepAll (Ff F₀ s₀.heap (W ++ (l :: X))) s.heap vs' ds) :
    InFn s₀ F₀ W (l :: X) env σ { s with heap := s.heap.update l (Obj.mapSeq f) } ∧ OwnAt s₀ F₀ W X l ds { s with heap := s.heap.update l (Obj.mapSeq f) } ∧ KB (l :: W) s { s with heap := s.heap.update l (Obj.mapSeq f) } := by
  have ml : l ∈ W ++ (l :: X) := List.mem_append_right _ (.head _)
  have sb : Heap.SameBut l s.heap (s.heap.update l (Obj.mapSeq f)) := Heap.SameBut.update ..
  obtain ⟨n', e⟩ : ∃ n', (s.heap.update l (Obj.mapSeq f)).get? l = some { cls := .type "list", dict := none, data := .seq vs'.toArray n', slots := #[] } := by
    obtain ⟨n', z⟩ := mapSeq_eq vs.toArray n f
    exact ⟨n', by rw [Heap.get?_update_self _ hh (by rw [z]; rfl), z, hf]⟩
  refine ⟨?_, ⟨vs', ⟨n', e⟩, RepAll.mono (F := Ff F₀ s₀.heap (W ++ (l :: X))) (fun _ _ f => f) (fun a o f n _ e => sb.extBut a o (fun z => I.nFf ml (by rw [z] at f; exact f)) e) r⟩, KB.turn (wr := [l]) (fun a o n e => sb.extBut a o (fun z => n (z ▸ .head _)) e) (fun b m => by rw [List.mem_singleton.mp m]; exact nf_of hh (nfr_of (T := "list") rfl)) |>.wide⟩
  have := I.turn (wr := [l]) (h' := s.heap.update l (Obj.mapSeq f)) (tk := s.toks) (fun a o n e => sb.extBut a o (fun z => n (z ▸ .head _)) e) (Nat.le_refl _) (fun a m => by rw [List.mem_singleton.mp m]; exact .head _) (fun a m => by rw [List.mem_singleton.mp m]; exact hl)
    (fun x cc h m => hc x cc h (List.mem_singleton.mp m)) (fun a m => by rw [List.mem_singleton.mp m]; exact ⟨_, e⟩) (fun T => T.one hh (.inl fun vs z => nomatch z) sb.extBut)
  exact this
end
end Mine
end
section
open PySem PySem.Calls PySem.W
namespace Mine
variable [iO : Old]
theorem interactive_of {env : Env} (G : EnvG env) : interactive env = false := by
  unfold interactive; rw [G.kind]; rfl

theorem eraseL : ∀ (p : List Value) (y : Value), (p ++ [y]).eraseIdx p.length = p
  | [], _ => rfl
  | x :: p, y => by
    show x :: (p ++ [y]).eraseIdx p.length = _
    rw [eraseL p y]
theorem erase_last (p : List Value) (y : Value) : ((p ++ [y]).toArray).eraseIdxIfInBounds p.length = p.toArray := by
  have h : p.length < (p ++ [y]).toArray.size := by
    rw [List.size_toArray, List.length_append, List.length_cons]
    lia
  unfold Array.eraseIdxIfInBounds
  rw [dif_pos h]
  apply Array.toList_inj.mp
  rw [Array.toList_eraseIdx]
  exact eraseL p y
theorem iadd_ll {prog : Program} {w : World} {A : Around} {E : Value → Shared → Prop} {s : Shared} {l b : Addr} {xs ys : Array Value} {n m : Nat} {Q : Value → Shared → Prop}
    (h1 : s.heap.get? l = some { cls := .type "list", dict := none, data := .seq xs n, slots := #[] }) (h2 : s.heap.get? b = some { cls := .type "list", dict := none, data := .seq ys m, slots := #[] }) (hs : xs.size + ys.size ≤ sizeLine)
    (hQ : Q (.ref l) { s with heap := s.heap.update l (Obj.mapSeq fun x => x ++ ys), toks := s.toks }) : wpAny (model prog w) A (inplaceOp .Add (.ref l) (.ref b)) Q E s := by
  have ha : s.TypeIs (.ref l) "list" := ⟨_, h1, rfl⟩
  have hb : s.TypeIs (.ref b) "list" := ⟨_, h2, rfl⟩
  unfold inplaceOp
  refine wpAny_holding ?_
  have hseq : isSeqSlot (some (.builtin "list.__iadd__")) = true := by decide +kernel
  have hfi : fillsInplaceSlot (.type "list") "add" (Operator.Add == .Add) = pure false := by
    unfold fillsInplaceSlot
    show (typeLookup (.type "list") (dunderI "add") >>= fun fi => pure (fi.isSome && !isSeqSlot fi)) = pure false
    rw [PySem.F.slot_list_iadd.lookup]
    show (pure ((some (Value.builtin "list.__iadd__")).isSome && !isSeqSlot (some (.builtin "list.__iadd__"))) : Sem Bool) = pure false
    rw [hseq]; rfl
  have hsi : seqSlot? (.type "list") (dunderI "add") = pure (some (.builtin "list.__iadd__")) := seqSlot_of PySem.F.slot_list_iadd.lookup hseq
  refine wpAny_bind (wpAny_typeOf ha (wpAny_bind (wpAny_of_eq hfi ?_)))
  show wpAny _ A (if false = true then _ else _) Q E s
  rw [if_neg Bool.false_ne_true]
  refine wpAny_bind (wpAny_binaryOp1_none (nm := "add") ha hb noFill_list_add ?_)
  refine wpAny_bind (wpAny_of_eq hsi ?_)
  refine wpAny_bind (wpAny_rule (call_meets PySem.F.slot_list_iadd ha PySem.F.entry_list_iadd (by unfold argsOk; kernel_rfl) (PySem.AutoSeq1.list___iadd___list_list_0 l xs n b ys m (fun z => ?_) (by lia) (by lia)) ⟨h1, h2, hQ⟩))
  have : Builtin.List.listTooLong (xs.size + ys.size) = false := by unfold Builtin.List.listTooLong; simp; lia
  rw [this, Bool.and_false] at z
  injection z

inductive LoopO (c : Cx) (k : Nat) (env : Env) (W : List Addr) (l : Addr) (tgt : PySem.Expr) (body : List Stmt) (σ : Loc) : List Ent → List PyData → List PyData → Prop
  | done {ds} : LoopO c k env W l tgt body σ [] ds ds
  | step {e es b bb σ' ds ds₁ ds₂} : Binds tgt e b → (∀ p ∈ b, CanStore env W p.1) → ExO c k env W l (b ++ σ) ds body bb σ' ds₁ → (∀ x e, σ.lookup x = some e → σ'.lookup x = some e) → LoopO c k env W l tgt body σ es ds₁ ds₂ → LoopO c k env W l tgt body σ (e :: es) ds ds₂
section
variable {c : Cx} {k : Nat} {env : Env} {W : List Addr} {l : Addr} {σ σ' σ₁ : Loc} {ds ds' ds₁ : List PyData} {b : Bool}
theorem ExO1.append {x : Str} {px apos pos pos' : Pos} {a : PySem.Expr} {d : PyData} (hx : σ.lookup x = some (.v (.ref l))) (ha : Ev c k env σ a (.d d)) (hl : l ∉ W) (hc : ∀ y cc, env.cells.lookup y = some cc → cc ≠ l) (hsz : ds.length ≤ sizeLine)
    (hn : ∀ y p, a ≠ .Starred y p := by intro _ _ h; cases h) (hd : (x == ("__debug__" : Str)) = false := by decide) (hcd : (x == ("__classdict__" : Str)) = false := by decide) (hline : (apos.endLine == pos.line) = true := by rfl) :
    ExO1 c k env W l σ ds (.Expr (.Call (.Attribute (.Name x px) "append" apos) [a] [] pos) pos') true σ (ds ++ [d]) := by
  constructor; intro A s₀ F₀ X s R G g I O
  refine wpAny_Expr_any ?_ (interactive_of G)
  refine Call_method1 base_name (star_cons hn) hline ((Ev.name (k := k) (c := c) hx hd hcd).here R G g I fun v s₁ I₁ h₁ k₁ t₁ => ?_)
  obtain rfl : v = .ref l := h₁
  have O₁ := O.kb I (KB.ks k₁) hl
  obtain ⟨vs, ⟨n, hh⟩, r⟩ := id O₁
  refine ⟨"list", _, F.plainAttrs_list, PySem.F.slot_list_append, PySem.F.type_list_append, ⟨_, hh, rfl⟩, (fun a e => by cases e; exact ⟨_, hh, rfl⟩),
    method1_meets PySem.F.slot_list_append PySem.F.entry_list_append ?_⟩
  refine ha.here R G (g.ks k₁) I₁ fun v₂ s₂ I₂ h₂ k₂ t₂ => ?_
  obtain ⟨vs, ⟨n, hh⟩, r⟩ := O₁.kb I₁ (KB.ks k₂) hl
  obtain ⟨I₃, O₃, kb₃⟩ := ownTurn (f := fun y => y.push v₂) (vs' := vs ++ [v₂]) I₂ hl hc hh (by simp) (r.snoc (d := d) h₂)
  exact ⟨⟨_, hh, rfl⟩, PySem.F.args_list_append_2 _ _, _, PySem.AutoListH.list_append_list_val_0 l vs.toArray n v₂ (by rw [List.size_toArray, r.length]; exact hsz), hh, rfl, I₃, O₃, ((KB.ks k₁).trans (KB.ks k₂)).more.trans kb₃⟩
theorem ExO1.pop {x : Str} {px apos pos pos' : Pos} (hx : σ.lookup x = some (.v (.ref l))) (hl : l ∉ W) (hc : ∀ y cc, env.cells.lookup y = some cc → cc ≠ l) (hsz : ds.length ≤ sizeLine) (hne : ds ≠ [])
    (hd : (x == ("__debug__" : Str)) = false := by decide) (hcd : (x == ("__classdict__" : Str)) = false := by decide) (hline : (apos.endLine == pos.line) = true := by rfl) :
    ExO1 c k env W l σ ds (.Expr (.Call (.Attribute (.Name x px) "pop" apos) [] [] pos) pos') true σ ds.dropLast := by
  constructor; intro A s₀ F₀ X s R G g I O
  refine wpAny_Expr_any ?_ (interactive_of G)
  refine Call_method0 base_name hline ((Ev.name (k := k) (c := c) hx hd hcd).here R G g I fun v s₁ I₁ h₁ k₁ t₁ => ?_)
  obtain rfl : v = .ref l := h₁
  have O₁ := O.kb I (KB.ks k₁) hl
  obtain ⟨vs, ⟨n, hh⟩, r⟩ := id O₁
  have hlen := r.length
  have hvs : vs ≠ [] := fun z => hne (List.eq_nil_of_length_eq_zero (by rw [← hlen, z]; rfl))
  have hy : vs.toArray[vs.toArray.size - 1]? = some (vs.getLast hvs) := by
    rw [List.size_toArray]; simp [List.getLast?_eq_getElem?.symm, List.getLast?_eq_some_getLast hvs]
  have rd : RepAll (Ff F₀ s₀.heap (W ++ (l :: X))) s₁.heap vs.dropLast ds.dropLast := by
    rw [List.dropLast_eq_take, List.dropLast_eq_take, hlen]; exact r.take _
  obtain ⟨I₃, O₃, kb₃⟩ := ownTurn (f := fun y => y.eraseIdxIfInBounds (vs.toArray.size - 1)) (vs' := vs.dropLast) I₁ hl hc hh (by
    have e := List.dropLast_concat_getLast hvs
    have e2 : vs.toArray.size - 1 = vs.dropLast.length := by simp
    rw [e2]
    conv => lhs; rw [← e]
    simpa using erase_last vs.dropLast (vs.getLast hvs)) rd
  exact ⟨"list", _, F.plainAttrs_list, PySem.F.slot_list_pop, PySem.F.type_list_pop, ⟨_, hh, rfl⟩, (fun a e => by cases e; exact ⟨_, hh, rfl⟩),
    method0_meets PySem.F.slot_list_pop PySem.F.entry_list_pop ⟨_, hh, rfl⟩ (PySem.F.args_list_pop_1 _) (PySem.MeetsSeq.list_pop_last l vs.toArray n _ hy (by rw [List.size_toArray, r.length]; exact hsz)) ⟨hh, rfl, I₃, O₃, (KB.ks k₁).more.trans kb₃⟩⟩
theorem ExO1.iadd {x : Str} {px p : Pos} {value : PySem.Expr} {es : List PyData} (hx : σ.lookup x = some (.v (.ref l))) (ha : EvN c k env σ value es) (hk : CanStore env W x) (hl : l ∉ W) (hc : ∀ y cc, env.cells.lookup y = some cc → cc ≠ l) (hsz : ds.length + es.length ≤ sizeLine)
    (hcd : (x == ("__classdict__" : Str)) = false := by decide) :
    ExO1 c k env W l σ ds (.AugAssign (.Name x px) .Add value p) true ((x, .v (.ref l)) :: σ) (ds ++ es) := by
  constructor; intro A s₀ F₀ X s R G g I O
  have ml : l ∈ W ++ (l :: X) := List.mem_append_right _ (.head _)
  have ld : ∀ {Q : Value → Shared → Prop}, Q (.ref l) s → wpAny (model c.prog c.w) A (loadName env x) Q (fun _ _ => False) s := by
    intro Q hq
    obtain ⟨m, hn, hv⟩ := I.lay.ns
    obtain ⟨v, hh, q⟩ := hv x _ hx
    obtain rfl : v = .ref l := hh
    rcases q with ⟨q1, q2⟩ | ⟨q1 | q1, cc, q2, q3⟩
    · exact wpAny_loadName_local G.kind q1 hn q2 hq
    · exact wpAny_loadName_cell G.kind q1 q2 q3 hq
    · exact wpAny_loadName_free G.kind q1 q2 q3 hq hcd
  refine wpAny_AugAssign_Name (ld ?_)
  refine wpAny_mono (wpAny_toks_of (n := s.toks) (Nat.le_refl _) (ha.run A _ s R G (I.gd g) I.lay)) (fun v s₁ q => ?_) fun _ _ x => x.2.elim
  obtain ⟨t₁, k₁, b, ws, rfl, fb, nb, ⟨m, hb⟩, rb⟩ := q
  have I₁ := I.step k₁ t₁
  obtain ⟨vs, ⟨n, hh⟩, r⟩ := O.kb I (KB.ks k₁) hl
  refine iadd_ll hh hb (by rw [List.size_toArray, List.size_toArray, r.length, rb.length]; exact hsz) ?_
  obtain ⟨I₃, O₃, kb₃⟩ := ownTurn (f := fun y => y ++ ws.toArray) (vs' := vs ++ ws) (ds := ds ++ es) I₁ hl hc hh (by simp) (r.append (rb.mono (fun a n f => ext_Ff I n f.1) fun _ _ _ _ _ e => e))
  refine storeAny I₃ G hk (e := .v (.ref l)) rfl fun s₄ I₄ kb₄ => ⟨rfl, I₄, O₃.kb I₃ kb₄ hl, ((KB.ks k₁).more.trans kb₃).trans kb₄.more⟩

theorem ExO1.for {tgt iter : PySem.Expr} {body : List Stmt} {items : List Ent} {p : Pos} (hl : l ∉ W) (hc' : ∀ y cc, env.cells.lookup y = some cc → cc ≠ l) (hs : SrcX c k env σ iter items) (L : LoopO c k env W l tgt body σ items ds ds') : ExO1 c k env W l σ ds (.For tgt iter body [] p) true σ ds' := by
  constructor; intro A s₀ F₀ X s R G g I O
  refine wpAny_For ?_ hs.set
  have hsrc := hs.run A (Ff F₀ s₀.heap (W ++ (l :: X))) s R G (I.gd g) I.lay
  refine wpAny_mono (wpAny_toks_of (n := s.toks) (Nat.le_refl _) hsrc) (fun xv s₁ q => ?_) fun _ _ x => x.2.elim
  refine wpAny_mono (wpAny_toks_of (n := s₁.toks) (Nat.le_refl _) q.2) (fun it s₂ q' => ?_) fun _ _ x => x.2.elim
  obtain ⟨t₂, k₂, wr, fp, At, hwr, hit, h0, hfp⟩ := q'
  have t₂' := Nat.le_trans q.1 t₂
  have I₂ := I.grow (wr := wr) k₂ t₂' hwr (hit.live _ _ h0)
  have hWX := wrOut I hwr
  have ml : l ∈ W ++ (l :: X) := List.mem_append_right _ (.head _)
  have lwr : l ∉ wr := fun m => hWX l m ml
  have hc := wrCell I hwr
  have kbw : ∀ {a b : Shared}, KB (l :: W) s a → KB wr a b → KB (l :: W) s b := fun x y => KB.wr hwr x y
  have pm : ∀ a, a ∈ wr ++ (l :: X) ↔ a ∈ l :: (wr ++ X) := fun a => List.perm_middle.mem_iff
  have O₂ : OwnAt s₀ F₀ W (wr ++ X) l ds s₂ := by
    obtain ⟨vs, h, r⟩ := O.kb I (KB.ks k₂) hl
    refine ⟨vs, h, ?_⟩
    have := (HoldsAll.ofRep r)
    refine RepAll.mono (F := alive (Ff F₀ s₀.heap (W ++ (l :: X))) s.heap) (fun a n f => ?_) (fun _ _ _ _ _ e => e) ?_
    · obtain ⟨f, o, e⟩ := f
      rcases f with f | ⟨f, n⟩
      · exact .inl f
      · refine .inr ⟨f, fun m => ?_⟩
        rcases List.mem_append.mp m with m | m
        · exact n (List.mem_append_left _ m)
        · rcases List.mem_append.mp ((pm a).mpr m) with m | m
          · rw [(hwr a m).1] at e; injection e
          · exact n (List.mem_append_right _ m)
    · obtain ⟨vs', h', r'⟩ := O
      obtain ⟨n1, e1⟩ := h'
      obtain ⟨n2, e2⟩ := h
      have e3 := k₂.kp.keep _ _ (fun z => I.nmu (z ▸ ml)) (nfr_of (T := "list") rfl) e1
      rw [e3] at e2
      have : vs = vs' := by
        have e4 := congrArg Obj.data (Option.some.inj e2)
        injection e4 with e4
        exact (congrArg Array.toList e4).symm
      rw [this]
      exact r'.alive.kp k₂.kp
  refine codeAny_forLoop_any (fun n s' => ∃ i dn, n = items.length - i + 1 ∧ i ≤ items.length ∧ LoopO c k env W l tgt body σ (items.drop i) dn ds' ∧ At i s' ∧ InFn s₀ F₀ W (wr ++ (l :: X)) env σ s' ∧ OwnAt s₀ F₀ W (wr ++ X) l dn s' ∧ KB (l :: W) s s') ?_ (items.length + 1) ⟨0, ds, rfl, Nat.zero_le _, L, h0, I₂, O₂, (KB.ks k₂).more⟩
  rintro n s' ⟨i, dn, rfl, hi, L', ha, I', O', kb⟩
  have fpN : ∀ b, fp b → b ≠ tab0 → b ∉ l :: W := fun b f n m => by
    rcases List.mem_cons.mp m with e | m
    · rcases (hfp b f n).2 with z | z
      · exact I.nFf ml (e ▸ z)
      · obtain ⟨o, q⟩ := I.live l ml
        rw [e, q] at z; injection z
    · exact ext_nW I (hfp b f n).2 m
  cases q : items[i]? with
  | none =>
    have hi' : i = items.length := Nat.le_antisymm hi (List.getElem?_eq_none_iff.mp q)
    subst hi'
    rw [List.drop_length] at L'
    cases L'
    have key : wpAny (model c.prog c.w) A (pyNext it) (fun r s₂ => ∃ h' tk, r = none ∧ s₂ = { s' with heap := h', toks := tk } ∧ KeepBut wr s'.heap h') (fun _ _ => False) s' :=
      hit.done s' _ _ ha fun h' tk q1 => ⟨h', tk, rfl, rfl, q1⟩
    refine wpAny_mono (wpAny_toks_of (n := s'.toks) (Nat.le_refl _) key) (fun r s₂ q => ?_) fun _ _ x => x.2.elim
    obtain ⟨t, h', tk, rfl, rfl, q1⟩ := q
    refine wpAny_execs_nil ⟨rfl, I.close I' q1 t hWX hc (hit.tab ha q1), ?_, kbw kb (KB.turn q1 (hit.nf _ _ ha))⟩
    obtain ⟨vs, h, r⟩ := O'
    refine ⟨vs, h.at fun o _ e => q1 l o lwr e, r.mono (fun a n f => ?_) fun a o f n _ e => q1 a o (fun m => ?_) e⟩
    · exact Ff_le (Ff_perm (fun a => (pm a).symm) f)
    · exact I'.nFf (List.mem_append_right _ (List.mem_append_left _ m)) (Ff_perm (fun a => (pm a).symm) f)
  | some e =>
    have hlt : i < items.length := (List.getElem?_eq_some_iff.mp q).1
    rw [List.drop_eq_getElem_cons hlt, (List.getElem?_eq_some_iff.mp q).2] at L'
    cases L' with
    | step B hst hx hσ r =>
      rename_i b bb σ' d₁
      refine turnAssign (items := items) (es := items) (tgt := tgt) (b := σ) (Q' := fun _ _ => True) I hwr hit q ha I' fun v s₂ kb₂ ha₂ I₂ hv => goTo B hit ha₂ hv ?_
      refine wpAny_mono (assignTo (E := fun _ _ => False) B R G hst I₂ hv fun s₃ I₃ kb₃ => ?_) (fun _ _ x => x) fun _ _ x => x.elim
      have I₃' := I₃.perm pm
      have O₂ : OwnAt s₀ F₀ W (wr ++ X) l dn s₂ := by
        obtain ⟨vs, h, r⟩ := O'
        refine ⟨vs, h.at fun o c e => kb₂.keep l o lwr (fun z => I.nmu (z ▸ ml)) c e, r.mono (fun _ _ f => f) fun a o f n c e => kb₂.keep a o (fun m => ?_) n c e⟩
        exact I'.nFf (List.mem_append_right _ (List.mem_append_left _ m)) (Ff_perm (fun a => (pm a).symm) f)
      have O₃ := O₂.kb (I₂.perm pm) kb₃ hl
      refine wpAny_mono (hx.run A s₀ F₀ (wr ++ X) s₃ R G (g.kb ((kbw kb kb₂).trans kb₃.more)) I₃' O₃) (fun f s₄ z => ?_) fun _ _ x => x.elim
      obtain ⟨rfl, I₄, O₄, kb₄⟩ := z
      have kbA : KB (l :: W) s₂ s₄ := kb₃.more.trans kb₄
      have fin : ∃ m, m < items.length - i + 1 ∧ ∃ i dn, m = items.length - i + 1 ∧ i ≤ items.length ∧ LoopO c k env W l tgt body σ (items.drop i) dn ds' ∧ At i s₄ ∧ InFn s₀ F₀ W (wr ++ (l :: X)) env σ s₄ ∧ OwnAt s₀ F₀ W (wr ++ X) l dn s₄ ∧ KB (l :: W) s s₄ :=
        ⟨items.length - (i + 1) + 1, by lia, i + 1, _, rfl, hlt, r, hit.frame _ _ _ ha₂ (fun b o f n c e => kbA.keep b o (fpN b f n) n c e), (I₄.sub hσ).perm (fun a => (pm a).symm), O₄, (kbw kb kb₂).trans kbA⟩
      cases bb with
      | true => exact fin
      | false => exact fin
end
end Mine
end
section
open PySem PySem.Calls PySem.W
namespace Mine
variable [iO : Old]
inductive WhileO (c : Cx) (k : Nat) (env : Env) (W : List Addr) (l : Addr) (test : PySem.Expr) (body : List Stmt) : Nat → Loc → List PyData → Loc → List PyData → Prop
  | done {n σ ds} : EvB c k env σ test false → WhileO c k env W l test body n σ ds σ ds
  | next {n σ ds σ₁ ds₁ σ₂ σ' ds'} : EvB c k env σ test true → ExO c k env W l σ ds body true σ₁ ds₁ → (∀ x e, σ₂.lookup x = some e → σ₁.lookup x = some e) → WhileO c k env W l test body n σ₂ ds₁ σ' ds' → WhileO c k env W l test body (n + 1) σ ds σ' ds'
section
variable {c : Cx} {k : Nat} {env : Env} {W : List Addr} {l : Addr} {σ σ' σ₁ : Loc} {ds ds' ds₁ : List PyData} {b : Bool}
theorem ExO1.while {test : PySem.Expr} {body : List Stmt} {p : Pos} {n : Nat} (hl : l ∉ W) (L : WhileO c k env W l test body n σ ds σ' ds') : ExO1 c k env W l σ ds (.While test body [] p) true σ' ds' := by
  constructor; intro A s₀ F₀ X s R G g I O
  refine wpAny_While (codeAny_whileLoop (fun n s' => ∃ τ dn, WhileO c k env W l test body n τ dn σ' ds' ∧ InFn s₀ F₀ W (l :: X) env τ s' ∧ OwnAt s₀ F₀ W X l dn s' ∧ KB (l :: W) s s') ?_ n ⟨σ, ds, L, I, O, KB.refl⟩)
  rintro n s' ⟨τ, dn, L', I', O', kb⟩
  cases L' with
  | done ht => exact ht.here R G (g.kb kb) I' fun s₂ I₂ k₂ => wpAny_execs_nil ⟨rfl, I₂, O'.kb I' (KB.ks k₂) hl, kb.trans (KB.ks k₂)⟩
  | next ht hb hs r =>
    refine ht.here R G (g.kb kb) I' fun s₂ I₂ k₂ => wpAny_mono (hb.run A s₀ F₀ X s₂ R G ((g.kb kb).ks k₂) I₂ (O'.kb I' (KB.ks k₂) hl)) (fun f s₃ q => ?_) fun _ _ x => x.elim
    obtain ⟨rfl, I₃, O₃, kb₃⟩ := q
    exact ⟨_, Nat.lt_succ_self _, _, _, r, I₃.sub hs, O₃, (kb.trans (KB.ks k₂)).trans kb₃⟩

theorem Ex.own {names : List (Str × NameKind)} {x : Str} {px p : Pos} {value : PySem.Expr} {st : Stmt} {ss : List Stmt} {o : Out} (T : EnvT env names W) (hv : EvN c k env σ value ds) (hk : CanStore env W x)
    (hb : ∀ l, l ∉ W → (∀ y cc, env.cells.lookup y = some cc → cc ≠ l) → ExO1 c k env W l ((x, .v (.ref l)) :: σ) ds st true ((x, .v (.ref l)) :: σ') ds')
    (rest : Ex c k env W ((x, .d (.list ds')) :: σ') ss o) (hs : swapsWith value (some (.Name x px)) p.line env = pure false := by rfl) :
    Ex c k env W σ (.Assign [.Name x px] value p :: st :: ss) o := by
  constructor; intro A s₀ F₀ X s R G g I
  refine wpAny_execs_cons (wpAny_Assign_Name ?_ hs)
  refine wpAny_mono (wpAny_toks_of (n := s.toks) (Nat.le_refl _) (hv.run A _ s R G (I.gd g) I.lay)) (fun v s₁ q => ?_) fun _ _ x => x.2.elim
  obtain ⟨t₁, k₁, l, vs, rfl, fl, nl, hh, r⟩ := q
  have hwr : ∀ a ∈ [l], s.heap.get? a = none ∧ a ≠ tab0 := fun a m => by rw [List.mem_singleton.mp m]; exact ⟨fl, nl⟩
  have I₁ := I.grow (wr := [l]) k₁ t₁ hwr (fun a m => by rw [List.mem_singleton.mp m]; obtain ⟨n, e⟩ := hh; exact ⟨_, e⟩)
  have hWX : l ∉ W ++ X := fun mw => by
    obtain ⟨o, e⟩ := I.live l mw
    rw [fl] at e; injection e
  have hlW : l ∉ W := fun m => hWX (List.mem_append_left _ m)
  have hc : ∀ y cc, env.cells.lookup y = some cc → cc ≠ l := fun y cc h z => by
    obtain ⟨⟨v, o, e, _⟩, _⟩ := I.lay.cell y cc h
    rw [z, fl] at e; injection e
  have O₁ : OwnAt s₀ F₀ W X l ds s₁ := by
    refine ⟨vs, hh, r.mono (fun a n f => ?_) fun _ _ _ _ _ e => e⟩
    rcases ext_Ff I n f.1 with z | ⟨z1, z2⟩
    · exact .inl z
    · refine .inr ⟨z1, fun m => ?_⟩
      rcases List.mem_append.mp m with m | m
      · exact z2 (List.mem_append_left _ m)
      · rcases List.mem_cons.mp m with m | m
        · exact f.2 m
        · exact z2 (List.mem_append_right _ m)
  refine storeAny I₁ G hk (e := .v (.ref l)) rfl fun s₂ I₂ kb₂ => ?_
  have O₂ := O₁.kb I₁ kb₂ hlW
  refine wpAny_execs_cons (wpAny_mono ((hb l hlW hc).run A s₀ F₀ X s₂ R G (g.kb ((KB.ks k₁).trans kb₂)) I₂ O₂) (fun f s₃ q => ?_) fun _ _ x => x.elim)
  obtain ⟨rfl, I₃, O₃, kb₃⟩ := q
  have kbA : KB W s s₃ := ((KB.ks k₁).trans kb₂).own kb₃ fl
  have I₄ : InFn s₀ F₀ W X env ((x, .d (.list ds')) :: σ') s₃ := by
    have I₅ := I.close I₃ (wr := [l]) (h' := s₃.heap) (tk := s₃.toks) (fun _ _ _ e => e) (Nat.le_refl _) (fun a m => by rw [List.mem_singleton.mp m]; exact hWX) (fun y cc h m => hc y cc h (List.mem_singleton.mp m)) (fun T => T)
    refine ⟨I₅.ks, I₅.tk, ⟨?_, I₅.lay.nL, I₅.lay.nT, I₅.lay.cell, I₅.lay.apart⟩, I₅.new, I₅.live, I₅.loc, I₅.nmu, I₅.f0⟩
    obtain ⟨m, hn, hvv⟩ := I₅.lay.ns
    refine ⟨m, hn, fun y e hy => ?_⟩
    rw [List.lookup_cons] at hy
    by_cases hyx : y = x
    · subst hyx
      rw [beq_self_eq_true] at hy
      obtain rfl := Option.some.inj hy
      obtain ⟨v, hh', q⟩ := hvv y (.v (.ref l)) (by rw [List.lookup_cons, beq_self_eq_true])
      obtain rfl : v = .ref l := hh'
      obtain ⟨ws, hw, rw'⟩ := O₃
      refine ⟨_, Rep.mkList (.inr ⟨?_, hWX⟩) nl hw.isList (rw'.mono (fun a _ f => Ff_le (wr := [l]) f) fun _ _ _ _ _ e => e), q⟩
      exact I₃.new l (List.mem_append_right _ (.head _))
    · rw [beq_false_of_ne hyx] at hy
      exact hvv y e (by rw [List.lookup_cons, beq_false_of_ne hyx]; exact hy)
  exact wpAny_mono (rest.run A s₀ F₀ X s₃ R G (g.kb kbA) I₄) (fun _ _ q => ⟨q.1, kbA.trans q.2⟩) fun _ _ x => x
end
end Mine
end
section
open PySem PySem.Calls PySem.W
namespace Mine
variable [iO : Old]
section
variable {prog : Program} {w : World} {A : Around} {E : Value → Shared → Prop} {s : Shared}
theorem issub_str1 {Q : Fin → Shared → Prop} {tk : Tok} {dep : Int} (hq : Q (.done (.ret (.bool true))) s) :
    wpAny (model prog w) A (Builtin.«issubclass.nested» ⟨[.type "str", .type "str", .int dep tk], []⟩) Q E s := by
  have hm : typeOf (.type "str") = pure (.type "type") := by first | (with_unfolding_all rfl) | kernel_rfl
  have hself : isSubtype (.type "str") (.type "str") = pure true := by rw [isSubtype_type]; kernel_rfl
  repeat (any_goals (first | assumption | (rw [if_pos hm]) | (rw [hself]) | wp_step))
theorem kind_nested : builtinKind "issubclass.nested" = none := by decide +kernel
theorem plain_nested : plainId "issubclass.nested" = true := by decide +kernel
theorem args_nested (a b c : Value) : argsOk "issubclass.nested" ⟨[a, b, c], []⟩ := by unfold argsOk; kernel_rfl
theorem issub_tuple {tp : Addr} {Q : Fin → Shared → Prop} {tk : Tok} {arr : Array Value} {c : Value} {n : Nat} (htp : s.heap.get? tp = some { cls := .type "tuple", data := .seq arr n }) (harr : arr.toList = [.type "str", c]) (hq : Q (.done (.ret (.bool true))) s) :
    wpAny (model prog w) A (Builtin.«issubclass.nested» ⟨[.type "str", .ref tp, .int 0 tk], []⟩) Q E s := by
  obtain ⟨h, g, d, t, os⟩ := s
  have hT2 : (⟨h, g, d, t, os⟩ : Shared).TypeIs (.ref tp) "tuple" := ⟨_, htp, rfl⟩
  have f1 := F.isi_sub_tuple
  repeat (any_goals (first | assumption | wp_step))
  refine wpAny_arrayLoop ?_
  simp only [Option.getD_some, harr]
  rw [List.forIn_cons]
  refine wpAny_bind (wpAny_bind (call_function_meets kind_nested plain_nested PySem.F.entry_issubclass_nested (args_nested _ _ _) (S := fun _ R s => R (.ok (.ret (.bool true))) s) (fun _ _ _ _ _ hs => issub_str1 hs) ?_))
  show wpAny _ _ (truthy (.bool true) >>= _) _ _ _
  refine wpAny_bind (m := truthy (.bool true)) (wpAny_pure ?_)
  exact wpAny_bind (wpAny_pure (wpAny_pure (wpAny_pure (wpAny_pure hq))))
theorem issub_call {tp : Addr} {Q : Value → Shared → Prop} {c : Value} {n : Nat} (htp : s.heap.get? tp = some { cls := .type "tuple", data := .seq #[.type "str", c] n }) (hq : Q (.bool true) s) :
    wpAny (model prog w) A (call (.builtin "issubclass") [.type "str", .ref tp]) Q E s :=
  PyProof.Rows.call_issubclass (S := fun _ R s => s.heap.get? tp = some { cls := .type "tuple", data := .seq #[.type "str", c] n } ∧ R (.ok (.ret (.bool true))) s) (fun _ _ _ _ _ hs => PyProof.Rows.issubclass_outer (issub_tuple hs.1 rfl hs.2)) ⟨htp, hq⟩
end

section
variable {c : Cx} {k : Nat} {env : Env} {σ : Loc}
theorem FnC.typeStr {x : Str} : FnC c k (.type "type") [.d (.str x)] (.v (.type "str")) := by
  constructor; intro A F s vs R g h
  obtain ⟨v, rfl, h'⟩ := h.one
  obtain ⟨t, rfl⟩ := h'.isStr
  exact call_type_of (Tx := "str") rfl (by decide +kernel) ⟨Ks.refl _, rfl⟩
theorem FnC.strBytes {x : Str} : FnC c k (.builtin "isinstance") [.d (.str x), .v (.type "bytes")] (.d (.bool false)) := by
  constructor; intro A F s vs R g h
  obtain ⟨v, u, rfl, h', h2⟩ := h.two
  obtain ⟨t, rfl⟩ := h'.isStr
  obtain rfl : u = .type "bytes" := h2
  exact PySem.IsiPair.str_bytes ⟨Ks.tok, .bool _⟩
theorem Ev.issub {x y z : PySem.Expr} {n : Nat} {p tp q : Pos} {u : Value} (hf : Ev c k env σ (.Name "issubclass" q) (.v (.builtin "issubclass"))) (hx : Ev c k env σ x (.v (.type "str"))) (hy : Ev c k env σ y (.v (.type "str"))) (hz : Ev c k env σ z (.v u))
    (nx : ∀ y p, x ≠ .Starred y p := by intro _ _ h; cases h) (ny : ∀ w p, y ≠ .Starred w p := by intro _ _ h; cases h) (nz : ∀ y p, z ≠ .Starred y p := by intro _ _ h; cases h) :
    Ev c k env σ (.Call (.Name "issubclass" q) [x, .Tuple [y, z] n tp] [] p) (.d (.bool true)) := by
  constructor; intro A F s R G g L
  refine PyProof.Rows.Call_ ((hf.run A F s R G g L).use fun fv s₁ k₁ t₁ h₁ => ?_)
  obtain rfl : fv = .builtin "issubclass" := h₁
  have g₁ := g.ks k₁ t₁
  have L₁ := L.kp k₁.kp
  have hs : starEach [x, .Tuple [y, z] n tp] env = [(false, eval x env), (false, eval (.Tuple [y, z] n tp) env)] := by
    rw [star_cons nx]; rfl
  refine callWith_builtin (by rw [hs]; rfl) ?_
  rw [hs]
  refine evalArgs_plain (spliced_cons ((hx.run A F s₁ R G g₁ L₁).use fun v s₂ k₂ t₂ h₂ => ?_))
  obtain rfl : v = .type "str" := h₂
  have g₂ := g₁.ks k₂ t₂
  refine spliced_cons (PyProof.Rows.Tuple_ (k := n) (wpAny_mono (spl (pos := tp) (es := [.v (.type "str"), .v u]) R G (.cons hy (.cons hz .nil nz) ny) g₂ (L₁.kp k₂.kp)) (fun vs s₃ h₃ => ?_) fun _ _ x => x))
  obtain ⟨⟨k₃, t₃⟩, h₃⟩ := h₃
  obtain ⟨v₁, v₂, rfl, e1, e2⟩ := h₃.two
  obtain rfl : v₁ = .type "str" := e1
  obtain rfl : v₂ = u := e2
  refine wpAny_newObj_type (spliced_nil ?_) (by show ([_, _] : List Value).toArray.size ≤ sizeLine; rw [List.size_toArray]; exact Nat.le_of_ble_eq_true rfl)
  refine issub_call (n := 0) (Heap.get?_push_size _ rfl) ⟨((k₁.trans k₂).trans k₃).trans (Ks.mk (tk := s₃.toks) (Kp.push _ _)), .bool _⟩
end
end Mine
end
section
open PySem PySem.Calls PySem.W PyProof.Rows
namespace Mine
def loose : List Str := ["_wall", "cmp_to_key", "_initial_missing", "reduce", "filterfalse", "_filter", "_plain_name", "ABCMeta", "_ABCLike", "_abc_plain_meta", "fspath", "_check_arg_types", "_get_sep", "join", "splitroot", "dirname", "normpath", "commonpath", "_law_steps", "_law_path", "_law_covered", "_law_compared", "_law_led", "_law_text", "_law_told"]
def top : Program := view PySem.Challenge.pw_il0116_01 [35]
theorem said_ok : PySem.Challenge.rw_il0116_01.wellSaid = true := by kernel_rfl
set_option hygiene false in
local macro_rules | `(tactic| o_head $H) => `(tactic| (
  refine holds_open (q := Mine.top) (loose := Mine.loose) (Xt := fun s => xlAt Mine.top [] s && recOk [] s) (XP := XL Mine.top []) (Yf := Hook.obs $H) (Ya := Hook.val $H) (YP := Hook.says $H) (N := 3400) ?hl (Hook.of $H) (Hook.keeps $H) (fun s e => xl_of s (Bool.and_eq_true_iff.mp e).1) XL.keeps (by rfl) (by rfl) (by rfl) (fun s e => recFacts_of (Bool.and_eq_true_iff.mp e).2) (by rfl) (by assumption) (by decide +kernel) ⟨rfl, rfl, rfl, rfl, rfl, by decide +kernel⟩ ?hw ?hc
  (case hl => (intro w; kernel_rfl))
  ))
set_option hygiene false in
local macro_rules | `(tactic| o_law) => `(tactic| (refine holds_law Mine.said_ok fun said => ?_))
open_top hd for PySem.Challenge.rw_il0116_01
end Mine
end
section
open PySem PySem.Calls PySem.W
namespace Mine
variable [iO : Old]
noncomputable def cx (w : World) : Cx := ⟨PySem.Challenge.pw_il0116_01, w, hd.heap_1 w.params⟩
theorem fspath_c (w : World) (k : Nat) (x : Str) : FnC (cx w) (k + 1) (.ref 154) [.d (.str x)] (.d (.str x)) := by
  refine' FnOk.plain (ns := ["path"]) ?ok rfl ?hx (binds1 ?hb)
  case ok => (refine' ⟨⟨_, rfl, rfl⟩, rfl, rfl, rfl, rfl, rfl, rfl, rfl, rfl, _, _, _, _⟩ <;> decide)
  case hb => intro v; rfl
  intro env W T
  refine Ex.cons (Ex1.assign (Ev.call (Ev.biT T rfl rfl rfl) (.inr (.inl ⟨_, rfl⟩)) (.cons (Ev.name rfl) .nil (by intro _ _ h; cases h)) FnC.typeStr) (T.store (by decide))) ?_
  refine Ex.stop (Ex1.ite (v := true) (EvB.plain (Ev.issub (Ev.biT T rfl rfl rfl) (Ev.name rfl) (Ev.biT T rfl rfl rfl) (Ev.biT T rfl rfl rfl)) Tru.bool) (fun _ => Ex.one (Ex1.ret (Ev.name rfl))) (fun h => nomatch h)) ?_
  exact fun _ h => nomatch h
theorem EvAll.one {c : Cx} {k : Nat} {env : Env} {σ : Loc} {x : PySem.Expr} {e : Ent} (h : Ev c k env σ x e) (n : ∀ y p, x ≠ .Starred y p := by intro _ _ h; cases h) : EvAll c k env σ [x] [e] := .cons h .nil n
theorem EvAll.two {c : Cx} {k : Nat} {env : Env} {σ : Loc} {x y : PySem.Expr} {e f : Ent} (h : Ev c k env σ x e) (h2 : Ev c k env σ y f) (n : ∀ y p, x ≠ .Starred y p := by intro _ _ h; cases h) (n2 : ∀ z p, y ≠ .Starred z p := by intro _ _ h; cases h) : EvAll c k env σ [x, y] [e, f] := .cons h (.cons h2 .nil n2) n
theorem EvAll.three {c : Cx} {k : Nat} {env : Env} {σ : Loc} {x y z : PySem.Expr} {e f g : Ent} (h : Ev c k env σ x e) (h2 : Ev c k env σ y f) (h3 : Ev c k env σ z g) (n : ∀ y p, x ≠ .Starred y p := by intro _ _ h; cases h) (n2 : ∀ z p, y ≠ .Starred z p := by intro _ _ h; cases h) (n3 : ∀ y p, z ≠ .Starred y p := by intro _ _ h; cases h) : EvAll c k env σ [x, y, z] [e, f, g] := .cons h (.cons h2 (.cons h3 .nil n3) n2) n
theorem isBytes {c : Cx} {k : Nat} {env : Env} {σ : Loc} {a b : PySem.Expr} {q p : Pos} {x : Str} (hf : Ev c k env σ (.Name "isinstance" q) (.v (.builtin "isinstance"))) (ha : Ev c k env σ a (.d (.str x))) (hb : Ev c k env σ b (.v (.type "bytes")))
    (n : ∀ y p, a ≠ .Starred y p := by intro _ _ h; cases h) (n2 : ∀ y p, b ≠ .Starred y p := by intro _ _ h; cases h) : EvB c k env σ (.Call (.Name "isinstance" q) [a, b] [] p) false :=
  EvB.plain (Ev.call hf (.inl ⟨_, rfl⟩) (EvAll.two ha hb n n2) FnC.strBytes) Tru.bool
theorem getsep_c (w : World) (k : Nat) (x : Str) : FnC (cx w) (k + 1) (.ref 168) [.d (.str x)] (.d (.str "/")) := by
  refine' FnOk.plain (ns := ["path"]) ?ok rfl ?hx (binds1 ?hb)
  case ok => (refine' ⟨⟨_, rfl, rfl⟩, rfl, rfl, rfl, rfl, rfl, rfl, rfl, rfl, _, _, _, _⟩ <;> decide)
  case hb => intro v; rfl
  intro env W T
  refine Ex.one (Ex1.ite (v := false) (isBytes (Ev.biT T rfl rfl rfl) (Ev.name rfl) (Ev.biT T rfl rfl rfl)) (fun h => nomatch h) (fun _ => Ex.one (Ex1.ret Ev.cstr)))
end Mine
end
section
open PySem PySem.Calls PySem.W
namespace Mine
variable [iO : Old]
theorem EvB.eq {c : Cx} {k : Nat} {env : Env} {σ : Loc} {x : PySem.Expr} {a b : Bool} (h : EvB c k env σ x a) (e : a = b) : EvB c k env σ x b := e ▸ h
theorem Ev.eq {c : Cx} {k : Nat} {env : Env} {σ : Loc} {x : PySem.Expr} {a b : Ent} (h : Ev c k env σ x a) (e : a = b) : Ev c k env σ x b := e ▸ h
theorem stOne {env : Env} {W : List Addr} {x : Str} {e : Ent} (h : CanStore env W x) : ∀ p ∈ [(x, e)], CanStore env W p.1 := fun p hp => by rw [List.mem_singleton.mp hp]; exact h
theorem Op2.iaddStr {c : Cx} {k : Nat} {a b : Str} (hs : a.length + b.length ≤ sizeLine) : Op2 c k (inplaceOp .Add) (.d (.str a)) (.d (.str b)) (.d (.str (a ++ b))) := by
  constructor; intro A F s v₁ v₂ R g h₁ h₂; obtain ⟨_, rfl⟩ := h₁.isStr; obtain ⟨_, rfl⟩ := h₂.isStr
  exact SB.iadd (fun _ _ => ⟨Ks.tok, .str _ _⟩) hs
noncomputable def jn (b : Str) : Str := if Txt.startswith b "/" then b else "/" ++ b
theorem join_c (w : World) (k : Nat) (b : Str) (hs : b.length ≤ 1000) : FnC (cx w) (k + 2) (.ref 175) [.d (.str "/"), .d (.str b)] (.d (.str (jn b))) := by
  refine' FnOk.fn (ns := ["a", "p"]) (es' := [.d (.str "/"), .d (.tuple [.str b])]) ?ok rfl ?hx ?hb
  case ok => (refine' ⟨⟨_, rfl, rfl⟩, rfl, rfl, rfl, rfl, rfl, rfl, rfl, rfl, _, _, _, _⟩ <;> decide)
  case hb =>
    intro A F s vs g hvs
    obtain ⟨v, u, rfl, h1, h2⟩ := hvs.two
    unfold bindArgs
    dsimp only
    repeat (any_goals (first | assumption | wp_step))
    have hr : RepAll (F.ext s.heap) s.heap [u] [.str b] := .cons (Holds.mono (e := .d (.str b)) (fun _ _ f => .inl f) (fun _ _ _ _ _ e => e) h2) .nil
    have z := newTup_rep (F := F) (tk := s.toks) g hr
    exact ⟨z.1, BindH.cons (h1.mono (fun _ _ f => .inl f) fun a o _ n e => (Kp.push _ _).keep a o n e) (BindH.cons z.2 .nil)⟩
  intro env W T
  refine Ex.cons (Ex1.assign (Ev.call (Ev.globT T rfl rfl) (.inr (.inr rfl)) (EvAll.one (Ev.name rfl)) (fspath_c w k _)) (T.store (by decide))) ?_
  refine Ex.cons (Ex1.assign (Ev.call (Ev.globT T rfl rfl) (.inr (.inr rfl)) (EvAll.one (Ev.name rfl)) (getsep_c w k _)) (T.store (by decide))) ?_
  refine Ex.cons (Ex1.assign (Ev.name rfl) (T.store (by decide))) ?_
  have hb : ∀ {σ}, σ.lookup ("b" : Str) = some (.d (.str b)) → Ex1 (cx w) (k + 1) env W σ (.Assign [.Name "b" ⟨137, 12, 137, 13⟩] (.Call (.Name "fspath" ⟨137, 16, 137, 22⟩) [.Name "b" ⟨137, 23, 137, 24⟩] [] ⟨137, 16, 137, 25⟩) ⟨137, 12, 137, 25⟩) (.next ((("b" : Str), .d (.str b)) :: σ)) := fun h =>
    Ex1.assign (Ev.call (Ev.globT T rfl rfl) (.inr (.inr rfl)) (EvAll.one (Ev.name h)) (fspath_c w k _)) (T.store (by decide))
  have one : (Tru (cx w) (.d (.str "/")) true) := Tru.str (x := "/") (by decide)
  by_cases hv : Txt.startswith b "/" = true
  · refine' Ex.cons (Ex1.try (Ex.one (Ex1.for (items := [.d (.str b)]) (SrcX.tuple (ds := [.str b]) (Ev.name rfl)) (.next .name (stOne (T.store (by decide))) (Ex.cons (hb rfl) (Ex.one (Ex1.ite (v := true) ?t (fun _ => Ex.one (Ex1.assign (Ev.name rfl) (T.store (by decide)))) (fun h => nomatch h)))) .done)))) (Ex.one (Ex1.ret (Ev.name ?r)))
    case t => exact (EvB.or (EvB.plain (Ev.startswith (Ev.name rfl) (Ev.name rfl)) Tru.bool) (b := false) (fun h => nomatch hv ▸ h)).eq (by rw [hv]; rfl)
    case r => show some (Ent.d (.str b)) = _; unfold jn; rw [if_pos hv]
  · have hv' : Txt.startswith b "/" = false := by simpa using hv
    refine' Ex.cons (Ex1.try (Ex.one (Ex1.for (items := [.d (.str b)]) (SrcX.tuple (ds := [.str b]) (Ev.name rfl)) (.next .name (stOne (T.store (by decide))) (Ex.cons (hb rfl) (Ex.one (Ex1.ite (v := false) ?t (fun h => nomatch h) (fun _ => Ex.one (Ex1.ite (v := true) ?t2 (fun _ => Ex.one (Ex1.aug (Ev.name rfl) ?aug1 (T.store (by decide)) rfl)) (fun h => nomatch h)))))) .done)))) (Ex.one (Ex1.ret (Ev.name ?r)))
    case t => exact (EvB.or (EvB.plain (Ev.startswith (Ev.name rfl) (Ev.name rfl)) Tru.bool) (fun h => EvB.or (EvB.not (EvB.plain (Ev.name rfl) one)) (fun _ => EvB.or_nil))).eq (by rw [hv']; rfl)
    case t2 => exact (EvB.plain (Ev.endswith (Ev.name rfl) (Ev.name rfl)) Tru.bool).eq (by decide +kernel)
    case aug1 => exact Op2.iaddStr (by show 1 + b.length ≤ sizeLine; have := sizeLine_eq; lia)
    case r => show some (Ent.d (.str ("/" ++ b))) = _; unfold jn; rw [if_neg hv]
end Mine
end
section
open PySem PySem.Calls PySem.W
namespace Mine
variable [iO : Old]
theorem cps_eq {x y : Str} : (x.cps.toList == y.cps.toList) = (x == y) := by
  obtain ⟨a⟩ := x; obtain ⟨b⟩ := y
  by_cases h : a = b
  · subst h; simp
  · have h1 : (Str.mk a == Str.mk b) = false := by
      apply beq_false_of_ne
      intro z; cases z; exact h rfl
    rw [h1]
    apply beq_false_of_ne
    intro z; exact h (Array.toList_inj.mp z)
theorem Op2.eqStr {c : Cx} {k : Nat} {a b : Str} : Op2 c k (compareOp .Eq) (.d (.str a)) (.d (.str b)) (.d (.bool (a == b))) := by
  constructor; intro A F s v₁ v₂ R g h₁ h₂; obtain ⟨_, rfl⟩ := h₁.isStr; obtain ⟨_, rfl⟩ := h₂.isStr
  exact P.eq_str ⟨Ks.refl _, by rw [cps_eq]; exact .bool _⟩
theorem Op2.neStr {c : Cx} {k : Nat} {a b : Str} : Op2 c k (compareOp .NotEq) (.d (.str a)) (.d (.str b)) (.d (.bool (!(a == b)))) := by
  constructor; intro A F s v₁ v₂ R g h₁ h₂; obtain ⟨_, rfl⟩ := h₁.isStr; obtain ⟨_, rfl⟩ := h₂.isStr
  refine P.ne_str ⟨Ks.refl _, ?_⟩
  have : (a.cps.toList != b.cps.toList) = !(a == b) := by rw [← cps_eq]; rfl
  rw [this]; exact .bool _
theorem eqv_str {a b : Str} : PyData.eqv (.str a) (.str b) = (a == b) := by first | rfl | (simp [PyData.eqv])
noncomputable def GoodN (n : Nat) (d : PyData) : Prop := d.canLay0 = true ∧ d.depth ≤ n
theorem goodAll {n : Nat} : ∀ {xs : List PyData}, (∀ d ∈ xs, GoodN n d) → PyData.canLayAll0 xs = true ∧ PyData.depthAll xs ≤ n := by
  intro xs
  induction xs with
  | nil =>
    intro _
    exact ⟨by simp [PyData.canLayAll0], by simp [PyData.depthAll]⟩
  | cons d r ih =>
    intro h
    obtain ⟨a, b⟩ := h d (.head _)
    obtain ⟨c, e⟩ := ih fun d hd => h d (.tail _ hd)
    refine ⟨by simp [PyData.canLayAll0, a, c], ?_⟩
    simp only [PyData.depthAll]; lia
theorem GoodN.list {n : Nat} {xs : List PyData} (h : ∀ d ∈ xs, GoodN n d) : GoodN (n + 1) (.list xs) := by
  obtain ⟨a, b⟩ := goodAll h
  exact ⟨by simp [PyData.canLay0, a], by simp only [PyData.depth]; lia⟩
theorem GoodN.str {n : Nat} {x : Str} (h : PyData.strOk x = true) : GoodN n (.str x) := ⟨by simp [PyData.canLay0, h], by simp [PyData.depth]⟩
theorem GoodN.good {n : Nat} {d : PyData} (h : GoodN n d) (hn : n ≤ 50 := by decide) : Good d := ⟨h.1, Nat.le_trans h.2 hn⟩
theorem GoodN.strs {n : Nat} {xs : List Str} (h : ∀ x ∈ xs, PyData.strOk x = true) : GoodN (n + 1) (.list (xs.map .str)) := .list fun d hd => by obtain ⟨x, hx, rfl⟩ := List.mem_map.mp hd; exact .str (h x hx)
noncomputable abbrev encRow (r : List Str) : PyData := .list (r.map .str)
noncomputable abbrev encRows (r : List (List Str)) : PyData := .list (r.map encRow)
theorem GoodN.rows {n : Nat} {xs : List (List Str)} (h : ∀ r ∈ xs, ∀ x ∈ r, PyData.strOk x = true) : GoodN (n + 2) (encRows xs) := .list fun d hd => by obtain ⟨x, hx, rfl⟩ := List.mem_map.mp hd; exact .strs (h x hx)
theorem eqvAll_map {α : Type} [BEq α] {f : α → PyData} (hf : ∀ a b, PyData.eqv (f a) (f b) = (a == b)) : ∀ xs ys : List α, PyData.eqvAll (xs.map f) (ys.map f) = (xs == ys)
  | [], [] => by simp [PyData.eqvAll]
  | [], _ :: _ => by simp [PyData.eqvAll]
  | _ :: _, [] => by simp [PyData.eqvAll]
  | a :: xs, b :: ys => by
    simp only [List.map_cons, PyData.eqvAll, hf, eqvAll_map hf xs ys]
    rfl
theorem eqv_list {α : Type} [BEq α] {f : α → PyData} (hf : ∀ a b, PyData.eqv (f a) (f b) = (a == b)) (xs ys : List α) : PyData.eqv (.list (xs.map f)) (.list (ys.map f)) = (xs == ys) := by
  simp only [PyData.eqv]; exact eqvAll_map hf xs ys
theorem eqv_row (a b : List Str) : PyData.eqv (encRow a) (encRow b) = (a == b) := eqv_list (fun _ _ => eqv_str) a b
theorem eqv_rows (a b : List (List Str)) : PyData.eqv (encRows a) (encRows b) = (a == b) := eqv_list eqv_row a b
theorem splitroot_c (w : World) (k : Nat) (p : Str) (h1 : Txt.slice p none (some 1) = "/") (h2 : Txt.slice p (some 1) (some 2) ≠ "/") (hs : p.length ≤ 1000) : FnC (cx w) (k + 2) (.ref 182) [.d (.str p)] (.d (.tuple [.str "", .str "/", .str (Txt.slice p (some 1) none)])) := by
  have hs' : p.length ≤ sizeLine := by have := sizeLine_eq; lia
  refine' FnOk.plain (ns := ["p"]) ?ok rfl ?hx (binds1 ?hb)
  case ok => (refine' ⟨⟨_, rfl, rfl⟩, rfl, rfl, rfl, rfl, rfl, rfl, rfl, rfl, _, _, _, _⟩ <;> decide)
  case hb => intro v; rfl
  intro env W T
  refine Ex.cons (Ex1.assign (Ev.call (Ev.globT T rfl rfl) (.inr (.inr rfl)) (EvAll.one (Ev.name rfl)) (fspath_c w k _)) (T.store (by decide))) ?_
  refine Ex.cons (Ex1.ite (v := false) (isBytes (Ev.biT T rfl rfl rfl) (Ev.name rfl) (Ev.biT T rfl rfl rfl)) (fun h => nomatch h) (fun _ => Ex.cons (Ex1.assign Ev.cstr (T.store (by decide))) (Ex.one (Ex1.assign Ev.cstr (T.store (by decide)))))) ?_
  refine Ex.one (Ex1.ite (v := false) ?t1 (fun h => nomatch h) (fun _ => Ex.one (Ex1.ite (v := true) ?t2 (fun _ => Ex.one (Ex1.ret ?r)) (fun h => nomatch h))))
  case t1 => exact (EvB.cmp (Ev.strTo (Ev.name rfl) Ev.cint hs') (Ev.name rfl) (Op2.neStr)).eq (by rw [h1]; rfl)
  case t2 => exact (EvB.or (EvB.cmp (Ev.strCut (Ev.name rfl) Ev.cint Ev.cint hs') (Ev.name rfl) (Op2.neStr)) (b := false) (fun h => by
      have : (Txt.slice p (some 1) (some 2) == "/") = false := by simpa using h2
      rw [this] at h; injection h)).eq (by rw [beq_false_of_ne h2]; rfl)
  case r => exact Ev.tupD (ds := [_, _, _]) (EvAll.three (Ev.name rfl) (Ev.name rfl) (Ev.strFrom (Ev.name rfl) Ev.cint hs')) (by have := sizeLine_eq; show 3 ≤ _; lia)

theorem LoopO.fold {c : Cx} {k : Nat} {env : Env} {W : List Addr} {l : Addr} {α β : Type} {enc : α → PyData} {enb : β → PyData} {f : List α → β → List α} {x : Str} {p : Pos} {body : List Stmt} {σ : Loc} (N : Nat) (hf : ∀ acc c, (f acc c).length ≤ acc.length + 1) (hst : CanStore env W x)
    (P : β → Prop) (Inv : List α → Prop) (hI : ∀ acc b, P b → Inv acc → Inv (f acc b)) (step : ∀ acc b, P b → Inv acc → acc.length < N → ∃ bb σ', ExO c k env W l ((x, .d (enb b)) :: σ) (acc.map enc) body bb σ' ((f acc b).map enc) ∧ (∀ x e, σ.lookup x = some e → σ'.lookup x = some e)) :
    ∀ (cs : List β) (acc : List α), (∀ b ∈ cs, P b) → Inv acc → acc.length + cs.length ≤ N → LoopO c k env W l (.Name x p) body σ ((cs.map enb).map .d) (acc.map enc) ((cs.foldl f acc).map enc) := by
  intro xs
  induction xs with
  | nil =>
    intro acc _ _ _
    exact .done
  | cons b cs ih =>
    intro acc hP hi hN
    have hN' : acc.length + (cs.length + 1) ≤ N := hN
    obtain ⟨bb, σ', h, hσ⟩ := step acc b (hP b (.head _)) hi (by lia)
    exact .step .name (stOne hst) h hσ (ih _ (fun y hy => hP y (.tail _ hy)) (hI acc b (hP b (.head _)) hi) (by have := hf acc b; lia))

theorem lookup_none {l : Loc} {x : Str} (h : x ∉ l.map (·.1)) : l.lookup x = none := by
  cases e : l.lookup x with
  | none => rfl
  | some v => exact absurd (List.mem_map_of_mem (f := (·.1)) (mem_of_lookup e)) h
theorem sub_app {b σ : Loc} (ns ms : List Str) (hb : b.map (·.1) = ns) (hσ : σ.map (·.1) = ms) (h : ms.all (fun x => !ns.contains x) = true) : ∀ x e, σ.lookup x = some e → (b ++ σ).lookup x = some e := by
  intro x e he
  rw [List.lookup_append, lookup_none (l := b) (fun m => ?_)]
  · exact he
  · have hm : x ∈ ms := by rw [← hσ]; exact List.mem_map_of_mem (f := (·.1)) (mem_of_lookup he)
    have := List.all_eq_true.mp h x hm
    rw [hb] at m
    simp [m] at this
noncomputable def nskip (c : Str) : Bool := !((c.length : Int) != 0) || ((c == ".") || false)
noncomputable def nlast (acc : List Str) : Bool := !acc.isEmpty && ((acc.getLast?.getD "") == "..")
noncomputable def nput (acc : List Str) (c : Str) : Bool := !(c == "..") || nlast acc
noncomputable def nstep (acc : List Str) (c : Str) : List Str := if nskip c then acc else if nput acc c then acc ++ [c] else acc.dropLast
noncomputable def normTxt (p : Str) : Str := "/" ++ Txt.join "/" ((Txt.split (Txt.slice p (some 1) none) "/").foldl nstep [])
theorem nstep_len (acc : List Str) (c : Str) : (nstep acc c).length ≤ acc.length + 1 := by
  unfold nstep; split
  · lia
  · split <;> simp <;> lia
end Mine
end
section
open PySem PySem.Calls PySem.W
namespace Mine
variable [iO : Old]
theorem lastIdx {acc : List Str} (h : acc ≠ []) : (acc.map PyData.str)[((-1 : Int) + (acc.map PyData.str).length).toNat]? = some (.str (acc.getLast?.getD "")) := by
  have hl := List.length_pos_iff.mpr h
  have e : ((-1 : Int) + (acc.map PyData.str).length).toNat = acc.length - 1 := by rw [List.length_map]; lia
  rw [e, List.getElem?_map, ← List.getLast?_eq_getElem?, List.getLast?_eq_some_getLast h]; rfl
structure NormOk (p : Str) : Prop where
  h1 : Txt.slice p none (some 1) = "/"
  h2 : Txt.slice p (some 1) (some 2) ≠ "/"
  hs : p.length ≤ 1000
  hq : (Txt.slice p (some 1) none).length ≤ 1000
  hp : (Builtin.Str.partsBetween (Txt.slice p (some 1) none) (Builtin.Str.occurrences (Txt.slice p (some 1) none) "/" 0 (Txt.slice p (some 1) none).length ((Txt.slice p (some 1) none).length + 1)) (("/" : Str).length)).length ≤ 1000
  hc : (Txt.split (Txt.slice p (some 1) none) "/").length ≤ 500
  hcl : ∀ c ∈ Txt.split (Txt.slice p (some 1) none) "/", c.length ≤ 1000
  hj : JoinOk "/" ((Txt.split (Txt.slice p (some 1) none) "/").foldl nstep []) = true
  hjl : (Txt.join "/" ((Txt.split (Txt.slice p (some 1) none) "/").foldl nstep [])).length ≤ 1000
theorem normpath_c (w : World) (k : Nat) (p : Str) (h : NormOk p) : FnC (cx w) (k + 3) (.ref 196) [.d (.str p)] (.d (.str (normTxt p))) := by
  have hS := sizeLine_eq
  have hp0 : ((p.length : Int) != 0) = true := by
    cases e : p.length with
    | zero =>
      have h1 := congrArg Str.length h.h1
      have h2 := Txt.slice_le p none (some 1)
      rw [h1, e] at h2
      exact absurd h2 (by decide)
    | succ n => simp; lia
  refine' FnOk.plain (ns := ["path"]) ?ok rfl ?hx (binds1 ?hb)
  case ok => (refine' ⟨⟨_, rfl, rfl⟩, rfl, rfl, rfl, rfl, rfl, rfl, rfl, rfl, _, _, _, _⟩ <;> decide)
  case hb => intro v; rfl
  intro env W T
  refine Ex.cons (Ex1.assign (Ev.call (Ev.globT T rfl rfl) (.inr (.inr rfl)) (EvAll.one (Ev.name rfl)) (fspath_c w _ _)) (T.store (by decide))) ?_
  refine Ex.cons (Ex1.ite (v := false) (isBytes (Ev.biT T rfl rfl rfl) (Ev.name rfl) (Ev.biT T rfl rfl rfl)) (fun h => nomatch h) (fun _ => Ex.cons (Ex1.assign Ev.cstr (T.store (by decide))) (Ex.cons (Ex1.assign Ev.cstr (T.store (by decide))) (Ex.one (Ex1.assign Ev.cstr (T.store (by decide))))))) ?_
  refine Ex.cons (Ex1.ite (v := false) ((EvB.not (EvB.plain (Ev.name rfl) (Tru.str (x := p) (by have := h.hs; lia)))).eq (by rw [hp0]; rfl)) (fun h => nomatch h) (fun _ => Ex.nil)) ?_
  refine Ex.cons (Ex1.assignTup (Ev.call (Ev.globT T rfl rfl) (.inr (.inr rfl)) (EvAll.one (Ev.name rfl)) (splitroot_c w k p h.h1 h.h2 h.hs)) .three ?st3) ?_
  case st3 =>
    intro q hq
    rcases List.mem_cons.mp hq with rfl | hq
    · exact T.store (.inl rfl)
    rcases List.mem_cons.mp hq with rfl | hq
    · exact T.store (.inl rfl)
    rw [List.mem_singleton.mp hq]
    exact T.store (.inl rfl)
  refine Ex.cons (Ex1.assign (Ev.split (Ev.name rfl) (Ev.name rfl) rfl (by have := h.hq; lia) (by have := h.hp; lia)) (T.store (by decide))) ?_
  generalize hcs : Txt.split (Txt.slice p (some 1) none) "/" = cs
  have hc := h.hc; have hcl := h.hcl; have hj := h.hj; have hjl := h.hjl
  rw [hcs] at hc hcl hj hjl
  have hres : normTxt p = "/" ++ Txt.join "/" (cs.foldl nstep []) := by unfold normTxt; rw [hcs]
  rw [hres]
  refine Ex.own T (EvN.list (ds := []) .nil (Nat.zero_le _)) (T.store (by decide)) (ds' := (cs.foldl nstep []).map .str) (fun l hl hcc => ExO1.for hl hcc (SrcX.list (ds := cs.map .str) (Ev.name rfl)) (LoopO.fold (f := nstep) (enc := .str) 500 nstep_len (T.store (by decide)) (fun c => c.length ≤ 1000) (fun _ => True) (fun _ _ _ _ => trivial) ?step cs [] hcl trivial (by simpa using hc))) ?rest
  case rest =>
    refine Ex.cons (Ex1.assign (Ev.name rfl) (T.store (by decide))) ?_
    refine Ex.cons (Ex1.assign (Ev.bin (Ev.name rfl) (Ev.join (Ev.name rfl) (Ev.name rfl) hj) (Op2.addStr (by show 1 + _ ≤ _; lia))) (T.store (by decide))) ?_
    refine Ex.one (Ex1.ret (Ev.or2 (v := true) (Ev.name rfl) (fun h => nomatch h) ?tt (fun _ => rfl)))
    case tt =>
      have hl : (("/" : Str) ++ Txt.join "/" (cs.foldl nstep [])).length = 1 + (Txt.join "/" (cs.foldl nstep [])).length := Str.length_append _ _
      have z := Tru.str (c := cx w) (x := ("/" : Str) ++ Txt.join "/" (cs.foldl nstep [])) (by rw [hl]; lia)
      have e : (((("/" : Str) ++ Txt.join "/" (cs.foldl nstep [])).length : Int) != 0) = true := by rw [hl]; simp; lia
      rw [e] at z
      exact z
  case step =>
    intro acc c hcl _ hacc
    have hacc' : (acc.map PyData.str).length ≤ sizeLine := by rw [List.length_map]; lia
    have hacc'' : ((acc.map PyData.str).length : Int) < 2 ^ 63 := by rw [List.length_map]; lia
    have hlen : (((c.length : Int) != 0)) = (!(c.length == 0)) := by
      cases e : c.length with
      | zero => rfl
      | succ n => simp; lia
    have tc : Tru (cx w) (.d (.str c)) ((c.length : Int) != 0) := Tru.str (by lia)
    have ta : Tru (cx w) (.d (.list (acc.map .str))) (!(acc.map PyData.str).isEmpty) := Tru.list hacc''
    cases hsk : nskip c with
    | true =>
      have e : nstep acc c = acc := by unfold nstep; rw [hsk]; rfl
      rw [e]
      refine ⟨false, _, ExO.stop (ExO1.ite (v := true) (x := "new_comps") ?_ rfl hl hcc (fun _ => ExO.one ExO1.cont) (fun h => nomatch h)), sub_app (b := [("comp", .d (.str c))]) ["comp"] _ rfl rfl rfl⟩
      exact (EvB.or (EvB.not (EvB.plain (Ev.name rfl) tc)) (fun _ => EvB.or (EvB.cmp (Ev.name rfl) (Ev.name rfl) Op2.eqStr) (fun _ => EvB.or_nil))).eq hsk
    | false =>
      have e : nstep acc c = if nput acc c then acc ++ [c] else acc.dropLast := by unfold nstep; rw [hsk]; rfl
      rw [e]
      refine ⟨true, _, ExO.cons (ExO1.ite (v := false) (x := "new_comps") ?_ rfl hl hcc (fun h => nomatch h) (fun _ => ExO.nil)) (ExO.one (ExO1.ite (v := nput acc c) (x := "new_comps") ?_ rfl hl hcc ?_ ?_)), sub_app (b := [("comp", .d (.str c))]) ["comp"] _ rfl rfl rfl⟩
      · exact (EvB.or (EvB.not (EvB.plain (Ev.name rfl) tc)) (fun _ => EvB.or (EvB.cmp (Ev.name rfl) (Ev.name rfl) Op2.eqStr) (fun _ => EvB.or_nil))).eq hsk
      · refine (EvB.or (EvB.cmp (Ev.name rfl) (Ev.name rfl) Op2.neStr) (fun _ => EvB.or (EvB.and (EvB.not (EvB.plain (Ev.name rfl) (Tru.str (x := "/") (by decide)))) (b := false) (fun h => nomatch h)) (fun _ => EvB.or (EvB.and (EvB.plain (Ev.name rfl) ta) (fun hne => EvB.and (EvB.cmp (Ev.idxNeg (Ev.name rfl) (Ev.un Ev.cint Op1.negInt) (by decide) ?_ (by decide) (lastIdx ?_)) (Ev.name rfl) Op2.eqStr) (fun _ => EvB.and_nil))) (fun _ => EvB.or_nil)))).eq ?_
        · have : acc ≠ [] := fun z => by rw [z] at hne; injection hne
          have := List.length_pos_iff.mpr this
          rw [List.length_map]; lia
        · exact fun z => by rw [z] at hne; injection hne
        · unfold nput nlast
          cases acc <;> simp
      · intro h
        rw [h]
        have e2 : (acc ++ [c]).map PyData.str = acc.map PyData.str ++ [.str c] := by simp
        rw [if_pos rfl, e2]
        exact ExO.one (ExO1.append rfl (Ev.name rfl) hl hcc hacc')
      · intro h
        rw [h, if_neg (by decide)]
        have e2 : acc.dropLast.map PyData.str = (acc.map PyData.str).dropLast := by rw [List.map_dropLast]
        rw [e2]
        refine ExO.one (ExO1.ite (v := !(acc.map PyData.str).isEmpty) (x := "new_comps") (EvB.plain (Ev.name rfl) ta) rfl hl hcc (fun h2 => ExO.one (ExO1.pop rfl hl hcc hacc' (fun z => by rw [z] at h2; injection h2))) (fun h2 => ?_))
        have e3 : acc.map PyData.str = [] := by
          cases q : acc.map PyData.str with
          | nil => rfl
          | cons a b => rw [q] at h2; injection h2
        rw [e3]
        exact ExO.nil
end Mine
end
section
open PySem PySem.Calls PySem.W
namespace Mine
variable [iO : Old]
noncomputable def dirHead (p : Str) : Str := Txt.slice p none (some (Txt.rfind p "/" + 1))
noncomputable def dirTest (p : Str) : Bool := ((dirHead p).length : Int) != 0 && (!(dirHead p == Txt.mul "/" (dirHead p).length) && true)
noncomputable def dirTxt (p : Str) : Str := if dirTest p then Txt.rstripChars (dirHead p) "/" else dirHead p
theorem dirname_c (w : World) (k : Nat) (p : Str) (hs : p.length ≤ 1000) (hm : MulOk "/" (dirHead p).length) : FnC (cx w) (k + 2) (.ref 189) [.d (.str p)] (.d (.str (dirTxt p))) := by
  have hS := sizeLine_eq
  have hh : (dirHead p).length ≤ 1000 := Nat.le_trans (Txt.slice_le _ _ _) hs
  refine' FnOk.plain (ns := ["p"]) ?ok rfl ?hx (binds1 ?hb)
  case ok => (refine' ⟨⟨_, rfl, rfl⟩, rfl, rfl, rfl, rfl, rfl, rfl, rfl, rfl, _, _, _, _⟩ <;> decide)
  case hb => intro v; rfl
  intro env W T
  refine Ex.cons (Ex1.assign (Ev.call (Ev.globT T rfl rfl) (.inr (.inr rfl)) (EvAll.one (Ev.name rfl)) (fspath_c w _ _)) (T.store (by decide))) ?_
  refine Ex.cons (Ex1.assign (Ev.call (Ev.globT T rfl rfl) (.inr (.inr rfl)) (EvAll.one (Ev.name rfl)) (getsep_c w _ _)) (T.store (by decide))) ?_
  refine Ex.cons (Ex1.assign (Ev.bin (Ev.rfind (Ev.name rfl) (Ev.name rfl)) Ev.cint Op2.addInt) (T.store (by decide))) ?_
  refine Ex.cons (Ex1.assign (Ev.strTo (Ev.name rfl) (Ev.name rfl) (by lia)) (T.store (by decide))) ?_
  show Ex (cx w) (k + 1) env W (("head", .d (.str (dirHead p))) :: _) _ _
  unfold dirTxt
  have ht : Tru (cx w) (.d (.str (dirHead p))) (((dirHead p).length : Int) != 0) := Tru.str (by lia)
  cases hd : dirTest p with
  | true =>
    rw [if_pos rfl]
    refine' Ex.cons (Ex1.ite (v := true) ((EvB.and (EvB.plain (Ev.name rfl) ht) (fun _ => EvB.and (EvB.cmp (Ev.name rfl) (Ev.bin (Ev.name rfl) (Ev.call (Ev.biT T rfl rfl rfl) (.inl ⟨_, rfl⟩) (EvAll.one (Ev.name rfl)) (FnC.lenStr (by lia))) (Op2.mulStr hm)) Op2.neStr) (fun _ => EvB.and_nil))).eq hd)
      (fun _ => Ex.one (Ex1.assign (Ev.rstripChars (Ev.name rfl) (Ev.name rfl) (by lia)) (T.store (by decide)))) (fun h => nomatch h)) (Ex.one (Ex1.ret (Ev.name rfl)))
  | false =>
    rw [if_neg (by decide)]
    refine' Ex.cons (Ex1.ite (v := false) ((EvB.and (EvB.plain (Ev.name rfl) ht) (fun _ => EvB.and (EvB.cmp (Ev.name rfl) (Ev.bin (Ev.name rfl) (Ev.call (Ev.biT T rfl rfl rfl) (.inl ⟨_, rfl⟩) (EvAll.one (Ev.name rfl)) (FnC.lenStr (by lia))) (Op2.mulStr hm)) Op2.neStr) (fun _ => EvB.and_nil))).eq hd)
      (fun h => nomatch h) (fun _ => Ex.nil)) (Ex.one (Ex1.ret (Ev.name rfl)))

noncomputable def textOf (xs : List Str) : Str := "/" ++ Txt.join "/" xs
theorem text_c (w : World) (k : Nat) (xs : List Str) (hok : JoinOk "/" xs = true) (hs : (Txt.join "/" xs).length ≤ 1000) : FnC (cx w) (k + 1) (.ref 239) [.d (encRow xs)] (.d (.str (textOf xs))) := by
  have hS := sizeLine_eq
  refine' FnOk.plain (ns := ["steps"]) ?ok rfl ?hx (binds1 ?hb)
  case ok => (refine' ⟨⟨_, rfl, rfl⟩, rfl, rfl, rfl, rfl, rfl, rfl, rfl, rfl, _, _, _, _⟩ <;> decide)
  case hb => intro v; rfl
  intro env W T
  exact Ex.one (Ex1.ret (Ev.bin Ev.cstr (Ev.join Ev.cstr (Ev.name rfl) hok) (Op2.addStr (by show 1 + _ ≤ _; lia))))

theorem Op2.mulBool {c : Cx} {k : Nat} {a : Int} {b : Bool} : Op2 c k (binaryOp .Mult) (.d (.int a)) (.d (.bool b)) (.d (.int (a * if b then 1 else 0))) := by
  constructor; intro A F s v₁ v₂ R g h₁ h₂; obtain ⟨_, rfl⟩ := h₁.isInt; obtain rfl := h₂.isBool
  exact PySem.IntBool.mul_int_bool ⟨Ks.tok, .int _ _⟩

theorem Ex1.swap2 {c : Cx} {k : Nat} {env : Env} {W : List Addr} {σ : Loc} {x y : Str} {n : Nat} {p q r t : Pos} {value : PySem.Expr} {d₁ d₂ : PyData} (h : Ev c k env σ value (.d (.tuple [d₁, d₂]))) (hx : CanStore env W x) (hy : CanStore env W y)
    (hw : swappedStores [.Tuple [.Name x p, .Name y q] n r] value env = pure (some [x, y])) (hs : swapsWithSole [.Tuple [.Name x p, .Name y q] n r] value t.line env = pure false := by rfl) :
    Ex1 c k env W σ (.Assign [.Tuple [.Name x p, .Name y q] n r] value t) (.next ((x, .d d₁) :: (y, .d d₂) :: σ)) := by
  constructor; intro A s₀ F₀ X s R G g I
  refine PyProof.Rows.Assign_Tuple_swapped (h.here R G g I fun v s' I' h' k' _ => ?_) hs hw
  obtain ⟨T, vs, rfl, f, nt, hT, rr⟩ := h'.isTuple
  obtain ⟨v₁, vs, rfl, r0, rr⟩ := rr.uncons
  obtain ⟨v₂, vs, rfl, r1, rr⟩ := rr.uncons
  cases rr
  refine PyProof.Rows.unpackItems_tuple (items := #[v₁, v₂]) R.1 hT fun h' he => ?_
  have k₂ : Ks s' { s' with heap := h' } := Ks.mk (tk := s'.toks) (Kp.of (ext_keep he))
  show wpAny _ A (assignInOrder [bindName env y, bindName env x] [v₂, v₁]) _ _ _
  refine PyProof.Rows.assignInOrder_cons (wpAny_bindName (storeAny (I'.step k₂ (Nat.le_refl _)) G hy (Holds.kp k₂.kp (e := .d _) r1) fun s₁ I₁ kb₁ => ?_))
  refine PyProof.Rows.assignInOrder_cons (wpAny_bindName (storeAny I₁ G hx (KB.rep (fun a m => I'.nF (List.mem_append_left _ m)) kb₁ (Holds.kp k₂.kp (e := .d _) r0)) fun s₂ I₂ kb₂ => ?_))
  exact PyProof.Rows.assignInOrder_nil ⟨⟨rfl, I₂⟩, (((KB.ks k').trans (KB.ks k₂)).trans kb₁).trans kb₂⟩
noncomputable def slashes (x : Str) : Int := if x == "/" then 0 else -(Txt.count x "/")
noncomputable def cmpI (a b : Str) : Int := 5 * (if decide (slashes b < slashes a) then 1 else 0) - 3 * (if decide (slashes a < slashes b) then 1 else 0)
theorem compared_c (w : World) (k : Nat) (a b : Str) : FnC (cx w) (k + 1) (.ref 225) [.d (.str a), .d (.str b)] (.d (.int (cmpI a b))) := by
  refine' FnOk.plain (ns := ["one", "two"]) ?ok rfl ?hx (binds2 ?hb)
  case ok => (refine' ⟨⟨_, rfl, rfl⟩, rfl, rfl, rfl, rfl, rfl, rfl, rfl, rfl, _, _, _, _⟩ <;> decide)
  case hb => intro v u; rfl
  intro env W T
  have hS := sizeLine_eq
  have cnt : ∀ {σ : Loc} {x : Str} {n : Str} {q1 q2 q3 q4 q5 q6 q7 q8 q9 q11 : Pos} {m1 m2 m3 : Nat}, σ.lookup n = some (.d (.str x)) → (n == ("__debug__" : Str)) = false → (n == ("__classdict__" : Str)) = false → (q3.endLine == q6.line) = true →
      Ev (cx w) k env σ (.IfExp (.Compare (.Name n q1) [.NotEq] [.Constant (.str "/") m1 q2] q11) (.UnaryOp .USub (.Call (.Attribute (.Name n q4) "count" q3) [.Constant (.str "/") m2 q5] [] q6) q7) (.Constant (.int 0) m3 q8) q9) (.d (.int (slashes x))) := by
    intro σ x n q1 q2 q3 q4 q5 q6 q7 q8 q9 q11 m1 m2 m3 hl h1 h2 h3
    refine Ev.ifExp (v := !(x == "/")) (EvB.cmp (Ev.name hl h1 h2) Ev.cstr Op2.neStr) (fun h => ?_) (fun h => ?_)
    · have : (x == "/") = false := by simpa using h
      unfold slashes; rw [this]
      exact Ev.un (Ev.count (Ev.name hl h1 h2) Ev.cstr (hline := h3)) Op1.negInt
    · have : (x == "/") = true := by simpa using h
      unfold slashes; rw [this]
      exact Ev.cint
  refine Ex.cons (Ex1.swap2 (d₁ := .int (slashes a)) (d₂ := .int (slashes b)) (Ev.tupD (ds := [_, _]) (EvAll.two (cnt rfl rfl rfl rfl) (cnt rfl rfl rfl rfl)) (by show 2 ≤ _; lia)) (T.store (by decide)) (T.store (by decide)) ?sw) ?_
  case sw =>
    have b1 : env.kindOf "first" = some .local := T.kind rfl (by decide)
    have b2 : env.kindOf "second" = some .local := T.kind rfl (by decide)
    have b3 : env.blockKind = .function := by unfold Env.blockKind; rw [T.g.kind]; rfl
    delta swappedStores; dsimp only
    simp only [b3, List.filterMap, b1, b2]
    rfl
  exact Ex.one (Ex1.ret (Ev.bin (Ev.bin Ev.cint (Ev.cmp (Ev.name rfl) (Ev.name rfl) Op2.gtInt) Op2.mulBool) (Ev.bin Ev.cint (Ev.cmp (Ev.name rfl) (Ev.name rfl) Op2.ltInt) Op2.mulBool) Op2.subInt))
end Mine
end
section
open PySem PySem.Calls PySem.W
namespace Mine
variable [iO : Old]
theorem Ev.replace {c : Cx} {k : Nat} {env : Env} {σ : Loc} {o : PySem.Expr} {apos pos p1 p2 : Pos} {m1 m2 : Nat} {x y z : Str} (ho : Ev c k env σ o (.d (.str x))) (hyz : (y == z) = false) (hb : x.length + (x.length + 1) * z.length ≤ 16777216)
    (hbase : attributeBase o "replace" env (eval o env) = eval o env := by first | exact base_name | exact base_const) (hline : (apos.endLine == pos.line) = true := by rfl) :
    Ev c k env σ (.Call (.Attribute o "replace" apos) [.Constant (.str y) m1 p1, .Constant (.str z) m2 p2] [] pos) (.d (.str (Txt.replace x y z))) := by
  constructor; intro A F s R G g L
  refine Call_method2 hbase rfl hline ((ho.run A F s R G g L).use fun v s₁ k₁ t₁ h₁ => ?_)
  obtain ⟨t, rfl⟩ := h₁.isStr
  have g₁ := g.ks k₁ t₁
  refine ⟨"str", _, PySem.F.plainAttrs_str, PySem.F.slot_str_replace, PySem.F.type_str_replace, typeIs_str _ _ _, (fun _ e => nomatch e), ?_⟩
  refine callWith_builtin rfl (evalArgs_plain (spliced_cons (Constant_str (spliced_cons (Constant_str (spliced_nil ?_))))))
  have h0 := g₁.tok
  exact SC.replace (by show s₁.toks ≠ 0; lia) (by show s₁.toks + 1 ≠ 0; lia) (by show s₁.toks ≠ s₁.toks + 1; lia) hyz hb fun t' kk => ⟨k₁.trans Ks.tok, .str _ _⟩
noncomputable def variants (r : List Str) : List Str := let plain := Txt.join "/" r; [plain, "././" ++ plain, Txt.replace plain "/" "//" ++ "/", "z/../" ++ plain]
noncomputable def variant (r : List Str) (j : Nat) : Str := ((variants r)[j % 4]?).getD ""
noncomputable def pathTxt (r : List Str) (j : Nat) : Str := normTxt (jn (variant r j))
structure PathOk (r : List Str) (j : Nat) : Prop where
  hok : JoinOk "/" r = true
  hl : (Txt.join "/" r).length ≤ 100
  hr : (Txt.replace (Txt.join "/" r) "/" "//").length ≤ 300
  hn : NormOk (jn (variant r j))
  hv : (variant r j).length ≤ 1000
theorem path_c (w : World) (k : Nat) (r : List Str) (j : Nat) (h : PathOk r j) : FnC (cx w) (k + 4) (.ref 213) [.d (encRow r), .d (.int j)] (.d (.str (pathTxt r j))) := by
  have hS := sizeLine_eq
  have hl := h.hl
  have hr := h.hr
  refine' FnOk.plain (ns := ["steps", "turn"]) ?ok rfl ?hx (binds2 ?hb)
  case ok => (refine' ⟨⟨_, rfl, rfl⟩, rfl, rfl, rfl, rfl, rfl, rfl, rfl, rfl, _, _, _, _⟩ <;> decide)
  case hb => intro v u; rfl
  intro env W T
  have hj : ((j : Int).fmod 4) = ((j % 4 : Nat) : Int) := by rw [Int.fmod_eq_emod_of_nonneg _ (by decide)]; lia
  have hi : ((variants r).map PyData.str)[(((j % 4 : Nat) : Int)).toNat]? = some (.str (variant r j)) := by
    rw [Int.toNat_natCast, List.getElem?_map]
    unfold variant
    have : j % 4 < (variants r).length := Nat.mod_lt _ (by decide)
    rw [List.getElem?_eq_getElem this]; rfl
  refine Ex.cons (Ex1.assign (Ev.join Ev.cstr (Ev.name rfl) h.hok) (T.store (by decide))) ?_
  refine Ex.one (Ex1.ret (Ev.call (Ev.globT T rfl rfl) (.inr (.inr rfl)) (EvAll.one (Ev.call (Ev.globT T rfl rfl) (.inr (.inr rfl)) (EvAll.two Ev.cstr
    (Ev.idx (xs := (variants r).map .str) (Ev.listD (ds := (variants r).map .str) ?l (by show 4 ≤ _; lia)) ((Ev.bin (Ev.name rfl) Ev.cint (Op2.modInt (by decide))).eq (by rw [hj])) (by lia) (by lia) hi)) (join_c w _ _ h.hv))) (normpath_c w _ _ h.hn)))
  refine .cons (Ev.name rfl) (.cons (Ev.bin Ev.cstr (Ev.name rfl) (Op2.addStr ?_)) (.cons (Ev.bin (Ev.replace (Ev.name rfl) (by decide +kernel) ?_) Ev.cstr (Op2.addStr ?_)) (EvAll.one (Ev.bin Ev.cstr (Ev.name rfl) (Op2.addStr ?_))) (by intro _ _ h; injection h)) (by intro _ _ h; injection h)) (by intro _ _ h; injection h)
  · show 4 + _ ≤ _; lia
  · show _ + _ * 2 ≤ _; lia
  · show _ + 1 ≤ _; lia
  · show 5 + _ ≤ _; lia
end Mine
end
section
open PySem PySem.Calls PySem.W
namespace Mine
variable [iO : Old]
theorem CompR.gen {c : Cx} {k : Nat} {env : Env} {σ₀ : Loc} {tgt elt : PySem.Expr} {ifs : List PySem.Expr} {α : Type} {ent : α → Ent} {bnd : α → Loc} {f : α → Bool} {g : α → PyData} : ∀ {as : List α}, (∀ a ∈ as, Binds tgt (ent a) (bnd a)) → (∀ a ∈ as, IfsR c k env (bnd a ++ σ₀) ifs (f a)) → (∀ a ∈ as, f a = true → Ev c k env (bnd a ++ σ₀) elt (.d (g a))) →
    CompR c k env σ₀ tgt elt ifs (as.map ent) ((as.filter f).map g) := by
  intro xs
  induction xs with
  | nil =>
    intro _ _ _
    exact .nil
  | cons a as ih =>
    intro h1 h2 h3
    have ih := ih (fun a m => h1 a (.tail _ m)) (fun a m => h2 a (.tail _ m)) (fun a m => h3 a (.tail _ m))
    have hi := h2 a (.head _)
    cases hf : f a with
    | true =>
      rw [List.filter_cons_of_pos hf]
      rw [hf] at hi
      exact .take (h1 a (.head _)) hi (h3 a (.head _) hf) ih
    | false =>
      rw [List.filter_cons_of_neg (by rw [hf]; decide)]
      rw [hf] at hi
      exact .skip (h1 a (.head _)) hi ih
theorem CompR.mapR {c : Cx} {k : Nat} {env : Env} {σ₀ : Loc} {tgt elt : PySem.Expr} {α : Type} {ent : α → Ent} {bnd : α → Loc} {g : α → PyData} {as : List α} (h1 : ∀ a ∈ as, Binds tgt (ent a) (bnd a)) (h3 : ∀ a ∈ as, Ev c k env (bnd a ++ σ₀) elt (.d (g a))) :
    CompR c k env σ₀ tgt elt [] (as.map ent) (as.map g) := by
  have := CompR.gen (c := c) (k := k) (env := env) (σ₀ := σ₀) (tgt := tgt) (elt := elt) (ifs := []) (ent := ent) (bnd := bnd) (f := fun _ => true) (g := g) (as := as) h1 (fun _ _ => .nil) (fun a m _ => h3 a m)
  rwa [List.filter_eq_self.mpr (fun _ _ => rfl)] at this
theorem swaps_list {env : Env} {names : List (Str × NameKind)} {W : List Addr} {elt : PySem.Expr} {gens : List Comprehension} {scope : Scope} {pos py : Pos} {y : Str} {line : Nat} (T : EnvT env names W) (hy : names.lookup y = some .local) (hl : (py.line == pos.line) = true)
    (hn : (scope.names.any fun (n, k) => n == y && (k == .local || k == .cell)) = false) : swapsWith (.ListComp elt gens scope pos) (some (.Name y py)) line env = pure true := by
  have b1 : env.kindOf y = some .local := T.kind hy (by decide)
  have b3 : env.blockKind = .function := by unfold Env.blockKind; rw [T.g.kind]; rfl
  show (pure (env.blockKind == .function && env.kindOf y == some .local && py.line == pos.line && !(scope.names.any fun (n, k) => n == y && (k == .local || k == .cell))) : Sem Bool) = pure true
  rw [b1, b3, hl, hn]; rfl
theorem Good.row {xs : List Str} (h : ∀ x ∈ xs, PyData.strOk x = true) : Good (encRow xs) := (GoodN.strs (n := 0) h).good
theorem Good.rows {xs : List (List Str)} (h : ∀ r ∈ xs, ∀ x ∈ r, PyData.strOk x = true) : Good (encRows xs) := (GoodN.rows (n := 0) h).good
theorem FnC.lenMap {c : Cx} {k : Nat} {α : Type} {f : α → PyData} {xs : List α} (hs : (xs.length : Int) < 2 ^ 63) : FnC c k (.builtin "len") [.d (.list (xs.map f))] (.d (.int xs.length)) := by
  have := FnC.lenList (c := c) (k := k) (xs := xs.map f) (by rw [List.length_map]; exact hs)
  rwa [List.length_map] at this
theorem Ev.uptoMap {c : Cx} {k : Nat} {env : Env} {σ : Loc} {α : Type} {f : α → PyData} {o u : PySem.Expr} {p q : Pos} {xs : List α} {n : Nat} (ho : Ev c k env σ o (.d (.list (xs.map f)))) (hu : Ev c k env σ u (.d (.int n))) (hs : xs.length ≤ sizeLine)
    (ht : ∀ a r, letTemporaryGo o a r = pure () := by intro _ _; with_unfolding_all rfl) : Ev c k env σ (.Subscript o (.Slice none (some u) none q) p) (.d (.list ((xs.take n).map f))) := by
  have := Ev.upto ho hu (p := p) (q := q) (by rw [List.length_map]; exact hs) ht
  rwa [← List.map_take] at this
noncomputable def isAbove (row one : List Str) : Bool := !(one == row) && ((row.take one.length == one) && true)
noncomputable def tstep (rows : List (List Str)) (acc : List (List Str)) (row : List Str) : List (List Str) := if (rows.filter (isAbove row)).isEmpty && !(acc.any (· == row)) then acc ++ [row] else acc
noncomputable def toldOf (rows : List (List Str)) : List (List Str) := rows.foldl (tstep rows) []
theorem tstep_len (rows acc : List (List Str)) (c : List Str) : (tstep rows acc c).length ≤ acc.length + 1 := by
  unfold tstep; split <;> simp
theorem told_c (w : World) (k : Nat) (rows : List (List Str)) (hr : ∀ r ∈ rows, (∀ x ∈ r, PyData.strOk x = true) ∧ r.length ≤ 100) (hn : rows.length ≤ 100) : FnC (cx w) (k + 1) (.ref 244) [.d (encRows rows)] (.d (encRows (toldOf rows))) := by
  have hS := sizeLine_eq
  refine' FnOk.plain (ns := ["rows"]) ?ok rfl ?hx (binds1 ?hb)
  case ok => (refine' ⟨⟨_, rfl, rfl⟩, rfl, rfl, rfl, rfl, rfl, rfl, rfl, rfl, _, _, _, _⟩ <;> decide)
  case hb => intro v; rfl
  intro env W T
  refine Ex.own T (EvN.list (ds := []) .nil (Nat.zero_le _)) (T.store (by decide)) (ds' := (toldOf rows).map encRow) (fun l hl hcc => ExO1.for hl hcc (SrcX.list (ds := rows.map encRow) (Ev.name rfl)) (LoopO.fold (f := tstep rows) (enc := encRow) 500 (tstep_len rows) (T.store (by decide)) (fun r => r ∈ rows) (fun acc => ∀ r ∈ acc, r ∈ rows) ?inv ?step rows [] (fun _ h => h) (fun _ h => nomatch h) (by show 0 + _ ≤ _; lia))) (Ex.one (Ex1.ret (Ev.name rfl)))
  case inv =>
    intro acc b hb hi
    unfold tstep
    split
    · intro r hr
      rcases List.mem_append.mp hr with hr | hr
      · exact hi r hr
      · rw [List.mem_singleton.mp hr]; exact hb
    · exact hi
  intro acc row hrow hinv hacc
  have hrow' := hr row hrow
  have hflen : (rows.filter (isAbove row)).length ≤ 100 := Nat.le_trans (List.length_filter_le _ _) hn
  refine' ⟨true, _, ExO.cons (ExO1.plain hl (Ex1.assignComp (ds := (rows.filter (isAbove row)).map encRow) T (by constructor <;> decide) (SrcX.list (ds := rows.map encRow) (Ev.name rfl)) (by decide) (T.store (by decide)) ?comp ?sz (swaps_list T rfl rfl rfl))) (ExO.one (ExO1.ite (v := (rows.filter (isAbove row)).isEmpty && !(acc.any (· == row))) (x := "kept") ?test rfl hl hcc ?bt ?bf)), ?sub⟩
  case sz => rw [List.length_map]; lia
  case comp =>
    intro cenv W' Tc
    rw [List.map_map]
    refine CompR.gen (as := rows) (ent := fun one => .d (encRow one)) (bnd := fun one => [("one", .d (encRow one))]) (f := isAbove row) (g := encRow) (fun a _ => .name) (fun a ha => .one ?_) (fun a _ _ => Ev.name rfl)
    have ha' := hr a ha
    exact EvB.and (EvB.cmp (Ev.name rfl) (Ev.name rfl) (Op2.ne (Good.row ha'.1) (Good.row hrow'.1)) |>.eq (by rw [eqv_row]))
      (fun _ => EvB.and (EvB.cmp (Ev.uptoMap (Ev.name rfl) (Ev.call (Ev.biT Tc rfl rfl rfl) (.inl ⟨_, rfl⟩) (EvAll.one (Ev.name rfl)) (FnC.lenMap (xs := a) (by lia))) (by lia)) (Ev.name rfl) (Op2.eq (Good.row (fun x hx => hrow'.1 x (List.mem_of_mem_take hx))) (Good.row ha'.1)) |>.eq (by rw [eqv_row])) (fun _ => EvB.and_nil))
  case test =>
    have hab : GoodN 2 (.list ((rows.filter (isAbove row)).map encRow)) := GoodN.rows fun r hr' => (hr r (List.mem_filter.mp hr').1).1
    have hac : GoodN 2 (.list (acc.map encRow)) := GoodN.rows fun r hr' => (hr r (hinv r hr')).1
    refine (EvB.and (EvB.cmp (Ev.name rfl) (Ev.listD (ds := []) .nil (Nat.zero_le _)) (Op2.eq hab.good (show Good (.list []) from (GoodN.rows (n := 0) (xs := []) (fun _ h => nomatch h)).good))) (fun _ => EvB.and (EvB.cmp (Ev.name rfl) (Ev.name rfl) (Op2.notIn (Good.row hrow'.1) hac.good)) (fun _ => EvB.and_nil))).eq ?_
    have e1 : PyData.eqv (.list ((rows.filter (isAbove row)).map encRow)) (.list []) = (rows.filter (isAbove row)).isEmpty := by
      have := eqv_rows (rows.filter (isAbove row)) []
      show PyData.eqv (encRows _) (encRows []) = _
      rw [this]
      cases rows.filter (isAbove row) <;> rfl
    have e2 : ((acc.map encRow).any fun y => PyData.eqv y (encRow row)) = acc.any (· == row) := by
      rw [List.any_map]
      congr 1
      funext y
      exact eqv_row y row
    rw [e1, e2, Bool.and_true]
  case bt =>
    intro h
    unfold tstep; rw [if_pos h]
    rw [List.map_append]
    exact ExO.one (ExO1.append rfl (Ev.name rfl) hl hcc (by rw [List.length_map]; lia))
  case bf =>
    intro h
    unfold tstep; rw [if_neg (by rw [h]; decide)]
    exact ExO.nil
  case sub => exact sub_app (b := [("above", .d (.list ((rows.filter (isAbove row)).map encRow))), ("row", .d (encRow row))]) ["above", "row"] _ rfl rfl rfl
end Mine
end
section
open PySem PySem.Calls PySem.W
namespace Mine
variable [iO : Old]
theorem subList {σ₁ σ₂ : Loc} (h : ∀ p ∈ σ₂, σ₁.lookup p.1 = some p.2) : ∀ x e, σ₂.lookup x = some e → σ₁.lookup x = some e := fun x e hx => h _ (mem_of_lookup hx)
structure DirOk (p : Str) : Prop where
  hs : p.length ≤ 1000
  hm : MulOk "/" (dirHead p).length
  ho : PyData.strOk (dirTxt p) = true
noncomputable def LedOk : Nat → Str → Prop
  | 0, p => p = "/"
  | n + 1, p => p = "/" ∨ (p ≠ "/" ∧ DirOk p ∧ LedOk n (dirTxt p))
noncomputable def pick (kept : List Str) (p : Str) : List Str := if kept.any (· == p) then [p] else []
noncomputable def ledGo : Nat → Str → List Str → List Str → List Str
  | 0, _, _, found => found
  | n + 1, p, kept, found => if p == "/" then found else ledGo n (dirTxt p) kept (found ++ pick kept (dirTxt p))
noncomputable def ledTxt (n : Nat) (p : Str) (kept : List Str) : List Str := ledGo n p kept (pick kept p)
theorem pick_n {c : Cx} {k : Nat} {env : Env} {σ : Loc} {x y : Str} {p1 p2 p3 p4 p5 p6 p7 : Pos} {kept : List Str} {p : Str} (hx : σ.lookup x = some (.d (.str p))) (hy : σ.lookup y = some (.d (encRow kept))) (hp : PyData.strOk p = true) (hk : ∀ x ∈ kept, PyData.strOk x = true)
    (h1 : (x == ("__debug__" : Str)) = false) (h2 : (x == ("__classdict__" : Str)) = false) (h3 : (y == ("__debug__" : Str)) = false) (h4 : (y == ("__classdict__" : Str)) = false) :
    EvN c k env σ (.IfExp (.Compare (.Name x p1) [.In] [.Name y p2] p3) (.List [.Name x p4] p5) (.List [] p6) p7) ((pick kept p).map .str) := by
  have hS := sizeLine_eq
  have e : ((kept.map PyData.str).any fun y => PyData.eqv y (.str p)) = kept.any (· == p) := by
    rw [List.any_map]; congr 1
  refine EvN.ifExp (v := kept.any (· == p)) ((EvB.cmp (Ev.name hx h1 h2) (Ev.name hy h3 h4) (Op2.isIn (GoodN.str (n := 0) hp).good (Good.row hk))).eq e) (fun h => ?_) (fun h => ?_)
  · unfold pick; rw [if_pos h]; exact EvN.list (ds := [_]) (EvAll.one (Ev.name hx h1 h2)) (by show 1 ≤ _; lia)
  · unfold pick; rw [if_neg (by rw [h]; decide)]; exact EvN.list (ds := []) .nil (Nat.zero_le _)
theorem pick_len {kept : List Str} {p : Str} : (pick kept p).length ≤ 1 := by unfold pick; split <;> simp
theorem WhileO.led {c : Cx} {k : Nat} {env : Env} {W : List Addr} {l : Addr} {test : PySem.Expr} {body : List Stmt} {kept : List Str} (σf : Str → Loc) (ht : ∀ q, EvB c k env (σf q) test (!(q == "/")))
    (hb : ∀ q found, DirOk q → found.length ≤ 1000 → ∃ σ₁, ExO c k env W l (σf q) (found.map .str) body true σ₁ ((found ++ pick kept (dirTxt q)).map .str) ∧ ∀ x e, (σf (dirTxt q)).lookup x = some e → σ₁.lookup x = some e) :
    ∀ m q found, LedOk m q → found.length + m ≤ 1000 → WhileO c k env W l test body m (σf q) (found.map .str) (σf "/") ((ledGo m q kept found).map .str) := by
  intro xs
  induction xs with
  | zero =>
    intro q found h _
    obtain rfl : q = "/" := h
    exact .done ((ht _).eq (by decide +kernel))
  | succ m ih =>
    intro q found h hn
    unfold ledGo
    by_cases e : q = "/"
    · subst e
      rw [if_pos (by decide +kernel)]
      exact .done ((ht _).eq (by decide +kernel))
    · have e' : (q == "/") = false := beq_false_of_ne e
      rw [e', if_neg (by decide)]
      rcases h with h | ⟨_, hd, hl⟩
      · exact absurd h e
      · obtain ⟨σ₁, hx, hs⟩ := hb q found hd (by lia)
        exact .next ((ht _).eq (by rw [e']; rfl)) hx hs (ih (dirTxt q) _ hl (by rw [List.length_append]; have := pick_len (kept := kept) (p := dirTxt q); lia))
theorem led_c (w : World) (k : Nat) (n : Nat) (p : Str) (kept : List Str) (h : LedOk n p) (hp : PyData.strOk p = true) (hk : ∀ x ∈ kept, PyData.strOk x = true) (hn : n ≤ 500) : FnC (cx w) (k + 3) (.ref 232) [.d (.str p), .d (encRow kept)] (.d (encRow (ledTxt n p kept))) := by
  have hS := sizeLine_eq
  refine' FnOk.plain (ns := ["path", "kept"]) ?ok rfl ?hx (binds2 ?hb)
  case ok => (refine' ⟨⟨_, rfl, rfl⟩, rfl, rfl, rfl, rfl, rfl, rfl, rfl, rfl, _, _, _, _⟩ <;> decide)
  case hb => intro v u; rfl
  intro env W T
  refine Ex.own (σ' := [("path", .d (.str "/")), ("kept", .d (encRow kept))]) (ds' := (ledTxt n p kept).map .str) T (pick_n rfl rfl hp hk rfl rfl rfl rfl) (T.store (by decide)) (fun l hl hcc => ExO1.while (n := n) hl ?loop) (Ex.one (Ex1.ret (Ev.name rfl)))
  case loop =>
    refine WhileO.led (fun q => [("found", .v (.ref l)), ("path", .d (.str q)), ("kept", .d (encRow kept))]) (fun q => EvB.cmp (Ev.name rfl) Ev.cstr Op2.neStr) (fun q found hd hf => ?_) n p _ h (by have := pick_len (kept := kept) (p := p); lia)
    refine ⟨_, ExO.cons (ExO1.plain hl (Ex1.assign (Ev.call (Ev.globT T rfl rfl) (.inr (.inr rfl)) (EvAll.one (Ev.name rfl)) (dirname_c w k q hd.hs hd.hm)) (T.store (by decide)))) (ExO.one (by rw [List.map_append]; exact ExO1.iadd rfl (pick_n rfl rfl hd.ho hk rfl rfl rfl rfl) (T.store (by decide)) hl hcc (by rw [List.length_map, List.length_map]; have := pick_len (kept := kept) (p := dirTxt q); lia))), subList fun p hp => ?_⟩
    rcases List.mem_cons.mp hp with rfl | hp
    · rfl
    rcases List.mem_cons.mp hp with rfl | hp
    · rfl
    rw [List.mem_singleton.mp hp]; rfl

theorem SrcX.listMap {c : Cx} {k : Nat} {env : Env} {σ : Loc} {iter : PySem.Expr} {α : Type} {f : α → PyData} {xs : List α} (h : Ev c k env σ iter (.d (.list (xs.map f)))) (hs : ∀ x, foldedSetIterable iter env x = pure x := by intro _; rfl) : SrcX c k env σ iter (xs.map fun x => .d (f x)) := by
  have := SrcX.list h hs
  rwa [List.map_map] at this
noncomputable def abc (i : Nat) : Str := if i = 0 then "a" else if i = 1 then "ab" else "b"
noncomputable def stepIx (x : Int) (k : Nat) : Int := ((x.fdiv 4).fdiv (3 ^ k)).fmod 3
noncomputable def stepsOf (x : Int) : List Str := (List.range (x.fmod 4).toNat).map fun k => abc (stepIx x k).toNat
noncomputable def tailInts : List Int := [23, 10, 6, 63, 1, 1, 9, 5]
noncomputable def rowsOf (s : List Int) : List (List Str) := (s.take 4 ++ tailInts).map stepsOf
theorem steps_c (w : World) (k : Nat) (s : List Int) (hs : s.length ≤ 1000) : FnC (cx w) (k + 1) (.ref 206) [.d (.list (s.map .int))] (.d (encRows (rowsOf s))) := by
  have hS := sizeLine_eq
  refine' FnOk.plain (ns := ["script"]) ?ok rfl ?hx (binds1 ?hb)
  case ok => (refine' ⟨⟨_, rfl, rfl⟩, rfl, rfl, rfl, rfl, rfl, rfl, rfl, rfl, _, _, _, _⟩ <;> decide)
  case hb => intro v; rfl
  intro env W T
  have hlen : (s.take 4 ++ tailInts).length ≤ 12 := by rw [List.length_append, List.length_take]; show min 4 _ + 8 ≤ 12; lia
  refine Ex.one (Ex1.ret (Ev.eq (a := .d (.list ((s.take 4 ++ tailInts).map (fun x => encRow (stepsOf x))))) ?_ (by show _ = Ent.d (.list (((s.take 4 ++ tailInts).map stepsOf).map encRow)); rw [List.map_map]; rfl)))
  refine Ev.comp T (by constructor <;> decide) (SrcX.listMap (f := .int) (xs := s.take 4 ++ tailInts) ((Ev.bin (Ev.uptoMap (f := .int) (xs := s) (n := 4) (Ev.name rfl) Ev.cint (by lia)) (Ev.listD (ds := tailInts.map .int) ?tl (by show 8 ≤ _; lia)) (Op2.addList (by rw [List.length_map, List.length_map, List.length_take]; show min 4 _ + 8 ≤ _; lia))).eq (by rw [List.map_append]))) (by decide) (fun cenv W' Tc => CompR.mapR (bnd := fun x => [("x", .d (.int x))]) (fun _ _ => .name) (fun x _ => ?elt)) (by rw [List.length_map]; lia)
  case tl => exact .cons Ev.cint (.cons Ev.cint (.cons Ev.cint (.cons Ev.cint (.cons Ev.cint (EvAll.three Ev.cint Ev.cint Ev.cint) (by intro _ _ h; injection h)) (by intro _ _ h; injection h)) (by intro _ _ h; injection h)) (by intro _ _ h; injection h)) (by intro _ _ h; injection h)
  case elt =>
    have hx0 : 0 ≤ x.fmod 4 := by rw [Int.fmod_eq_emod_of_nonneg _ (by decide)]; lia
    have hx4 : x.fmod 4 < 4 := by rw [Int.fmod_eq_emod_of_nonneg _ (by decide)]; lia
    refine Ev.eq (a := .d (.list ((List.range (x.fmod 4).toNat).map fun k => .str (abc (stepIx x k).toNat)))) ?_ (by show _ = Ent.d (.list ((stepsOf x).map .str)); unfold stepsOf; rw [List.map_map]; rfl)
    refine Ev.comp Tc (by constructor <;> decide) (SrcX.range (n := (x.fmod 4).toNat) (Ev.biT Tc rfl rfl rfl) ((Ev.bin (Ev.name rfl) Ev.cint (Op2.modInt (by decide))).eq (by rw [Int.toNat_of_nonneg hx0])) (by lia)) (by decide) (fun cenv2 W2 Tc2 => CompR.mapR (as := List.range (x.fmod 4).toNat) (ent := fun (i : Nat) => .d (.int (i : Int))) (g := fun k => .str (abc (stepIx x k).toNat)) (bnd := fun k => [("k", .d (.int (k : Int)))]) (fun _ _ => .name) (fun j hj => ?elt2)) (by rw [List.length_map, List.length_range]; lia)
    have hj4 : j < 4 := by have := List.mem_range.mp hj; lia
    have hi0 : 0 ≤ stepIx x j := by unfold stepIx; rw [Int.fmod_eq_emod_of_nonneg _ (by decide)]; lia
    have hi3 : stepIx x j < 3 := by unfold stepIx; rw [Int.fmod_eq_emod_of_nonneg _ (by decide)]; lia
    have hpow : (3 : Int) ^ ((j : Int)).toNat = 3 ^ j := by rw [Int.toNat_natCast]
    have hp0 : (3 : Int) ^ j ≠ 0 ∧ ((3 : Int) ^ j).natAbs < 1073741824 := by
      have : j = 0 ∨ j = 1 ∨ j = 2 ∨ j = 3 := by lia
      rcases this with rfl | rfl | rfl | rfl <;> decide
    refine Ev.idx (xs := [.str "a", .str "ab", .str "b"]) (n := stepIx x j) (Ev.listD (ds := [_, _, _]) (EvAll.three Ev.cstr Ev.cstr Ev.cstr) (by show 3 ≤ _; lia)) (Ev.bin (Ev.bin (Ev.bin (Ev.name rfl) Ev.cint (Op2.divInt (by decide) (by decide))) ((Ev.bin Ev.cint (Ev.name rfl) (Op2.powInt (by lia) (by lia) (by decide))).eq (by rw [hpow])) (Op2.divInt hp0.1 hp0.2)) Ev.cint (Op2.modInt (by decide))) hi0 (by lia) ?_
    have : (stepIx x j).toNat = 0 ∨ (stepIx x j).toNat = 1 ∨ (stepIx x j).toNat = 2 := by lia
    rcases this with h | h | h <;> rw [h] <;> rfl
end Mine
end
section
open PySem PySem.Calls PySem.W
namespace Mine
variable [iO : Old]
namespace MF
theorem slot_map_init : Slot "map" "__init__" "object.__init__" :=
  .of (owner := "object") (n := "__init__") (by rw [typeLookup_type, builtinLookup_eq_fast]; kernel_rfl) (by decide +kernel) (by decide +kernel) (by decide +kernel)
    (by first | exact .inl (by decide +kernel) | exact .inr (by decide +kernel)) (by rw [isSubtype_type]; kernel_rfl)
theorem slot_map_next : Slot "map" "__next__" "map.__next__" :=
  .of (owner := "map") (n := "__next__") (by rw [typeLookup_type, builtinLookup_eq_fast]; kernel_rfl) (by decide +kernel) (by decide +kernel) (by decide +kernel)
    (by first | exact .inl (by decide +kernel) | exact .inr (by decide +kernel)) (by rw [isSubtype_type]; kernel_rfl)
theorem slot_map_iter : Slot "map" "__iter__" "map.__iter__" :=
  .of (owner := "map") (n := "__iter__") (by rw [typeLookup_type, builtinLookup_eq_fast]; kernel_rfl) (by decide +kernel) (by decide +kernel) (by decide +kernel)
    (by first | exact .inl (by decide +kernel) | exact .inr (by decide +kernel)) (by rw [isSubtype_type]; kernel_rfl)
theorem mro_map : mroOf (.type "map") = pure [.type "map", .type "object"] := by rw [mroOf_type]; kernel_rfl
theorem lookup_map_new : typeLookup (.type "map") "__new__" = pure (some (.builtin "map.__new__")) := by rw [typeLookup_type, builtinLookup_eq_fast]; kernel_rfl
theorem called_map : TypeCalled "map" "map.__new__" "object.__init__" :=
  ⟨by decide +kernel, by decide +kernel, ⟨_, _, mro_map⟩, madeBy_type mro_map lookup_map_new (by decide +kernel), by decide +kernel, by rw [isSubtype_type]; kernel_rfl, slot_map_init⟩
theorem typeCall_map_2 (a b : Value) : checkTypeCall "map" ⟨[a, b], []⟩ = pure () := by kernel_rfl
theorem newCall_map_2 (a b : Value) : checkBuiltinCall "map.__new__" ⟨[.type "map", a, b], []⟩ = pure () := by kernel_rfl
theorem entry_map_new : entryFor table "map.__new__" = some Builtin.«map.__new__» := entryFor_of_tree (by kernel_rfl)
theorem entry_map_next : entryFor table "map.__next__" = some Builtin.«map.__next__» := entryFor_of_tree (by kernel_rfl)
theorem args_map_next (a : Value) : argsOk "map.__next__" ⟨[a], []⟩ := by unfold argsOk; kernel_rfl
theorem args_map_iter (a : Value) : argsOk "map.__iter__" ⟨[a], []⟩ := by unfold argsOk; kernel_rfl
theorem entry_map_iter : entryFor table "map.__iter__" = some Builtin.«dict_keyiterator.__iter__» :=
  entryFor_alias (id' := "dict_keyiterator.__iter__") (by kernel_rfl) (by first | rfl | decide +kernel | (unfold String.splitOn; simp +decide [String.splitOnAux])) (by decide +kernel) (by kernel_rfl)
theorem map_no_len : typeLookup (.type "map") "__len__" = pure none := by rw [typeLookup_type, builtinLookup_eq_fast]; kernel_rfl
theorem map_no_hint : typeLookup (.type "map") "__length_hint__" = pure none := by rw [typeLookup_type, builtinLookup_eq_fast]; kernel_rfl
theorem sub_map : isSubtype (.type "map") (.type "map") = pure true := by rw [isSubtype_type]; kernel_rfl
end MF
end Mine
end
section
open PySem PySem.Calls PySem.W
namespace Mine
variable [iO : Old]
noncomputable abbrev mapObj (t : Addr) (f : Value) : Obj := { cls := .type "map", data := .fields #[.ref t, f] }
theorem meets_map_new (f : Value) (l : Addr) (items : Array Value) (n : Nat) (dct : Option Addr) (sl : Array (Option Value)) :
    Meets (Builtin.«map.__new__» ⟨[.type "map", f, .ref l], []⟩) (fun _ R s => s.heap.get? l = some { cls := .type "list", dict := dct, data := .seq items n, slots := sl } ∧
      R (.ok (.ret (.ref ((s.heap.push { cls := .type "list_iterator", data := .fields #[.ref l, .int 0 0] }).push { cls := .type "tuple", data := .seq #[.ref s.heap.objs.size] }).objs.size)))
        { s with heap := ((s.heap.push { cls := .type "list_iterator", data := .fields #[.ref l, .int 0 0] }).push { cls := .type "tuple", data := .seq #[.ref s.heap.objs.size] }).push (mapObj (s.heap.push { cls := .type "list_iterator", data := .fields #[.ref l, .int 0 0] }).objs.size f) }) :=
  .of_wp fun prog w A R s h => by
    obtain ⟨hp, g, d, tk, os⟩ := s; obtain ⟨hl, h⟩ := h
    have hsub := MF.sub_map
    have hL : Heap.IsList (Shared.heap ⟨hp, g, d, tk, os⟩) l items := ⟨_, hl, rfl, n, rfl⟩
    wp_walk using wpAny_loadPart' hl, wpAny_pyIter_list hL
    exact ⟨_, rfl, h⟩
theorem Room.in1 {k : Nat} {A : Around} (r : Room (k + 1) A) (n : Nat) (hn : n ≤ 40 := by decide) : Room k { A with units := A.units + n } := by
  refine ⟨r.1, ?_, ?_⟩
  · show A.depth + 2 * k ≤ 999; have := r.2.1; lia
  · show A.units + n + 40 * k ≤ 9800; have := r.2.2; lia
theorem wpAny_letGo_ {M : Model} {A : Around} {E : Value → Shared → Prop} {s : Shared} {keep : List Value} {Q : Unit → Shared → Prop} : ∀ {vs : List Value}, Q () s → wpAny M A (letGo vs keep) Q E s
  | [], h => wpAny_pure h
  | v :: r, h => by
    unfold letGo
    exact wpAny_bind (wpAny_holding (wpAny_point (wpAny_letGo_ h)))
section
variable {prog : Program} {w : World} {A : Around} {E : Value → Shared → Prop} {s : Shared}
theorem map_next_item {M t it l : Addr} {f x : Value} {i n : Nat} {items : Array Value} {Q : Option Value → Shared → Prop} (hM : s.heap.get? M = some (mapObj t f)) (ht : s.heap.get? t = some { cls := .type "tuple", data := .seq #[.ref it] n }) (hit : s.heap.IsListIter it l i) (hl : s.heap.IsList l items) (hx : items[i]? = some x) (hMi : M ≠ it)
    (hc : ∀ h', h'.IsListIter it l (i + 1) → Heap.SameBut it s.heap h' → wpAny (model prog w) A.in1 (call f [x]) (fun v s' => Q (some v) s') (fun _ _ => False) { s with heap := h' }) : wpAny (model prog w) A (pyNext (.ref M)) Q E s := by
  have hT : s.TypeIs (.ref M) "map" := ⟨_, hM, rfl⟩
  unfold pyNext
  refine wpAny_bind (wpAny_attempt (wpAny_callSpecial?_slot (name := Str.ofString "__next__") hT MF.slot_map_next (wpAny_call_entry MF.slot_map_next hT MF.entry_map_next ?_ (MF.args_map_next _))))
  show wpAny _ _ (field (.ref M) 0 >>= _) _ _ _
  refine wpAny_bind (wpAny_field hM rfl (x := .ref t) rfl ?_)
  show wpAny _ _ (seqItems? (.ref t) >>= _) _ _ _
  refine wpAny_bind (wpAny_seqItems ht rfl ?_)
  dsimp only
  refine wpAny_bind ?_
  rw [← Array.forIn_toList]
  show wpAny _ _ (forIn [Value.ref it] (#[] : Array Value) _) _ _ _
  rw [List.forIn_cons]
  refine wpAny_bind (wpAny_bind (wpAny_holding (wpAny_nextOf_list_item hit hl hx fun h₁ hit₁ hs₁ => ?_)))
  refine wpAny_pure (wpAny_pure ?_)
  have hM₁ : h₁.get? M = some (mapObj t f) := (hs₁.2 M hMi).trans hM
  show wpAny _ _ (field (.ref M) 1 >>= _) _ _ _
  refine wpAny_bind (wpAny_field hM₁ rfl (x := f) rfl ?_)
  refine wpAny_bind (wpAny_holding ?_)
  refine wpAny_mono (hc h₁ hit₁ hs₁) (fun v s₂ q => ?_) fun _ _ x => x.elim
  refine wpAny_bind (wpAny_letGo_ ?_)
  exact wpAny_pure ⟨v, rfl, wpAny_pure q⟩
theorem map_next_end {M t it l : Addr} {f : Value} {i n : Nat} {items : Array Value} {Q : Option Value → Shared → Prop} (hh : A.handled = none) (hM : s.heap.get? M = some (mapObj t f)) (ht : s.heap.get? t = some { cls := .type "tuple", data := .seq #[.ref it] n }) (hit : s.heap.IsListIter it l i) (hl : s.heap.IsList l items) (hx : items[i]? = none)
    (hQ : ∀ h', Heap.ExtBut it s.heap h' → Q none { s with heap := h' }) : wpAny (model prog w) A (pyNext (.ref M)) Q E s := by
  have hT : s.TypeIs (.ref M) "map" := ⟨_, hM, rfl⟩
  unfold pyNext
  refine wpAny_bind (wpAny_attempt (wpAny_callSpecial?_slot (name := Str.ofString "__next__") hT MF.slot_map_next (wpAny_call_entry MF.slot_map_next hT MF.entry_map_next ?_ (MF.args_map_next _))))
  show wpAny _ _ (field (.ref M) 0 >>= _) _ _ _
  refine wpAny_bind (wpAny_field hM rfl (x := .ref t) rfl ?_)
  show wpAny _ _ (seqItems? (.ref t) >>= _) _ _ _
  refine wpAny_bind (wpAny_seqItems ht rfl ?_)
  dsimp only
  refine wpAny_bind ?_
  rw [← Array.forIn_toList]
  show wpAny _ _ (forIn [Value.ref it] (#[] : Array Value) _) _ _ _
  rw [List.forIn_cons]
  refine wpAny_bind (wpAny_bind (wpAny_holding (wpAny_nextOf_list_end hh hit hl hx fun h' x he' hx' => ?_)))
  obtain ⟨o, ho, hc⟩ := hx'
  refine wpAny_bind (wpAny_isInstance (T := "StopIteration") (b := true) ⟨o, ho, hc⟩ isSubtype_stop ?_)
  exact wpAny_pure (hQ _ he')
theorem map_iter {M t : Addr} {f : Value} {Q : Value → Shared → Prop} (hM : s.heap.get? M = some (mapObj t f)) (hQ : Q (.ref M) s) : wpAny (model prog w) A (pyIter (.ref M)) Q E s := by
  have hT : s.TypeIs (.ref M) "map" := ⟨_, hM, rfl⟩
  refine wpAny_pyIter_slot hT MF.slot_map_iter (wpAny_call_entry MF.slot_map_iter hT MF.entry_map_iter ?_ (MF.args_map_iter _))
  show wpAny _ _ (ret (.ref M)) _ _ s
  exact wpAny_pure ⟨_, rfl, "map", _, hT, MF.slot_map_next.lookup, hQ⟩
end
end Mine
end
section
open PySem PySem.Calls PySem.W
namespace Mine
variable [iO : Old]
section
variable {prog : Program} {w : World} {A : Around} {E : Value → Shared → Prop} {s : Shared}
theorem collect_map {M t : Addr} {f : Value} {Q : List Value → Shared → Prop} (hM : s.heap.get? M = some (mapObj t f))
    (hl : ∀ S h', s.heap.get? S = none → (∀ b o, s.heap.get? b = some o → h'.get? b = some o) → (∃ n, h'.get? S = some { cls := .type "list", dict := none, data := .seq #[] n, slots := #[] }) →
      codeAny (model prog w) A (.builtin "list.extend.loop" ⟨[.ref S, .ref M, .ref S], []⟩) (fun r s' => r = .ok (.ret (.ref S)) ∧ ∃ acc n, s'.heap.get? S = some { cls := .type "list", dict := none, data := .seq acc n, slots := #[] } ∧ Q acc.toList s') { s with heap := h' }) :
    wpAny (model prog w) A (collect (.ref M)) Q E s := by
  have hT : s.TypeIs (.ref M) "map" := ⟨_, hM, rfl⟩
  unfold collect
  refine wpAny_bind (wpAny_runValue (codeAny_builtin F.entry_proto_collect ?_))
  rw [Around.under_plainId F.plain_proto_collect _]
  have hlt : M ≠ s.heap.objs.size := Nat.ne_of_lt (Heap.lt_size hM)
  obtain ⟨h, g, d, tk, os⟩ := s
  have hM' : (h.push { cls := .type "list", data := .seq ([] : List Value).toArray }).get? M = some (mapObj t f) := Heap.get?_push_of_some _ hM
  have hT' : (⟨h.push { cls := .type "list", data := .seq ([] : List Value).toArray }, g, d, tk, os⟩ : Shared).TypeIs (.ref M) "map" := ⟨_, hM', rfl⟩
  have q1 := MF.map_no_len
  have q2 := MF.map_no_hint
  wp_walk using wpAny_typeOf hT', map_iter hM'
  refine ⟨plainId_quiet F.plain_list_iadd _, codeAny_builtin F.entry_list_iadd ?_⟩
  rw [Around.under_plainId F.plain_list_iadd _]
  show wpAny _ _ (Builtin.List.listExtendWith (.ref h.objs.size) (.ref M) (.ref h.objs.size)) _ _ _
  have h1 : Builtin.List.listSameRef (.ref h.objs.size) (.ref M) = false := by simp [Builtin.List.listSameRef, Ne.symm hlt]
  have h2 : (Value.type "map" == Value.type "list") = false := by decide
  have h3 : (Value.type "map" == Value.type "tuple") = false := by decide
  unfold Builtin.List.listExtendWith
  refine wpAny_bind (wpAny_typeOf hT' ?_)
  simp only [h1, h2, h3, Bool.or_false, Bool.false_eq_true, if_false]
  refine wpAny_bind (map_iter hM' ?_)
  refine wpAny_bind (wpAny_holding ?_)
  unfold Builtin.List.listLengthHint
  refine wpAny_bind (wpAny_specialOf hT' MF.map_no_len ?_)
  show wpAny _ _ (specialOf (Value.ref M) (Str.ofString "__length_hint__") >>= _) _ _ _
  refine wpAny_bind (wpAny_specialOf hT' MF.map_no_hint ?_)
  refine wpAny_pure ?_
  have hS : (h.push { cls := .type "list", data := .seq ([] : List Value).toArray }).get? h.objs.size = some { cls := .type "list", dict := none, data := .seq #[] 0, slots := #[] } := Heap.get?_push_size _ rfl
  show wpAny _ _ (rule "list.extend.makes-room" >>= fun _ => Builtin.List.listTouch (.ref h.objs.size) >>= fun _ => again (.builtin "list.extend.loop" ⟨[.ref h.objs.size, .ref M, .ref h.objs.size], []⟩)) _ _ _
  refine wpAny_bind (wpAny_rule (wpAny_bind ?_))
  show wpAny _ _ (updateSeq h.objs.size (·.push .none) >>= fun _ => updateSeq h.objs.size (·.pop)) _ _ _
  refine wpAny_bind (wpAny_updateSeq hS rfl ?_)
  obtain ⟨n₁, z₁⟩ := mapSeq_eq #[] 0 (·.push Value.none)
  have hS₁ := Heap.get?_update_self (Obj.mapSeq (·.push Value.none)) hS (by rw [z₁]; rfl)
  rw [z₁] at hS₁
  refine wpAny_updateSeq hS₁ rfl ?_
  obtain ⟨n₂, z₂⟩ := mapSeq_eq (#[].push Value.none) n₁ (·.pop)
  have hS₂ := Heap.get?_update_self (Obj.mapSeq (·.pop)) hS₁ (by rw [z₂]; rfl)
  rw [z₂] at hS₂
  have hfresh : h.get? h.objs.size = none := size_none h
  refine wpAny_pure ⟨plainId_quiet F.plain_extend_loop _, codeAny_mono (hl h.objs.size _ hfresh (fun b o e => ?_) ⟨n₂, hS₂⟩) fun r s' q => ?_⟩
  · have hb : b ≠ h.objs.size := Nat.ne_of_lt (Heap.lt_size e)
    exact (Heap.get?_update_other _ _ (Ne.symm hb)).trans ((Heap.get?_update_other _ _ (Ne.symm hb)).trans (Heap.get?_push_of_some _ e))
  · obtain ⟨rfl, acc, n, ha, hq⟩ := q
    show wpAny _ _ (load h.objs.size >>= _) _ _ s'
    exact wpAny_bind (wpAny_load ha (wpAny_pure hq))
end
end Mine
end
section
open PySem PySem.Calls PySem.W
namespace Mine
variable [iO : Old]
noncomputable abbrev llObj (vs : List Value) (n : Nat) : Obj := { cls := .type "list", dict := none, data := .seq vs.toArray n, slots := #[] }
section
variable {prog : Program} {w : World} {A : Around}
theorem extend_loop {I : Value} {S : Addr} {n : Nat} (J : Nat → List Value → Shared → Prop) (Rr : List Value → Shared → Prop) (hn : n ≤ sizeLine)
    (step : ∀ i vs s, i < n → J i vs s → vs.length = i → wpAny (model prog w) A.in1 (pyNext I) (fun r s' => ∃ v, r = some v ∧ LL s'.heap S vs ∧ ∀ h', LL h' S (vs ++ [v]) → Heap.SameBut S s'.heap h' → J (i + 1) (vs ++ [v]) { s' with heap := h' }) (fun _ _ => False) s)
    (done : ∀ vs s, J n vs s → vs.length = n → wpAny (model prog w) A.in1 (pyNext I) (fun r s' => r = none ∧ Rr vs s') (fun _ _ => False) s) (res : Value) :
    ∀ (k i : Nat) (vs : List Value) (s : Shared), n - i = k → i ≤ n → vs.length = i → J i vs s → codeAny (model prog w) A (.builtin "list.extend.loop" ⟨[.ref S, I, res], []⟩) (fun r s' => r = .ok (.ret res) ∧ ∃ vs, Rr vs s') s := by
  intro xs
  induction xs with
  | zero =>
    intro i vs s hk hi hl hJ
    obtain rfl : i = n := by lia
    refine codeAny_builtin F.entry_extend_loop ?_
    rw [Around.under_plainId F.plain_extend_loop _]
    show wpAny _ A.in1 (pyNext I >>= _) _ _ s
    refine wpAny_bind (wpAny_mono (done vs s hJ hl) (fun r s' q => ?_) fun _ _ x => x.elim)
    obtain ⟨rfl, q⟩ := q
    exact wpAny_pure ⟨rfl, vs, q⟩
  | succ k ih =>
    intro i vs s hk hi hl hJ
    refine codeAny_builtin F.entry_extend_loop ?_
    rw [Around.under_plainId F.plain_extend_loop _]
    show wpAny _ A.in1 (pyNext I >>= _) _ _ s
    refine wpAny_bind (wpAny_mono (step i vs s (by lia) hJ hl) (fun r s' q => ?_) fun _ _ x => x.elim)
    obtain ⟨v, rfl, ⟨m, hS⟩, q⟩ := q
    show wpAny _ A.in1 (updateSeq S (·.push v) >>= _) _ _ _
    obtain ⟨m', z⟩ := mapSeq_eq vs.toArray m (·.push v)
    have hS' := Heap.get?_update_self (Obj.mapSeq (·.push v)) hS (by rw [z]; rfl)
    rw [z] at hS'
    refine wpAny_bind (wpAny_updateSeq hS rfl (wpAny_pure ⟨plainId_quiet F.plain_extend_loop _, ih (i + 1) (vs ++ [v]) _ (by lia) (by lia) (by simp [hl]) (q _ ⟨m', by rw [hS']; simp⟩ (Heap.SameBut.update ..))⟩) (by rw [List.size_toArray, hl]; lia) (by show (vs.toArray.push v).size ≤ sizeLine + 1; rw [Array.size_push, List.size_toArray, hl]; lia))
end
end Mine
end
section
open PySem PySem.Calls PySem.W
namespace Mine
variable [iO : Old]
section
variable {c : Cx} {k : Nat} {A : Around}
theorem collectMap {F : Fz} {sb s : Shared} {M t it l : Addr} {fv : Value} {vs : List Value} {ds es : List PyData} {n : Nat} {Q : List Value → Shared → Prop} (R : Room k A.in1.in1) (g : Gd c.K A.frames sb) (k₀ : Ks sb s) (t₀ : sb.toks ≤ s.toks)
    (hM : s.heap.get? M = some (mapObj t fv)) (ht : s.heap.get? t = some { cls := .type "tuple", data := .seq #[.ref it] n }) (hit : s.heap.IsListIter it l 0) (hl : s.heap.IsList l vs.toArray)
    (fM : sb.heap.get? M = none ∧ M ≠ tab0) (ft : sb.heap.get? t = none ∧ t ≠ tab0) (fi : sb.heap.get? it = none ∧ it ≠ tab0) (fl : (∃ o, sb.heap.get? l = some o) ∧ l ≠ tab0) (hMi : M ≠ it) (hti : t ≠ it)
    (hr : RepAll F sb.heap vs ds) (hlen : es.length = ds.length) (hf : ∀ (i : Nat) d e, ds[i]? = some d → es[i]? = some e → FnC c k fv [.d d] (.d e)) (hsz : ds.length ≤ sizeLine)
    (hQ : ∀ acc s', Ks sb s' → sb.toks ≤ s'.toks → RepAll (F.ext sb.heap) s'.heap acc es → Q acc s') : wpAny (model c.prog c.w) A (collect (.ref M)) Q (fun _ _ => False) s := by
  have hvl := hr.length
  refine collect_map hM fun S h₁ hS hk₁ ⟨m₁, hS₁⟩ => ?_
  have g₀ := g.ks k₀ t₀
  have ne : ∀ {a}, (∃ o, s.heap.get? a = some o) → a ≠ S := fun ⟨o, e⟩ z => by rw [z, hS] at e; injection e
  have hSb : sb.heap.get? S = none ∧ S ≠ tab0 := by
    have nt : S ≠ tab0 := fun z => by obtain ⟨o, e⟩ := g₀.tab.ex; rw [z] at hS; rw [hS] at e; injection e
    exact ⟨k₀.kp.gone nt hS, nt⟩
  have itS : it ≠ S := ne ((by obtain ⟨o, e, _⟩ := hit; exact ⟨o, e⟩))
  have MS : M ≠ S := ne ⟨_, hM⟩
  have tS : t ≠ S := ne ⟨_, ht⟩
  have k₁ : Ks sb { s with heap := h₁ } := k₀.trans (Ks.mk (tk := s.toks) (Kp.of hk₁))
  let Fq : Fz := fun a => F.ext sb.heap a ∧ a ≠ it ∧ a ≠ S
  refine codeAny_mono (extend_loop (n := ds.length) (fun i acc s' => Ks sb s' ∧ sb.toks ≤ s'.toks ∧ s'.heap.get? M = some (mapObj t fv) ∧ s'.heap.get? t = some { cls := .type "tuple", data := .seq #[.ref it] n } ∧ s'.heap.IsListIter it l i ∧ LL s'.heap S acc ∧ RepAll Fq s'.heap acc (es.take i))
    (fun acc s' => Ks sb s' ∧ sb.toks ≤ s'.toks ∧ LL s'.heap S acc ∧ RepAll Fq s'.heap acc es) hsz ?step ?done (.ref S) ds.length 0 [] { s with heap := h₁ } (by lia) (Nat.zero_le _) rfl ⟨k₁, t₀, hk₁ _ _ hM, hk₁ _ _ ht, hit.at fun o e => hk₁ _ _ e, ⟨m₁, hS₁⟩, .nil⟩) fun r s' q => ?_
  case step =>
    rintro i acc s' hi ⟨k', t', hM', ht', hit', hS', hr'⟩ hal
    have hl' : s'.heap.IsList l vs.toArray := by
      obtain ⟨o, e⟩ := fl.1
      obtain ⟨o', e', r'⟩ := hl
      obtain ⟨sl, e2⟩ := k₀.kp.both fl.2 e
      rw [e2] at e'; obtain rfl := Option.some.inj e'
      exact ⟨o, k'.kp.keep _ _ fl.2 (nfr_of (T := "list") r'.1) e, r'⟩
    obtain ⟨d, hd⟩ : ∃ d, ds[i]? = some d := ⟨_, List.getElem?_eq_getElem hi⟩
    obtain ⟨e, he⟩ : ∃ e, es[i]? = some e := ⟨_, List.getElem?_eq_getElem (by lia)⟩
    obtain ⟨x, hx, hxr⟩ := hr.get hd
    refine map_next_item hM' ht' hit' hl' (x := x) (by simpa using hx) hMi fun h₂ hit₂ hs₂ => ?_
    have k₂ : Ks sb { s' with heap := h₂ } := by
      obtain ⟨hh, tt, q, kp⟩ := id k'
      refine ⟨h₂, tt, by rw [q], k'.kp.andThen (fun b o o₁ nb eb e₁ => hs₂.extBut b o₁ (fun z => ?_) e₁) (fun T => ?_)⟩
      · rw [z, fi.1] at eb; injection eb
      · obtain ⟨o, ho, so⟩ := listIter_soft hit'
        exact (k'.kp.tab T).one ho so hs₂.extBut
    have hxr' : Rep (alive F sb.heap) h₂ x d := hxr.alive.kp k₂.kp
    refine ((hf i d e hd he).run A.in1.in1 (alive F sb.heap) { s' with heap := h₂ } [x] R (g.ks k₂ t') (.cons hxr' .nil)).use fun v s₃ k₃ t₃ h₃ => ?_
    have hv : Rep Fq s₃.heap v e := by
      refine Rep.mono (F := (alive F sb.heap).ext h₂) (fun a na f => ?_) (fun _ _ _ _ _ e => e) h₃
      rcases f with ⟨f, o, eo⟩ | f
      · exact ⟨.inl f, fun z => (by rw [z, fi.1] at eo; injection eo), fun z => (by rw [z, hSb.1] at eo; injection eo)⟩
      · refine ⟨.inr ?_, fun z => ?_, fun z => ?_⟩
        · exact k₂.kp.gone na f
        · obtain ⟨o, eo, _⟩ := hit₂; rw [z, eo] at f; injection f
        · obtain ⟨m, eo⟩ := hS'; rw [z, hs₂.2 S (Ne.symm itS), eo] at f; injection f
    have hS₃ : LL s₃.heap S acc := (hS'.at fun o _ eo => (hs₂.2 S (Ne.symm itS)).trans eo).at fun o c eo => k₃.kp.keep _ _ hSb.2 c eo
    refine ⟨v, rfl, hS₃, fun h₄ hS₄ hs₄ => ⟨?_, Nat.le_trans t' t₃, ?_, ?_, ?_, hS₄, ?_⟩⟩
    · have k₄ := k₂.trans k₃
      obtain ⟨hh, tt, q, kp⟩ := k₄
      refine ⟨h₄, tt, by rw [q], (k₂.trans k₃).kp.andThen (fun b o o₁ nb eb e₁ => hs₄.extBut b o₁ (fun z => ?_) e₁) (fun T => ?_)⟩
      · rw [z, hSb.1] at eb; injection eb
      · obtain ⟨m, eo⟩ := hS₃
        exact ((k₂.trans k₃).kp.tab T).one eo (.inl fun vs z => nomatch z) hs₄.extBut
    · exact hs₄.extBut _ _ MS (k₃.kp.keep _ _ fM.2 (nfr_of (T := "map") rfl) (hs₂.extBut _ _ hMi hM'))
    · exact hs₄.extBut _ _ tS (k₃.kp.keep _ _ ft.2 (nfr_of (T := "tuple") rfl) (hs₂.extBut _ _ hti ht'))
    · exact (li_nf hit₂ fun o c eo => k₃.kp.keep _ _ fi.2 c eo).at fun o eo => hs₄.extBut _ _ itS eo
    · have e2 : es.take (i + 1) = es.take i ++ [e] := by rw [List.take_add_one, he]; rfl
      rw [e2]
      have a1 : RepAll Fq h₂ acc (es.take i) := hr'.mono (fun _ _ f => f) fun a o f n _ eo => hs₂.extBut a o f.2.1 eo
      exact ((a1.kp k₃.kp).snoc hv).mono (fun _ _ f => f) fun a o f n _ eo => hs₄.extBut a o f.2.2 eo
  case done =>
    rintro acc s' ⟨k', t', hM', ht', hit', hS', hr'⟩ hal
    have hl' : s'.heap.IsList l vs.toArray := by
      obtain ⟨o, e⟩ := fl.1
      obtain ⟨o', e', r'⟩ := hl
      obtain ⟨sl, e2⟩ := k₀.kp.both fl.2 e
      rw [e2] at e'; obtain rfl := Option.some.inj e'
      exact ⟨o, k'.kp.keep _ _ fl.2 (nfr_of (T := "list") r'.1) e, r'⟩
    refine map_next_end R.1 hM' ht' hit' hl' (by simp [hvl]) fun h₂ hs₂ => ⟨rfl, ?_, t', ?_, ?_⟩
    · obtain ⟨hh, tt, q, kp⟩ := id k'
      refine ⟨h₂, tt, by rw [q], k'.kp.andThen (fun b o o₁ nb eb e₁ => hs₂ b o₁ (fun z => ?_) e₁) (fun T => ?_)⟩
      · rw [z, fi.1] at eb; injection eb
      · obtain ⟨o, ho, so⟩ := listIter_soft hit'
        exact (k'.kp.tab T).one ho so hs₂
    · exact hS'.at fun o _ eo => hs₂ _ _ (Ne.symm itS) eo
    · rw [← hlen, List.take_length] at hr'
      exact hr'.mono (fun _ _ f => f) fun a o f n _ eo => hs₂ a o f.2.1 eo
  · obtain ⟨rfl, acc, k', t', ⟨m, hS'⟩, hr'⟩ := q
    exact ⟨rfl, acc.toArray, m, hS', hQ acc s' k' t' (hr'.mono (fun a _ f => f.1) fun _ _ _ _ _ e => e)⟩
end
end Mine
end
section
open PySem PySem.Calls PySem.W
namespace Mine
variable [iO : Old]
section
variable {prog : Program} {w : World} {A : Around} {E : Value → Shared → Prop} {s : Shared}
theorem call_tuple_map {M t : Addr} {fv : Value} {Q : Value → Shared → Prop} (hM : s.heap.get? M = some (mapObj t fv))
    (h : wpAny (model prog w) A.in1.in1 (collect (.ref M)) (fun acc s' => acc.length ≤ sizeLine ∧ Q (.ref s'.heap.objs.size) { s' with heap := s'.heap.push { cls := .type "tuple", data := .seq acc.toArray } }) (fun _ _ => False) s) :
    wpAny (model prog w) A (call (.type "tuple") [.ref M]) Q E s := by
  have hTI : s.TypeIs (.ref M) "map" := ⟨_, hM, rfl⟩
  refine callType_codes (Q₁ := fun obj s₁ => s₁.TypeIs obj "tuple" ∧ Q obj s₁) F.called_tuple (F.typeCall_tuple_1 _) F.entry_object_init ?_ fun obj s₁ h₁ => ⟨h₁.1, F.args_object_init_2 obj _, object_init_meets F.called_tuple.init.lookup F.called_tuple.made (by decide) prog w A.in1 _ s₁ ⟨h₁.1, rfl, h₁.2⟩⟩
  refine codeAny_of_tree ?_
  show wpAny _ _ (do checkBuiltinCall "tuple.__new__" ⟨[.type "tuple", .ref M], []⟩; again (.builtin "tuple.__new__" ⟨[.type "tuple", .ref M], []⟩)) _ _ s
  refine wpAny_bind (wpAny_of_eq (F.newCall_tuple_1 _) (wpAny_pure ⟨plainId_quiet F.plain_tuple_new _, codeAny_builtin F.entry_tuple_new ?_⟩))
  rw [Around.under_plainId F.plain_tuple_new _]
  have hsub := sub_tuple_self
  have hinit := init_tuple_lookup
  have hmh := madeHere_tuple
  have hcol : ∀ {Q2 : List Value → Shared → Prop} {E2 : Value → Shared → Prop}, (∀ acc s', (acc.length ≤ sizeLine ∧ Q (.ref s'.heap.objs.size) { s' with heap := s'.heap.push { cls := .type "tuple", data := .seq acc.toArray } }) → Q2 acc s') → wpAny (model prog w) A.in1.in1 (collect (.ref M)) Q2 E2 s :=
    fun hq => wpAny_mono h (fun acc s' q => hq acc s' q) fun _ _ x => x.elim
  wp_walk using wpAny_typeOf hTI, hcol
  rintro acc s' ⟨hle, hq⟩
  show wpAny _ _ (Builtin.Tuple.tupleExact acc.toArray >>= fun v => ret v) _ _ _
  unfold Builtin.Tuple.tupleExact
  refine wpAny_bind (wpAny_newObj_type ?_ (by show acc.toArray.size ≤ sizeLine; rw [List.size_toArray]; exact hle))
  exact wpAny_pure ⟨⟨_, Heap.get?_push_size _ rfl, rfl⟩, hq⟩
end
section
variable {c : Cx} {k : Nat} {env : Env} {σ : Loc}
theorem Ev.tupleMap {p p1 p2 p3 : Pos} {f xs : PySem.Expr} {fv : Value} {ds es : List PyData} (h1 : Ev c (k + 1) env σ (.Name "tuple" p1) (.v (.type "tuple"))) (h2 : Ev c (k + 1) env σ (.Name "map" p2) (.v (.type "map"))) (hf : Ev c (k + 1) env σ f (.v fv)) (hxs : Ev c (k + 1) env σ xs (.d (.list ds)))
    (hlen : es.length = ds.length) (hc : ∀ (i : Nat) d e, ds[i]? = some d → es[i]? = some e → FnC c k fv [.d d] (.d e)) (hsz : ds.length ≤ sizeLine) (nf : ∀ y p, f ≠ .Starred y p := by intro _ _ h; cases h) (nx : ∀ y p, xs ≠ .Starred y p := by intro _ _ h; cases h) :
    Ev c (k + 1) env σ (.Call (.Name "tuple" p1) [.Call (.Name "map" p2) [f, xs] [] p3] [] p) (.d (.tuple es)) := by
  constructor; intro A F s R G g L
  refine PyProof.Rows.Call_ ((h1.run A F s R G g L).use fun v1 s₁ k₁ t₁ q1 => ?_)
  obtain rfl : v1 = .type "tuple" := q1
  have g₁ := g.ks k₁ t₁
  have L₁ := L.kp k₁.kp
  refine callWith_type rfl (evalArgs_plain (spliced_cons (PyProof.Rows.Call_ ((h2.run A F s₁ R G g₁ L₁).use fun v2 s₂ k₂ t₂ q2 => ?_))))
  obtain rfl : v2 = .type "map" := q2
  have g₂ := g₁.ks k₂ t₂
  have L₂ := L₁.kp k₂.kp
  have hs : starEach [f, xs] env = [(false, eval f env), (false, eval xs env)] := by rw [star_cons nf, star_cons nx]; rfl
  refine callWith_type (by rw [hs]; rfl) ?_
  rw [hs]
  refine evalArgs_plain (spliced_cons ((hf.run A F s₂ R G g₂ L₂).use fun v3 s₃ k₃ t₃ q3 => spliced_cons ((hxs.run A F s₃ R G (g₂.ks k₃ t₃) (L₂.kp k₃.kp)).use fun v4 s₄ k₄ t₄ q4 => spliced_nil ?_)))
  obtain rfl : v3 = fv := q3
  have g₄ := (g₂.ks k₃ t₃).ks k₄ t₄
  obtain ⟨l, vs, rfl, fl, nl, hl, r⟩ := q4.isList
  obtain ⟨⟨cc, dd, dt, sl⟩, hlo, hcl, n, hd⟩ := id hl
  simp only at hcl hd
  subst hcl hd
  refine callType_new MF.called_map (by decide) (MF.typeCall_map_2 _ _) (MF.newCall_map_2 _ _) (fun obj => ?ok) MF.entry_map_new (meets_map_new v3 l vs.toArray n dd sl) ⟨hlo, ?_⟩
  case ok => unfold argsOk; kernel_rfl
  generalize hh1 : s₄.heap.push { cls := .type "list_iterator", data := .fields #[.ref l, .int 0 0] } = H1
  have z1 : H1.objs.size = s₄.heap.objs.size + 1 := by rw [← hh1, Heap.size_push]
  generalize hh2 : H1.push { cls := .type "tuple", data := .seq #[.ref s₄.heap.objs.size] } = H2
  have z2 : H2.objs.size = s₄.heap.objs.size + 2 := by rw [← hh2, Heap.size_push, z1]
  have e1 : H1.get? s₄.heap.objs.size = some { cls := .type "list_iterator", data := .fields #[.ref l, .int 0 0] } := by rw [← hh1]; exact Heap.get?_push_size _ rfl
  have e2 : H2.get? H1.objs.size = some { cls := .type "tuple", data := .seq #[.ref s₄.heap.objs.size] } := by rw [← hh2]; exact Heap.get?_push_size _ rfl
  have e3 : (H2.push (mapObj H1.objs.size v3)).get? H2.objs.size = some (mapObj H1.objs.size v3) := Heap.get?_push_size _ rfl
  have kk : ∀ b o, s₄.heap.get? b = some o → (H2.push (mapObj H1.objs.size v3)).get? b = some o := fun b o e => Heap.get?_push_of_some _ (by rw [← hh2]; exact Heap.get?_push_of_some _ (by rw [← hh1]; exact Heap.get?_push_of_some _ e))
  have k5 : Ks s₄ { s₄ with heap := H2.push (mapObj H1.objs.size v3) } := Ks.mk (tk := s₄.toks) (Kp.of kk)
  have b1 := fun (a : Addr) (h : s₄.heap.objs.size ≤ a) => beyond (Ks.refl s₄) g₄ h
  refine ⟨⟨_, e3, rfl⟩, spliced_nil (call_tuple_map e3 ?_)⟩
  refine collectMap (k := k) (R.in1 4) g₄ k5 (Nat.le_refl _) e3 (Heap.get?_push_of_some _ e2) (it := s₄.heap.objs.size) (l := l) (vs := vs) (ds := ds) (es := es) ⟨_, Heap.get?_push_of_some _ (by rw [← hh2]; exact Heap.get?_push_of_some _ e1), rfl, rfl⟩ (hl.at fun o e => kk _ _ e)
    (b1 _ (by lia)) (b1 _ (by lia)) (b1 _ (by lia)) ⟨⟨_, hlo⟩, nl⟩ (fun z => by have z : H2.objs.size = s₄.heap.objs.size := z; lia) (fun z => by have z : H1.objs.size = s₄.heap.objs.size := z; lia) r hlen hc hsz fun acc s' k' t' r' => ⟨by rw [r'.length, hlen]; exact hsz, ?_⟩
  have g' := g₄.ks k' t'
  have k03 := (k₁.trans k₂).trans k₃
  have k04 := k03.trans k₄
  have r2 : RepAll (F.ext s.heap) s'.heap acc es := r'.mono (fun a n f => Fz.ext_kp k03.kp n (Fz.ext_ext k₄.kp n f)) fun _ _ _ _ _ e => e
  have z := newTup_rep (F := F.ext s.heap) (tk := s'.toks) g' (r2.mono (fun _ _ f => .inl f) fun _ _ _ _ _ e => e)
  exact ⟨(k04.trans k').trans z.1, z.2.mono (fun a n f => Fz.ext_ext (k04.trans k').kp n f) fun _ _ _ _ _ e => e⟩
end
end Mine
end
section
open PySem PySem.Calls PySem.W
namespace Mine
variable [iO : Old]
noncomputable abbrev set0 (b : Bool) : Obj := { cls := .type "set", data := .set #[] 0 (.fresh (finger := 0) (moves := 0) (led := b)) }
section
variable {prog : Program} {w : World} {A : Around} {E : Value → Shared → Prop} {s : Shared}
theorem pyHash_true {Q : Int → Shared → Prop} (h : Q 1 { s with toks := s.toks + 1 }) : wpAny (model prog w) A (pyHash (.bool true)) Q E s := by
  have hT : s.TypeIs (.bool true) "bool" := rfl
  unfold pyHash
  refine wpAny_bind ?_
  rw [cRoomFor, if_neg (by show ¬ (([Value.bool true].any Value.onHeap) = true); decide)]; refine wpAny_pure ?_
  refine wpAny_bind (wpAny_specialOf hT F.slot_bool_hash.lookup ?_)
  show wpAny _ _ (if (some (Value.builtin "int.__hash__") == some Value.none) = true then _ else _) Q E s
  rw [if_neg (by rw [beq_builtin_none]; exact Bool.false_ne_true)]
  refine wpAny_bind (wpAny_specialOf hT F.slot_bool_hash.lookup ?_)
  show wpAny _ _ (callSpecialIfBoundUnlessNone? (.bool true) "__hash__" _ >>= _) Q E s
  refine wpAny_bind (wpAny_callSpecialIfBoundUnlessNone?_slot hT F.slot_bool_hash (wpAny_call_entry F.slot_bool_hash hT F.entry_int_hash ?_ (F.args_int_hash_1 _)))
  obtain ⟨hp, g, d, tk, os⟩ := s
  wp_walk
  refine ⟨_, rfl, ?_⟩
  show wpAny _ _ (if (decide (-(2 : Int) ^ 63 ≤ (1 : Int)) && decide ((1 : Int) < 2 ^ 63)) = true then _ else _) Q E _
  rw [if_pos (by decide)]
  exact wpAny_pure h
noncomputable def t1 (b : Bool) : SetTable := { mask := 7, place := #[1], dummies := #[], finger := 0, led := b, moves := 0, plain := true }
theorem lay1 (b : Bool) : layNew (SetTable.fresh 0 0 b) #[] 1 (.bool true) = (#[(1, .bool true)], t1 b, false, false) := by cases b <;> first | kernel_rfl | decide +kernel | rfl
theorem tf1 (b : Bool) : (t1 b).tooFull = false := by cases b <;> first | kernel_rfl | decide +kernel | rfl
noncomputable def IsSet1 (h : Heap) (D : Addr) (b : Bool) : Prop := ∃ ep, h.get? D = some { cls := .type "set", data := .set #[(1, .bool true)] ep (t1 b) }
theorem set_add_first {D : Addr} {b : Bool} {Q : Value → Shared → Prop} (hD : s.heap.get? D = some (set0 b)) (h : ∀ h', IsSet1 h' D b → Heap.SameBut D s.heap h' → Q .none { s with heap := h', toks := s.toks + 1 }) : wpAny (model prog w) A (call (.builtin "set.add") [.ref D, .bool true]) Q E s := by
  have hT : s.TypeIs (.ref D) "set" := ⟨_, hD, rfl⟩
  refine wpAny_call_entry F.slot_set_add hT F.entry_set_add ?_ (F.args_set_add_2 _ _)
  unfold Builtin.«set.add» Builtin.Frozenset.oneOther
  simp only [List.isEmpty_nil, bind_assoc]
  unfold Builtin.Frozenset.addrOf setAdd
  refine wpAny_bind (wpAny_pure ?_)
  try dsimp only
  refine wpAny_bind (wpAny_pure ?_)
  try dsimp only
  refine wpAny_bind ?_
  refine wpAny_holding ?_
  refine wpAny_bind (pyHash_true ?_)
  unfold setAddHashed setAddHashedIn
  refine wpAny_holding (wpAny_bind (wpAny_setState_of (s := { s with toks := s.toks + 1 }) hD rfl (by cases b <;> decide +kernel) ?_))
  dsimp only
  rw [show byScan (.bool true) #[] = true from by decide +kernel]
  simp only [↓reduceIte]
  unfold setAddByScan
  refine wpAny_bind ?_
  refine wpAny_bind (wpAny_rule ?_)
  refine wpAny_bind (m := setScan D (.bool true) 1 true #[]) (wpAny_pure ?_)
  dsimp only
  refine wpAny_bind (wpAny_pure ?_)
  rw [lay1]
  dsimp only
  rw [if_pos (show (t1 b).plain = true from rfl)]
  refine wpAny_bind (m := hashByValue 8 (.bool true)) (wpAny_pure ?_)
  simp only [if_true]
  have hu : (s.heap.update D (Obj.putSet #[(1, .bool true)] (t1 b))).get? D = some { cls := .type "set", data := .set #[(1, .bool true)] (0 + 1) (t1 b) } := by
    have := Heap.get?_update_self (Obj.putSet #[(1, .bool true)] (t1 b)) hD rfl
    rw [this]; rfl
  refine wpAny_bind (wpAny_storeSet_of (s := { s with toks := s.toks + 1 }) hD rfl ?_ (by show 1 ≤ sizeLine; exact Nat.le_of_ble_eq_true rfl))
  rw [tf1]
  simp only [Bool.not_false, Bool.and_false, Bool.false_eq_true, if_false]
  exact wpAny_pure (wpAny_pure (wpAny_pure ⟨_, rfl, h _ ⟨_, hu⟩ (Heap.SameBut.update ..)⟩))
theorem set_add_again {D : Addr} {b : Bool} {Q : Value → Shared → Prop} (hD : IsSet1 s.heap D b) (h : Q .none { s with toks := s.toks + 1 }) : wpAny (model prog w) A (call (.builtin "set.add") [.ref D, .bool true]) Q E s := by
  obtain ⟨ep, hD⟩ := hD
  have hT : s.TypeIs (.ref D) "set" := ⟨_, hD, rfl⟩
  refine wpAny_call_entry F.slot_set_add hT F.entry_set_add ?_ (F.args_set_add_2 _ _)
  unfold Builtin.«set.add» Builtin.Frozenset.oneOther
  simp only [List.isEmpty_nil, bind_assoc]
  unfold Builtin.Frozenset.addrOf setAdd
  refine wpAny_bind (wpAny_pure ?_)
  try dsimp only
  refine wpAny_bind (wpAny_pure ?_)
  try dsimp only
  refine wpAny_bind ?_
  refine wpAny_holding ?_
  refine wpAny_bind (pyHash_true ?_)
  unfold setAddHashed setAddHashedIn
  have hst : ∀ {A : Around} {E : Value → Shared → Prop} {Q : (Array (Int × Value) × Nat × SetTable) → Shared → Prop}, Q (#[(1, .bool true)], ep, t1 b) { s with toks := s.toks + 1 } → wpAny (model prog w) A (setState D) Q E { s with toks := s.toks + 1 } :=
    fun q => wpAny_setState_of (s := { s with toks := s.toks + 1 }) hD rfl (by cases b <;> decide +kernel) q
  refine wpAny_holding (wpAny_bind (hst ?_))
  dsimp only
  rw [show byScan (.bool true) #[(1, .bool true)] = true from by decide +kernel]
  simp only [↓reduceIte]
  unfold setAddByScan
  refine wpAny_bind ?_
  refine wpAny_bind (wpAny_rule ?_)
  refine wpAny_bind (m := setScanFrom D (.bool true) 1 true [(1, .bool true)] 0) ?_
  unfold setScanFrom
  rw [if_pos (by decide)]
  unfold setEpoch
  refine wpAny_bind (wpAny_bind (hst (wpAny_pure ?_)))
  refine wpAny_bind (m := eqBool (.bool true) (.bool true)) ?_
  unfold eqBool
  refine wpAny_holding ?_
  show wpAny _ _ (if (Value.bool true == Value.bool true) = true then _ else _) _ _ _
  rw [if_pos (by decide)]
  refine wpAny_bind (wpAny_rule (wpAny_pure ?_))
  simp only [Bool.and_self, if_true]
  refine wpAny_pure ?_
  dsimp only
  exact wpAny_pure (wpAny_pure (wpAny_pure ⟨_, rfl, h⟩))
end
end Mine
end
section
open PySem PySem.Calls PySem.W
namespace Mine
variable [iO : Old]
namespace SF
theorem slot_set_iter : Slot "set" "__iter__" "set.__iter__" :=
  .of (owner := "set") (n := "__iter__") (by rw [typeLookup_type, builtinLookup_eq_fast]; kernel_rfl) (by decide +kernel) (by decide +kernel) (by decide +kernel)
    (by first | exact .inl (by decide +kernel) | exact .inr (by decide +kernel)) (by rw [isSubtype_type]; kernel_rfl)
theorem slot_next : Slot "set_iterator" "__next__" "set_iterator.__next__" :=
  .of (owner := "set_iterator") (n := "__next__") (by rw [typeLookup_type, builtinLookup_eq_fast]; kernel_rfl) (by decide +kernel) (by decide +kernel) (by decide +kernel)
    (by first | exact .inl (by decide +kernel) | exact .inr (by decide +kernel)) (by rw [isSubtype_type]; kernel_rfl)
theorem entry_next : entryFor table "set_iterator.__next__" = some Builtin.«set_iterator.__next__» := entryFor_of_tree (by kernel_rfl)
theorem args_next (a : Value) : argsOk "set_iterator.__next__" ⟨[a], []⟩ := by unfold argsOk; kernel_rfl
theorem args_set_iter (a : Value) : argsOk "set.__iter__" ⟨[a], []⟩ := by unfold argsOk; kernel_rfl
theorem entry_set_iter : entryFor table "set.__iter__" = some Builtin.«frozenset.__iter__» :=
  entryFor_alias (id' := "frozenset.__iter__") (by kernel_rfl) (by first | rfl | decide +kernel | (unfold String.splitOn; simp +decide [String.splitOnAux])) (by decide +kernel) (by kernel_rfl)
end SF
end Mine
end
section
open PySem PySem.Calls PySem.W
namespace Mine
variable [iO : Old]
noncomputable abbrev sit (D : Addr) (ep slot i : Nat) : Obj := { cls := .type "set_iterator", data := .fields #[rawInt slot, rawInt i, .ref D, rawInt 1, rawInt ep] }
section
variable {prog : Program} {w : World} {A : Around} {E : Value → Shared → Prop} {s : Shared}
theorem set_iter1 {D : Addr} {ep : Nat} {b : Bool} {Q : Value → Shared → Prop} (hD : s.heap.get? D = some { cls := .type "set", data := .set #[(1, .bool true)] ep (t1 b) })
    (hQ : Q (.ref s.heap.objs.size) { s with heap := s.heap.push (sit D ep 0 0) }) : wpAny (model prog w) A (pyIter (.ref D)) Q E s := by
  have hT : s.TypeIs (.ref D) "set" := ⟨_, hD, rfl⟩
  have hst : ∀ {A : Around} {E : Value → Shared → Prop} {Q : (Array (Int × Value) × Nat × SetTable) → Shared → Prop}, Q (#[(1, .bool true)], ep, t1 b) s → wpAny (model prog w) A (setState D) Q E s :=
    fun q => wpAny_setState_of hD rfl (by cases b <;> decide +kernel) q
  refine wpAny_pyIter_slot hT F.slot_set_iter (wpAny_call_entry F.slot_set_iter hT SF.entry_set_iter ?_ (F.args_set_iter_1 _))
  unfold Builtin.«frozenset.__iter__»
  refine wpAny_bind (m := Builtin.Frozenset.slot0 "__iter__" _) (wpAny_pure ?_)
  unfold Builtin.Frozenset.sizeOf setEntries
  refine wpAny_bind (wpAny_bind (wpAny_bind (hst (wpAny_pure (wpAny_pure ?_)))))
  unfold setDrawn
  refine wpAny_bind (wpAny_bind (hst ?_))
  dsimp only
  unfold setsByText
  refine wpAny_bind (wpAny_bind (wpAny_askSetting (wpAny_pure ?_)))
  refine wpAny_pure ?_
  have key : ∀ (v : Bool), (!v && (!(t1 b).plain && decide ((#[((1 : Int), Value.bool true)] : Array (Int × Value)).size > 1))) = false := by intro v; cases v <;> cases b <;> decide
  rw [if_neg (fun z => by
    have z' : (!({ program := (model prog w).prog, params := (model prog w).w.params } : Setting).params.followText "set-order" && (!(t1 b).plain && decide ((#[((1 : Int), Value.bool true)] : Array (Int × Value)).size > 1))) = true := z
    rw [key] at z'; injection z')]
  refine wpAny_bind (wpAny_pure ?_)
  unfold setEpoch
  refine wpAny_bind (wpAny_bind (hst (wpAny_pure ?_)))
  refine wpAny_bind (wpAny_newObj_type ?_ (by size_fits))
  exact wpAny_pure ⟨_, rfl, "set_iterator", _, ⟨_, Heap.get?_push_size _ rfl, rfl⟩, SF.slot_next.lookup, hQ⟩
theorem set_next1 {D I : Addr} {ep : Nat} {b : Bool} {Q : Option Value → Shared → Prop} (hD : s.heap.get? D = some { cls := .type "set", data := .set #[(1, .bool true)] ep (t1 b) }) (hI : s.heap.get? I = some (sit D ep 0 0)) (hID : D ≠ I)
    (hb : b = !w.params.followText "set-order") (hQ : ∀ h' sl, h'.get? I = some (sit D ep sl 1) → Heap.SameBut I s.heap h' → (sl = 2 ∨ b = false) → Q (some (.bool true)) { s with heap := h' }) : wpAny (model prog w) A (pyNext (.ref I)) Q E s := by
  have hT : s.TypeIs (.ref I) "set_iterator" := ⟨_, hI, rfl⟩
  have hst : ∀ {A : Around} {E : Value → Shared → Prop} {Q : (Array (Int × Value) × Nat × SetTable) → Shared → Prop}, Q (#[(1, .bool true)], ep, t1 b) s → wpAny (model prog w) A (setState D) Q E s :=
    fun q => wpAny_setState_of hD rfl (by cases b <;> decide +kernel) q
  unfold pyNext
  refine wpAny_bind (wpAny_attempt (wpAny_callSpecial?_slot (name := Str.ofString "__next__") hT SF.slot_next (wpAny_call_entry SF.slot_next hT SF.entry_next ?_ (SF.args_next _))))
  unfold Builtin.«set_iterator.__next__»
  refine wpAny_bind (m := slotArgs "__next__" 0 _) (wpAny_pure ?_)
  dsimp only
  refine wpAny_bind ?_
  unfold fieldsOf
  refine wpAny_bind (wpAny_load hI (wpAny_pure ?_))
  dsimp only
  show wpAny _ _ (setEntries D >>= _) _ _ _
  unfold setEntries
  refine wpAny_bind (wpAny_bind (hst (wpAny_pure ?_)))
  rw [if_neg (show ¬ ((((#[((1 : Int), Value.bool true)] : Array (Int × Value)).size : Nat) : Int) != 1) = true from by decide)]
  show wpAny _ _ (setNext D 0 0 (ep : Int).toNat >>= _) _ _ _
  have nx : ∃ sl, (sl = 2 ∨ b = false) ∧ wpAny (model prog w) A.in1 (setNext D 0 0 (ep : Int).toNat) (fun r s' => r = some (.bool true, sl) ∧ s' = s) (fun _ _ => False) s := by
    unfold setNext setsByText
    rw [Int.toNat_natCast]
    cases hv : w.params.followText "set-order" with
    | true =>
      refine ⟨0, .inr (by rw [hb, hv]; rfl), ?_⟩
      refine wpAny_bind (hst ?_)
      dsimp only
      refine wpAny_bind (wpAny_bind (wpAny_askSetting (wpAny_pure ?_)))
      rw [if_pos (show ({ program := (model prog w).prog, params := (model prog w).w.params } : Setting).params.followText "set-order" = true from hv)]
      rw [if_neg (by simp)]
      refine wpAny_bind ?_
      unfold setWalk setsByText
      refine wpAny_bind (hst ?_)
      dsimp only
      refine wpAny_bind (wpAny_bind (wpAny_askSetting (wpAny_pure ?_)))
      rw [if_pos (show ({ program := (model prog w).prog, params := (model prog w).w.params } : Setting).params.followText "set-order" = true from hv)]
      refine wpAny_bind (wpAny_askSetting (wpAny_pure (wpAny_pure ⟨?_, rfl⟩)))
      simp [pickOrder, pickOrder.go, Nat.mod_one]
    | false =>
      refine ⟨2, .inl rfl, ?_⟩
      refine wpAny_bind (hst ?_)
      dsimp only
      refine wpAny_bind (wpAny_bind (wpAny_askSetting (wpAny_pure ?_)))
      rw [if_neg (show ¬ (({ program := (model prog w).prog, params := (model prog w).w.params } : Setting).params.followText "set-order" = true) from fun z => by have z' : w.params.followText "set-order" = true := z; rw [hv] at z'; injection z')]
      have hbt : b = true := by rw [hb, hv]; rfl
      subst hbt
      exact wpAny_of_eq (a := some (Value.bool true, 2)) (by first | rfl | kernel_rfl) ⟨rfl, rfl⟩
  obtain ⟨sl, h1, h2⟩ := nx
  refine wpAny_bind (wpAny_mono h2 (fun r s' q => ?_) fun _ _ x => x.elim)
  obtain ⟨rfl, rfl⟩ := q
  dsimp only
  refine wpAny_bind (wpAny_setField_rec hI (by simp) fun h₁ hI₁ hs₁ => ?_)
  refine wpAny_bind (wpAny_setField_rec (s := { s' with heap := h₁ }) hI₁ (by simp) fun h₂ hI₂ hs₂ => ?_)
  exact wpAny_pure ⟨_, rfl, wpAny_pure (hQ h₂ sl hI₂ (hs₁.trans hs₂) h1)⟩
end
end Mine
end
section
open PySem PySem.Calls PySem.W
namespace Mine
variable [iO : Old]
section
variable {prog : Program} {w : World} {A : Around} {E : Value → Shared → Prop} {s : Shared}
theorem set_next2 {D I : Addr} {ep sl : Nat} {b : Bool} {Q : Option Value → Shared → Prop} (hh : A.handled = none) (hD : s.heap.get? D = some { cls := .type "set", data := .set #[(1, .bool true)] ep (t1 b) }) (hI : s.heap.get? I = some (sit D ep sl 1)) (hID : D ≠ I)
    (hb : b = !w.params.followText "set-order") (hsl : sl = 2 ∨ b = false) (hQ : ∀ h', Heap.ExtBut I s.heap h' → Q none { s with heap := h' }) : wpAny (model prog w) A (pyNext (.ref I)) Q E s := by
  have hT : s.TypeIs (.ref I) "set_iterator" := ⟨_, hI, rfl⟩
  have hst : ∀ {A : Around} {E : Value → Shared → Prop} {Q : (Array (Int × Value) × Nat × SetTable) → Shared → Prop}, Q (#[(1, .bool true)], ep, t1 b) s → wpAny (model prog w) A (setState D) Q E s :=
    fun q => wpAny_setState_of hD rfl (by cases b <;> decide +kernel) q
  unfold pyNext
  refine wpAny_bind (wpAny_attempt (wpAny_callSpecial?_slot (name := Str.ofString "__next__") hT SF.slot_next (wpAny_call_entry SF.slot_next hT SF.entry_next ?_ (SF.args_next _))))
  unfold Builtin.«set_iterator.__next__»
  refine wpAny_bind (m := slotArgs "__next__" 0 _) (wpAny_pure ?_)
  dsimp only
  refine wpAny_bind ?_
  unfold fieldsOf
  refine wpAny_bind (wpAny_load hI (wpAny_pure ?_))
  dsimp only
  show wpAny _ _ (setEntries D >>= _) _ _ _
  unfold setEntries
  refine wpAny_bind (wpAny_bind (hst (wpAny_pure ?_)))
  rw [if_neg (show ¬ ((((#[((1 : Int), Value.bool true)] : Array (Int × Value)).size : Nat) : Int) != 1) = true from by decide)]
  show wpAny _ _ (setNext D (sl : Int).toNat 1 (ep : Int).toNat >>= _) _ _ _
  have nx : wpAny (model prog w) A.in1 (setNext D (sl : Int).toNat 1 (ep : Int).toNat) (fun r s' => r = none ∧ s' = s) (fun _ _ => False) s := by
    unfold setNext setsByText
    rw [Int.toNat_natCast, Int.toNat_natCast]
    cases hv : w.params.followText "set-order" with
    | true =>
      refine wpAny_bind (hst ?_)
      dsimp only
      refine wpAny_bind (wpAny_bind (wpAny_askSetting (wpAny_pure ?_)))
      rw [if_pos (show ({ program := (model prog w).prog, params := (model prog w).w.params } : Setting).params.followText "set-order" = true from hv)]
      rw [if_neg (by simp)]
      refine wpAny_bind ?_
      unfold setWalk setsByText
      refine wpAny_bind (hst ?_)
      dsimp only
      refine wpAny_bind (wpAny_bind (wpAny_askSetting (wpAny_pure ?_)))
      rw [if_pos (show ({ program := (model prog w).prog, params := (model prog w).w.params } : Setting).params.followText "set-order" = true from hv)]
      refine wpAny_bind (wpAny_askSetting (wpAny_pure (wpAny_pure ⟨?_, rfl⟩)))
      simp [pickOrder, pickOrder.go, Nat.mod_one]
    | false =>
      have hbt : b = true := by rw [hb, hv]; rfl
      subst hbt
      obtain rfl : sl = 2 := hsl.resolve_right (by decide)
      refine wpAny_bind (hst ?_)
      dsimp only
      refine wpAny_bind (wpAny_bind (wpAny_askSetting (wpAny_pure ?_)))
      rw [if_neg (show ¬ (({ program := (model prog w).prog, params := (model prog w).w.params } : Setting).params.followText "set-order" = true) from fun z => by have z' : w.params.followText "set-order" = true := z; rw [hv] at z'; injection z')]
      exact wpAny_of_eq (a := (none : Option (Value × Nat))) (by first | rfl | kernel_rfl) ⟨rfl, rfl⟩
  refine wpAny_bind (wpAny_mono nx (fun r s' q => ?_) fun _ _ x => x.elim)
  obtain ⟨rfl, rfl⟩ := q
  dsimp only
  refine wpAny_bind (wpAny_setField_rec hI (by simp) fun h₁ hI₁ hs₁ => ?_)
  show wpAny _ _ (newExc (.type "StopIteration") [] >>= _) _ _ _
  refine wpAny_bind ?_
  simp only [newExc, newTuple]
  refine wpAny_bind (wpAny_newObj_type ?_ (by size_fits))
  refine wpAny_bind (m := firstArgMember _ _) (wpAny_of_eq (a := Value.none) (by first | rfl | (simp only [firstArgMember]; rfl)) ?_)
  refine wpAny_newObj_type ?_ (by size_fits)
  delta raiseNew; dsimp only
  refine wpAny_bind (wpAny_handled ?_)
  rw [show A.in1.handled = none from hh]
  refine wpAny_bind (wpAny_pure (wpAny_throw ?_))
  refine wpAny_bind (wpAny_isInstance (T := "StopIteration") (b := true) ⟨_, Heap.get?_push_size _ rfl, rfl⟩ isSubtype_stop ?_)
  exact wpAny_pure (hQ _ ((hs₁.extBut.push _).push _))
end
end Mine
end
section
open PySem PySem.Calls PySem.W
namespace Mine
variable [iO : Old]
section
variable {c : Cx} {k : Nat} {A : Around} {R : Result → Shared → Prop} {s : Shared}
theorem compTurn_set (elt target iter : PySem.Expr) (ifs : List PySem.Expr) (scope : Scope) (pos : Pos) (it acc : Value) (env : Env) :
    compTurn (.SetComp elt [⟨target, iter, ifs, 0⟩] scope pos) 0 it acc env = (do
      standAt iter.pos
      match ← pyNext it with
      | none => pure (.done .next)
      | some v =>
        letOwnedTupleGo target it v
        PySem.assign target env v
        let mut ok := true
        for c in ifs do
          if ok then ok ← isTrue c env (eval c env)
        if ok then
          (do let v ← eval elt env; standAt elt.pos; let _ ← call (.builtin "set.add") [acc, v])
        again (.compLoop (.SetComp elt [⟨target, iter, ifs, 0⟩] scope pos) 0 it acc env)) := by rfl
theorem compLoopSet {elt target iter : PySem.Expr} {scope : Scope} {pos : Pos} {it acc : Value} {env : Env} (I : Nat → Shared → Prop)
    (turn : ∀ n s, I n s → wpAny (model c.prog c.w) A (pyNext it) (fun r s₁ => match r with
      | none => R (.ok .next) s₁
      | some v => wpAny (model c.prog c.w) A (letOwnedTupleGo target it v) (fun _ s₁' => wpAny (model c.prog c.w) A (PySem.assign target env v) (fun _ s₂ =>
            wpAny (model c.prog c.w) A (eval elt env) (fun x s₄ =>
              wpAny (model c.prog c.w) A (call (.builtin "set.add") [acc, x]) (fun _ s₅ => ∃ m, m < n ∧ I m s₅) (fun _ _ => False) s₄) (fun _ _ => False) s₂) (fun _ _ => False) s₁') (fun _ _ => False) s₁) (fun _ _ => False) s)
    (n : Nat) (h : I n s) :
    codeAny (model c.prog c.w) A (.compLoop (.SetComp elt [⟨target, iter, [], 0⟩] scope pos) 0 it acc env) R s := by
  refine codeAny_loop rfl I (fun n s hI => ?_) n h
  show wpAny _ A ((compTurn (.SetComp elt [⟨target, iter, [], 0⟩] scope pos) 0 it acc env).onRaise (fun x => do noteFrame x env; theTreesLotGoes x)) _ _ s
  refine wpAny_noted ?_
  rw [compTurn_set]
  refine wpAny_bind (wpAny_standAt (wpAny_bind (wpAny_mono (turn n s hI) (fun r s₁ h₁ => ?_) fun _ _ h' => h'.elim)))
  cases r with
  | none => exact wpAny_pure h₁
  | some v =>
    refine wpAny_bind (wpAny_mono h₁ (fun _ s₁' h₁' => ?_) fun _ _ h' => h'.elim)
    refine wpAny_bind (wpAny_mono h₁' (fun _ s₂ h₂ => ?_) fun _ _ h' => h'.elim)
    refine wpAny_bind (wpAny_pure ?_)
    exact wpAny_bind (wpAny_bind (wpAny_mono h₂ (fun x s₄ h₄ => wpAny_bind (wpAny_standAt (wpAny_bind (wpAny_mono h₄ (fun _ s₅ h₅ => wpAny_pure (wpAny_pure ⟨rfl, h₅⟩)) fun _ _ h' => h'.elim)))) fun _ _ h' => h'.elim))
theorem compStart_set {elt target iter ifs rest scope pos it acc env}
    (h0 : codeAny (model c.prog c.w) A (.compLoop (.SetComp elt (⟨target, iter, ifs, 0⟩ :: rest) scope pos) 0 it acc env) R s)
    (h : wpAny (model c.prog c.w) A (pyIter it) (fun it' s' => codeAny (model c.prog c.w) A (.compLoop (.SetComp elt (⟨target, iter, ifs, 0⟩ :: rest) scope pos) 0 it' acc env) R s')
      (notedBy (model c.prog c.w) A env fun x s' => R (.error x) s') s) :
    codeAny (model c.prog c.w) A (.compStart (.SetComp elt (⟨target, iter, ifs, 0⟩ :: rest) scope pos) 0 it acc env) R s := by
  refine codeAny_of_tree ?_
  show wpAny _ _ ((compStart (.SetComp elt (⟨target, iter, ifs, 0⟩ :: rest) scope pos) 0 it acc env).onRaise (fun x => do noteFrame x env; standAt theWindowsPlace)) _ _ s
  refine wpAny_notedAt ?_
  unfold compStart
  show wpAny _ _ (ask >>= _) _ _ s
  refine wpAny_bind (wpAny_askSetting (wpAny_ite ?_))
  split
  · first
      | exact wpAny_bind (wpAny_pure (wpAny_pure (And.intro rfl h0)))
      | exact wpAny_pure (And.intro rfl h0)
  · first
      | exact wpAny_bind (wpAny_rule (wpAny_bind (wpAny_standAt (wpAny_bind (wpAny_mono h (fun it' s' h' => wpAny_pure (And.intro rfl h')) fun _ _ x => x)))))
      | (refine wpAny_bind (wpAny_rule ?_); show wpAny _ _ (standAt iter.pos >>= _) _ _ s; exact wpAny_bind (wpAny_standAt (wpAny_bind (wpAny_mono h (fun it' s' h' => wpAny_pure (And.intro rfl h')) fun _ _ x => x))))
theorem compLoopTrue {s₀ : Shared} {F₀ : Fz} {W wr : List Addr} {D : Addr} {b : Bool} {cenv : Env} {names : List (Str × NameKind)} {σ₀ : Loc} {tgt elt iter : PySem.Expr} {scope : Scope} {pos : Pos} {it : Value} {items : List Ent} {fp G : Fz} {At : Nat → Shared → Prop} {RR : Result → Shared → Prop}
    (R : Room k A) (T : EnvT cenv names W) (g : GdS c.K A.frames s₀ s) (hst : ∀ x ∈ tgtNames tgt, names.lookup x = some .local ∨ names.lookup x = some .cell) (hσ : ∀ p ∈ σ₀, σ₀.lookup p.1 = some p.2 ∧ p.1 ∉ tgtNames tgt)
    (h : ∀ e ∈ items, ∃ b, Binds tgt e b ∧ Ev c k cenv (b ++ σ₀) elt (.d (.bool true))) (hne : items ≠ [])
    (hit : Iter c A G fp it wr items At) (h0 : At 0 s) (I : InFn s₀ F₀ W (wr ++ [D]) cenv σ₀ s)
    (hW : ∀ a ∈ wr, a ∉ W) (hc : ∀ x c, cenv.cells.lookup x = some c → c ∉ wr) (hD : D ∉ W) (hcD : ∀ x c, cenv.cells.lookup x = some c → c ≠ D)
    (hG : ∀ a, a ≠ tab0 → G a → Ff F₀ s₀.heap (W ++ (wr ++ [D])) a) (hfp : ∀ b, fp b → b ≠ tab0 → b ∉ W ∧ b ≠ D) (hDwr : D ∉ wr) (hl : s.heap.get? D = some (set0 b))
    (hRR : ∀ s' h' tk, InFn s₀ F₀ W (wr ++ [D]) cenv σ₀ s' → KeepBut wr s'.heap h' → (Tab s'.heap → Tab h') → s'.toks ≤ tk → IsSet1 h' D b → RR (.ok .next) { s' with heap := h', toks := tk }) :
    codeAny (model c.prog c.w) A (.compLoop (.SetComp elt [⟨tgt, iter, [], 0⟩] scope pos) 0 it (.ref D) cenv) RR s := by
  have hXw : ∀ a ∈ wr, a ∈ wr ++ [D] := fun a m => List.mem_append_left _ m
  have hXD : ∀ a ∈ [D], a ∈ wr ++ [D] := fun a m => List.mem_append_right _ m
  have ntD : D ≠ tab0 := fun z => I.nmu (z ▸ List.mem_append_right _ (List.mem_append_right _ (.head _)))
  have st : ∀ {i : Nat} {h h' : Heap}, (∀ o, NFr o → h.get? D = some o → h'.get? D = some o) → (if i = 0 then h.get? D = some (set0 b) else IsSet1 h D b) → (if i = 0 then h'.get? D = some (set0 b) else IsSet1 h' D b) := fun {i h h'} e x => by
    by_cases q : i = 0
    · rw [if_pos q] at x ⊢; exact e _ (nfr_of (T := "set") rfl) x
    · rw [if_neg q] at x ⊢; exact (by obtain ⟨ep, z⟩ := x; exact ⟨ep, e _ (nfr_of (T := "set") rfl) z⟩)
  refine compLoopSet (fun n s' => ∃ i, n = items.length - i + 1 ∧ i ≤ items.length ∧ At i s' ∧ InFn s₀ F₀ W (wr ++ [D]) cenv σ₀ s' ∧ (if i = 0 then s'.heap.get? D = some (set0 b) else IsSet1 s'.heap D b) ∧ FK s s') ?_ (items.length + 1) ⟨0, rfl, Nat.zero_le _, h0, I, by rw [if_pos rfl]; exact hl, FK.refl s⟩
  rintro n s' ⟨i, rfl, hi, ha, I', hs', fk⟩
  cases q : items[i]? with
  | none =>
    have hi' : i = items.length := Nat.le_antisymm hi (List.getElem?_eq_none_iff.mp q)
    subst hi'
    have key : wpAny (model c.prog c.w) A (pyNext it) (fun r s₂ => ∃ h' tk, r = none ∧ s₂ = { s' with heap := h', toks := tk } ∧ KeepBut wr s'.heap h') (fun _ _ => False) s' :=
      hit.done s' _ _ ha fun h' tk q1 => ⟨h', tk, rfl, rfl, q1⟩
    refine wpAny_mono (wpAny_toks_of (n := s'.toks) (Nat.le_refl _) key) (fun r s₂ q => ?_) fun _ _ x => x.2.elim
    obtain ⟨t, h', tk, rfl, rfl, q1⟩ := q
    rw [if_neg (by have := List.length_pos_iff.mpr hne; lia)] at hs'
    obtain ⟨ep, z⟩ := hs'
    exact hRR _ h' tk I' q1 (hit.tab ha q1) t ⟨ep, q1 D _ hDwr z⟩
  | some e =>
    have hlt : i < items.length := (List.getElem?_eq_some_iff.mp q).1
    refine turnC hXw hW hc hG hit q ha I' fun v s₂ kb₂ ha₂ I₂ hv => ?_
    have hs₂ := st (i := i) (fun o c e => kb₂.keep D o hDwr ntD c e) hs'
    obtain ⟨bd, B, hx⟩ := h e (List.mem_of_getElem? q)
    refine goTo B hit ha₂ hv (assignTo B R T.g (fun p hp => T.store (hst p.1 (by rw [← B.names]; exact List.mem_map_of_mem (f := (·.1)) hp))) I₂ hv fun s₃ I₃ kb₃ => ?_)
    refine hx.here R T.g (g.fk ((fk.kb kb₂).kb kb₃)) I₃ fun u s₄ I₄ hu k₄ t₄ => ?_
    obtain rfl := Holds.isBool hu
    have kb4 : KB W s₂ s₄ := kb₃.trans (KB.ks k₄)
    have hs₄ := st (i := i) (fun o c e => kb4.keep D o hD ntD c e) hs₂
    have ha₄ := hit.frame _ _ _ ha₂ fun b o f n c e => kb4.keep b o (hfp b f n).1 n c e
    have I₅ : InFn s₀ F₀ W (wr ++ [D]) cenv σ₀ s₄ := I₄.sub fun y ey hy => by
      rw [List.lookup_append]
      have : bd.lookup y = none := by
        cases e : bd.lookup y with
        | none => rfl
        | some z => exact absurd (by rw [← B.names]; exact List.mem_map_of_mem (f := (·.1)) (mem_of_lookup e)) (hσ (y, ey) (mem_of_lookup hy)).2
      rw [this]
      exact hy
    by_cases q0 : i = 0
    · rw [if_pos q0] at hs₄
      refine set_add_first hs₄ fun h' hS hs => ?_
      refine ⟨items.length - (i + 1) + 1, by lia, i + 1, rfl, hlt, hit.frame _ _ _ ha₄ fun b o f n _ e => hs.extBut b o (hfp b f n).2 e, ?_, by rw [if_neg (by lia)]; exact hS, ((fk.kb kb₂).kb kb4).trans fun L _ f => f.but hs₄ (fun _ _ z => nomatch z) hs.extBut⟩
      exact I₅.turn (wr := [D]) (tk := s₄.toks + 1) (fun b o n e => hs.extBut b o (fun z => n (z ▸ .head _)) e) (Nat.le_succ _) hXD (fun a m => by rw [List.mem_singleton.mp m]; exact hD) (fun x c h m => hcD x c h (List.mem_singleton.mp m)) (fun a m => by rw [List.mem_singleton.mp m]; exact (by obtain ⟨_, z⟩ := hS; exact ⟨_, z⟩)) (fun T => T.one hs₄ (.inl fun vs z => nomatch z) hs.extBut)
    · rw [if_neg q0] at hs₄
      refine set_add_again hs₄ ?_
      refine ⟨items.length - (i + 1) + 1, by lia, i + 1, rfl, hlt, hit.frame _ _ _ ha₄ fun b o f n _ e => e, ?_, by rw [if_neg (by lia)]; exact hs₄, fun L n f => kb4.fr L n ((fk.kb kb₂) L n f)⟩
      exact I₅.step (Ks.tok) (Nat.le_succ _)
end
end Mine
end
section
open PySem PySem.Calls PySem.W
namespace Mine
variable [iO : Old]
section
variable {c : Cx} {k : Nat}
theorem compCoreSet {A : Around} {F : Fz} {s : Shared} {env : Env} {names : List (Str × NameKind)} {Mu : List Addr} {σ : Loc} {tgt elt iter : PySem.Expr} {scope : Scope} {pos : Pos} {items : List Ent} {E : Value → Shared → Prop}
    {RR : Value → Addr → Result → Shared → Prop}
    (T : EnvT env names Mu) (ok : CompOk scope names) (hs : SrcX c k env σ iter items) (hst : (tgtNames tgt).all (fun x => scope.names.lookup x == some .local || scope.names.lookup x == some .cell) = true)
    (h : ∀ cenv W, EnvT cenv scope.names W → ∀ e ∈ items, ∃ b, Binds tgt e b ∧ Ev c k cenv (b ++ capt σ scope.names) elt (.d (.bool true))) (hne : items ≠ [])
    (R : Room k A) (g : Gd c.K A.frames s) (L : Lay env σ F s.heap)
    (hRR : ∀ D C h' tk, Ks s { s with heap := h', toks := tk } → s.toks ≤ tk → s.heap.get? C = none → C ≠ tab0 → (∃ m, h'.Ns C m) → D ≠ C → (s.heap.get? D = none ∧ D ≠ tab0) → IsSet1 h' D (!c.w.params.followText "set-order") → RR (.ref D) C (.ok .next) { s with heap := h', toks := tk }) :
    wpAny (model c.prog c.w) A (eval iter env) (fun x s₁ => wpAny (model c.prog c.w) A (pyIter x) (fun it s₂ => wpAny (model c.prog c.w) A (newSet (.type "set")) (fun acc s₃ =>
      wpAny (model c.prog c.w) A (newFunctionEnv scope env.globals (clo env scope.names []) [] env.qual none .none (some env)) (fun cenv s₄ =>
        codeAny (model c.prog c.w) A (.compStart (.SetComp elt [⟨tgt, iter, [], 0⟩] scope pos) 0 it acc { cenv with scope := relabel scope env }) (RR acc cenv.locals) s₄) E s₃) E s₂) E s₁) E s := by
  have hst' : ∀ x ∈ tgtNames tgt, scope.names.lookup x = some .local ∨ scope.names.lookup x = some .cell := fun x hx => by
    have := List.all_eq_true.mp hst x hx
    simpa using this
  refine wpAny_mono (wpAny_toks_of (n := s.toks) (Nat.le_refl _) (hs.run A F s R T.g g L)) (fun xv s₁ q => ?_) fun _ _ x => x.2.elim
  refine wpAny_mono (wpAny_toks_of (n := s₁.toks) (Nat.le_refl _) q.2) (fun it s₂ q' => ?_) fun _ _ x => x.2.elim
  obtain ⟨t₂, k₂, wr, fp, At, hwr, hit, h0, hfp⟩ := q'
  have t₂' := Nat.le_trans q.1 t₂
  have g₂ := g.ks k₂ t₂'
  unfold newSet setsByText
  refine wpAny_bind (wpAny_bind (wpAny_askSetting (wpAny_pure ?_)))
  refine wpAny_newObj_type ?_ (by size_fits)
  refine wpAny_compEnv ?_
  generalize hB : (!c.w.params.followText "set-order") = B at hRR
  generalize hH2' : s₂.heap.push { cls := .type "set", data := .set #[] 0 (SetTable.fresh 0 0 (!(model c.prog c.w).w.params.followText "set-order")) } = H2
  have hH2 : s₂.heap.push (set0 B) = H2 := by rw [← hH2', ← hB]; rfl
  have hC : H2.objs.size = s₂.heap.objs.size + 1 := by rw [← hH2, Heap.size_push]
  dsimp only
  generalize hD : s₂.heap.objs.size = D at hC
  generalize hCC : H2.objs.size = C at hC
  generalize hH4 : pushCells (H2.push { cls := .type "dict", data := .dict #[] }) scope.names = H4
  have cok := cellsFrom_ok scope.names (H2.push { cls := .type "dict", data := .dict #[] }) (C + 1) [] ⟨fun _ _ hm => (nomatch hm), List.Pairwise.nil⟩ (by rw [Heap.size_push, hCC]; exact Nat.le_refl _)
  rw [hH4, Heap.size_push, hCC] at cok
  have keep : ∀ b o, s₂.heap.get? b = some o → H4.get? b = some o := fun b o e => by
    rw [← hH4]; exact pushCells_keeps _ _ b o (Heap.get?_push_of_some _ (by rw [← hH2]; exact Heap.get?_push_of_some _ e))
  have nsC : H4.Ns C fun _ => none := by
    rw [← hH4, ← hCC]; exact (Heap.Ns.new H2 (.type "dict")).keeps (pushCells_keeps _ _)
  have lD : H4.get? D = some (set0 B) := by
    rw [← hH4]; exact pushCells_keeps _ _ D _ (Heap.get?_push_of_some _ (by rw [← hH2, ← hD]; exact Heap.get?_push_size _ rfl))
  have k₄ : Ks s { s₂ with heap := H4 } := k₂.trans (Ks.mk (tk := s₂.toks) (Kp.of keep))
  have fresh : ∀ {a}, D ≤ a → s.heap.get? a = none ∧ a ≠ tab0 := fun ha => beyond k₂ g₂ (by rw [hD]; exact ha)
  have dead : ∀ {a}, D ≤ a → s₂.heap.get? a = none := fun {a} ha => by
    cases e : s₂.heap.get? a with
    | none => rfl
    | some o => exact absurd (Heap.lt_size e) (by rw [hD]; exact Nat.not_lt.mpr ha)
  have hCD : D ≤ C := by rw [hC]; exact Nat.le_succ _
  have leW : ∀ a ∈ compMu scope C, C ≤ a := fun a m => by
    rcases List.mem_cons.mp m with rfl | m
    · exact Nat.le_refl _
    · obtain ⟨p, hp, rfl⟩ := List.mem_map.mp m
      exact Nat.le_of_lt (cok.empty p.1 p.2 hp).2
  have aliveWr : ∀ a ∈ wr, ∃ o, s₂.heap.get? a = some o := hit.live _ _ h0
  have wrW : ∀ a ∈ wr, a ∉ compMu scope C := fun a m mw => by
    obtain ⟨o, e⟩ := aliveWr a m
    rw [dead (Nat.le_trans hCD (leW a mw))] at e; injection e
  have wrD : D ∉ wr := fun m => by
    obtain ⟨o, e⟩ := aliveWr D m
    rw [dead (Nat.le_refl _)] at e; injection e
  have DW : D ∉ compMu scope C := fun m => by have := leW D m; rw [hC] at this; exact absurd this (Nat.not_le.mpr (Nat.lt_succ_self _))
  have Tc := compT (L := C) ok T
  have cellOwn : ∀ {x cc}, (compE scope env C).cells.lookup x = some cc → (H4.IsCell cc none ∧ cc ∈ compMu scope C) ∨ ((x, NameKind.free) ∈ scope.names ∧ env.cells.lookup x = some cc) := fun {x cc} h => by
    rcases compCell ok T h with ⟨_, z⟩ | z
    · exact .inl ⟨(cok.empty x cc z).1, .tail _ (List.mem_map_of_mem (f := (·.2)) z)⟩
    · exact .inr z
  have freshMu : ∀ a ∈ compMu scope C ++ (wr ++ [D]), s.heap.get? a = none ∧ a ≠ tab0 := fun a m => by
    rcases List.mem_append.mp m with m | m
    · exact fresh (Nat.le_trans hCD (leW a m))
    · rcases List.mem_append.mp m with m | m
      · exact hwr a m
      · rw [List.mem_singleton.mp m]; exact fresh (Nat.le_refl _)
  have cellOld : ∀ {x cc}, env.cells.lookup x = some cc → (∃ o, s.heap.get? cc = some o) := fun h => by
    obtain ⟨⟨v, o, e, _⟩, _⟩ := L.cell _ _ h; exact ⟨o, e⟩
  have cellWr : ∀ x cc, (compE scope env C).cells.lookup x = some cc → cc ∉ wr := fun x cc h m => by
    rcases cellOwn h with ⟨_, z⟩ | ⟨_, z⟩
    · exact wrW cc m z
    · obtain ⟨o, e⟩ := cellOld z
      rw [(hwr cc m).1] at e; injection e
  have cellD : ∀ x cc, (compE scope env C).cells.lookup x = some cc → cc ≠ D := fun x cc h z => by
    rcases cellOwn h with ⟨_, y⟩ | ⟨_, y⟩
    · exact DW (z ▸ y)
    · obtain ⟨o, e⟩ := cellOld y
      rw [z, (fresh (Nat.le_refl _)).1] at e; injection e
  have I : InFn s (alive F s.heap) (compMu scope C) (wr ++ [D]) (compE scope env C) (capt σ scope.names) { s₂ with heap := H4, toks := s₂.toks } := compI T ok L hCC hH4 k₄ t₂' nsC freshMu fun a m => by
    rcases List.mem_append.mp m with m | m
    · obtain ⟨o, e⟩ := aliveWr a m; exact ⟨o, keep _ _ e⟩
    · rw [List.mem_singleton.mp m]; exact ⟨_, lD⟩
  have h04 : At 0 { s₂ with heap := H4, toks := s₂.toks } := hit.frame _ _ _ h0 fun b o _ _ _ e => keep b o e
  have core : codeAny (model c.prog c.w) A (.compLoop (.SetComp elt [⟨tgt, iter, [], 0⟩] scope pos) 0 it (.ref D) (compE scope env C)) (RR (.ref D) C) { s₂ with heap := H4, toks := s₂.toks } := by
    refine compLoopTrue (k := k) R Tc ⟨g.toGdH, g.tok, g.fr.kp k₄.kp⟩ hst' (fun p hp => ?_) (h _ _ Tc) hne hit h04 I wrW cellWr DW cellD (fun a n f => ?_) (fun b f n => ?_) wrD lD fun s' h' tk I' hk tb t hset => ?_
    · obtain ⟨x1, x2⟩ := capt_mem hp
      refine ⟨capt_get x1 x2, fun m => ?_⟩
      have hfl : scope.names.lookup p.1 = some .free := kind_lookup ok.nd x2
      rcases hst' _ m with z | z <;> (rw [hfl] at z; cases z)
    · obtain ⟨f1, f2, o, e⟩ := f
      have notMu : a ∉ compMu scope C ++ (wr ++ [D]) := fun m => by
        rcases List.mem_append.mp m with m | m
        · rw [dead (Nat.le_trans hCD (leW a m))] at e; injection e
        · rcases List.mem_append.mp m with m | m
          · exact f2 m
          · rw [List.mem_singleton.mp m, dead (Nat.le_refl _)] at e; injection e
      cases es : s.heap.get? a with
      | none => exact .inr ⟨es, notMu⟩
      | some o' =>
        rcases f1 with f1 | f1
        · exact .inl ⟨f1, o', es⟩
        · rw [es] at f1; injection f1
    · obtain ⟨⟨o, e⟩, _⟩ := hfp b f n
      refine ⟨fun m => ?_, fun z => ?_⟩
      · rw [dead (Nat.le_trans hCD (leW b m))] at e; injection e
      · rw [z, dead (Nat.le_refl _)] at e; injection e
    · obtain ⟨h₁, t₁, e, kp⟩ := I'.ks
      have t' : s.toks ≤ tk := Nat.le_trans I'.tk t
      have e2 : ({ s' with heap := h', toks := tk } : Shared) = { s with heap := h', toks := tk } := by rw [e]
      rw [e2]
      have wrC : C ∉ wr := fun m => wrW C m (.head _)
      refine hRR D C h' tk (Ks.mk (I'.ks.kp.andThen (fun b o o₁ n q q₁ => hk b o₁ (fun m => ?_) q₁) (fun T => ?_))) t' (freshMu C (List.mem_append_left _ (.head _))).1 (freshMu C (List.mem_append_left _ (.head _))).2 ?_ ?_ (fresh (Nat.le_refl _)) hset
      · rw [(hwr b m).1] at q; injection q
      · exact tb (I'.ks.kp.tab T)
      · obtain ⟨m, hn, _⟩ := I'.lay.ns
        exact ⟨m, hn.at' fun o q => hk _ o wrC q⟩
      · exact fun z => by rw [← z] at hC; exact absurd hC (Nat.ne_of_lt (Nat.lt_succ_self _))
  exact compStart_set core (hit.self _ _ _ h04 core)

end
end Mine
end
section
open PySem PySem.Calls PySem.W
namespace Mine
variable [iO : Old]
section
variable {prog : Program} {w : World} {A : Around} {E : Value → Shared → Prop} {s : Shared}
theorem unpack_set1 {D : Addr} {b : Bool} {Q : List Value → Shared → Prop} (hh : A.handled = none) (hD : IsSet1 s.heap D b) (hb : b = !w.params.followText "set-order") (hQ : ∀ h', (∀ a o, s.heap.get? a = some o → h'.get? a = some o) → Q [.bool true] { s with heap := h' }) :
    wpAny (model prog w) A (unpackItems (.ref D) 1 none) Q E s := by
  obtain ⟨ep, hD⟩ := hD
  have hT : s.TypeIs (.ref D) "set" := ⟨_, hD, rfl⟩
  have hlt : D ≠ s.heap.objs.size := Nat.ne_of_lt (Heap.lt_size hD)
  unfold unpackItems
  refine wpAny_bind ?_
  unfold notIterableAtAll
  refine wpAny_bind (wpAny_specialOf hT F.slot_set_iter.lookup ?_)
  refine wpAny_pure ?_
  simp only [Bool.false_eq_true, if_false]
  refine wpAny_bind (wpAny_holding (set_iter1 hD ?_))
  refine wpAny_bind (wpAny_holding ?_)
  have hD₁ : (s.heap.push (sit D ep 0 0)).get? D = some { cls := .type "set", data := .set #[(1, .bool true)] ep (t1 b) } := Heap.get?_push_of_some _ hD
  have hI₁ : (s.heap.push (sit D ep 0 0)).get? s.heap.objs.size = some (sit D ep 0 0) := Heap.get?_push_size _ rfl
  show wpAny _ _ (pyNext (.ref s.heap.objs.size) >>= _) _ _ _
  refine wpAny_bind (set_next1 (s := { s with heap := s.heap.push (sit D ep 0 0) }) hD₁ hI₁ hlt hb fun h₂ sl hI₂ hs₂ hsl => ?_)
  refine wpAny_bind (wpAny_holding (wpAny_pure (wpAny_pure ?_)))
  rw [if_neg (by simp)]
  have hD₂ : h₂.get? D = some { cls := .type "set", data := .set #[(1, .bool true)] ep (t1 b) } := (hs₂.2 D hlt).trans hD₁
  refine wpAny_bind (wpAny_holding (set_next2 (s := { s with heap := h₂ }) hh hD₂ hI₂ hlt hb hsl fun h₃ he₃ => ?_))
  simp only [Option.isSome_none, Bool.false_eq_true, if_false]
  refine wpAny_pure (hQ h₃ fun a o e => ?_)
  have ha : a ≠ s.heap.objs.size := Nat.ne_of_lt (Heap.lt_size e)
  exact he₃ a o ha (hs₂.extBut a o ha (Heap.get?_push_of_some _ e))
end
section
variable {c : Cx} {k : Nat}
theorem Ex1.setUnpack {env : Env} {names : List (Str × NameKind)} {W : List Addr} {σ : Loc} {x : Str} {px tp spos : Pos} {n : Nat} {tgt elt iter : PySem.Expr} {scope : Scope} {pos : Pos} {items : List Ent}
    (T : EnvT env names W) (ok : CompOk scope names) (hs : SrcX c k env σ iter items) (hst : (tgtNames tgt).all (fun x => scope.names.lookup x == some .local || scope.names.lookup x == some .cell) = true) (hx : CanStore env W x)
    (h : ∀ cenv W, EnvT cenv scope.names W → ∀ e ∈ items, ∃ b, Binds tgt e b ∧ Ev c k cenv (b ++ capt σ scope.names) elt (.d (.bool true))) (hne : items ≠ []) :
    Ex1 c k env W σ (.Assign [.Tuple [.Name x px] n tp] (.SetComp elt [⟨tgt, iter, [], 0⟩] scope pos) spos) (.next ((x, .d (.bool true)) :: σ)) := by
  constructor; intro A s₀ F₀ X s R G g I
  refine PyProof.Rows.Assign_Tuple ?_ rfl rfl
  show wpAny _ A (comprehension (.SetComp elt [⟨tgt, iter, [], 0⟩] scope pos) scope env _ (newSet (.type "set")) false (eval iter env)) _ _ s
  refine wpAny_comprehension_free (use := none) rfl hs.set (closureFor_clo (ok.has T)) ok.kind (fun x hx hl => ?_) (compCoreSet T ok hs hst h hne R (I.gd g) I.lay fun D C h' tk k' t hC nC hns hDC fD hset => ?_)
  · have := List.all_eq_true.mp ok.loc x hx
    rw [hl] at this
    simpa using this
  · obtain ⟨m, hn⟩ := hns
    refine ⟨m, hn, fun h'' hs'' => ?_⟩
    have k2 : Ks s { s with heap := h'', toks := tk } := by
      refine ⟨h'', tk, rfl, k'.kp.andThen (fun b o o₁ n e e₁ => hs''.extBut b o₁ (fun z => ?_) e₁) (fun T => ?_)⟩
      · rw [z, hC] at e; injection e
      · obtain ⟨o, ho, so⟩ := ns_soft hn
        exact (k'.kp.tab T).one ho so hs''.extBut
    have hset2 : IsSet1 h'' D (!c.w.params.followText "set-order") := by obtain ⟨ep, e⟩ := hset; exact ⟨ep, hs''.extBut _ _ hDC e⟩
    show wpAny (model c.prog c.w) A (PySem.assign (.Tuple [.Name x px] n tp) env (.ref D)) _ _ { s with heap := h'', toks := tk }
    rw [PyProof.Rows.assign_Tuple]
    have G := T.g
    refine wpAny_bind (wpAny_standAt ?_)
    unfold unpack
    refine wpAny_bind (wpAny_holding (unpack_set1 (s := { s with heap := h'', toks := tk }) R.1 hset2 rfl (Q := _) fun h3 hk3 => ?_))
    have k3 : Ks s { s with heap := h3, toks := tk } := k2.trans (Ks.mk (tk := tk) (Kp.of hk3))
    refine PyProof.Rows.assignInOrder_cons (PyProof.Rows.assign_Name (storeAny (I.step k3 t) G hx (e := .d (.bool true)) (.bool true) fun s₁ I₁ kb₁ => ?_))
    exact PyProof.Rows.assignInOrder_nil ⟨⟨rfl, I₁⟩, (KB.ks k3).trans kb₁⟩
end
end Mine
end
section
open PySem PySem.Calls PySem.W
namespace Mine
variable [iO : Old]
noncomputable def strOp (gt : Bool) (x y : Str) : Bool := if gt then decide (y.cps.toList < x.cps.toList) else decide (x.cps.toList < y.cps.toList)
noncomputable def sizeOp (gt : Bool) (n m : Nat) : Bool := if gt then decide (m < n) else decide (n < m)
noncomputable def lexf (gt : Bool) : List Str → List Str → Nat → Nat → Bool
  | x :: xs, y :: ys, n, m => if x == y then lexf gt xs ys n m else strOp gt x y
  | _, _, n, m => sizeOp gt n m
noncomputable def opOf (gt : Bool) : CmpOp := if gt then .Gt else .Lt
noncomputable def codeOf (gt : Bool) : Int := if gt then 4 else 0
section
variable {prog : Program} {w : World} {A : Around} {E : Value → Shared → Prop} {s : Shared}
theorem drop_of {α : Type} {xs : List α} {i : Nat} {x : α} (h : xs[i]? = some x) : xs.drop i = x :: xs.drop (i + 1) := by
  obtain ⟨hl, rfl⟩ := List.getElem?_eq_some_iff.mp h
  rw [List.drop_eq_getElem_cons hl]
theorem drop_none {α : Type} {xs : List α} {i : Nat} (h : xs[i]? = none) : xs.drop i = [] := List.drop_eq_nil_of_le (List.getElem?_eq_none_iff.mp h)
theorem RepAll.strAt {F : Fz} {h : Heap} {vs : List Value} {xs : List Str} {i : Nat} {x : Str} (r : RepAll F h vs (xs.map .str)) (hx : xs[i]? = some x) : ∃ t, vs[i]? = some (.str x t) := by
  obtain ⟨v, hv, hr⟩ := r.get (i := i) (d := .str x) (by rw [List.getElem?_map, hx]; rfl)
  cases hr with
  | str _ t => exact ⟨t, hv⟩
theorem RepAll.strNone {F : Fz} {h : Heap} {vs : List Value} {xs : List Str} {i : Nat} (r : RepAll F h vs (xs.map .str)) (hx : xs[i]? = none) : vs[i]? = none := by
  have := r.length
  rw [List.length_map] at this
  rw [List.getElem?_eq_none_iff] at hx ⊢
  omega
theorem lexf_cc {gt : Bool} {x y : Str} {xs ys : List Str} {n m : Nat} : lexf gt (x :: xs) (y :: ys) n m = if x == y then lexf gt xs ys n m else strOp gt x y := rfl
theorem lexf_nil {gt : Bool} {ys : List Str} {n m : Nat} : lexf gt [] ys n m = sizeOp gt n m := by cases ys <;> rfl
theorem lexf_nil2 {gt : Bool} {xs : List Str} {n m : Nat} : lexf gt xs [] n m = sizeOp gt n m := by cases xs <;> rfl
theorem listItems_ {l : Addr} {vs : Array Value} {n : Nat} {dd : Option Addr} {sl : Array (Option Value)} {Q : Array Value → Shared → Prop} (hl : s.heap.get? l = some { cls := .type "list", dict := dd, data := .seq vs n, slots := sl }) (h : Q vs s) : wpAny (model prog w) A (Builtin.List.listItems (.ref l)) Q E s := by
  obtain ⟨hp, g, d, tk, os⟩ := s
  wp_walk using AutoSeq1.wpAny_loadPart' hl
  exact h
theorem lex_loop {gt : Bool} {l b : Addr} {vs ws : List Value} {xs ys : List Str} {F : Fz} {n n2 : Nat} {dd dd2 : Option Addr} {sl sl2 : Array (Option Value)} {R : Result → Shared → Prop}
    (hl : s.heap.get? l = some { cls := .type "list", dict := dd, data := .seq vs.toArray n, slots := sl }) (hb : s.heap.get? b = some { cls := .type "list", dict := dd2, data := .seq ws.toArray n2, slots := sl2 })
    (r1 : RepAll F s.heap vs (xs.map .str)) (r2 : RepAll F s.heap ws (ys.map .str)) :
    ∀ (k i : Nat), xs.length - i = k → R (.ok (.ret (.bool (lexf gt (xs.drop i) (ys.drop i) xs.length ys.length)))) s → codeAny (model prog w) A (.builtin "list.__eq__.loop" ⟨[.ref l, .ref b, rawInt (i : Int), rawInt (codeOf gt)], []⟩) R s := by
  have lx : vs.length = xs.length := by rw [r1.length, List.length_map]
  have ly : ws.length = ys.length := by rw [r2.length, List.length_map]
  intro k
  induction k with
  | zero =>
    intro i hk h
    refine codeAny_builtin MeetsSeq3.entry_eq_loop ?_
    rw [Around.under_plainId MeetsSeq3.plain_eq_loop _]
    have hx : xs[i]? = none := List.getElem?_eq_none_iff.mpr (by omega)
    have hv : vs.toArray[((i : Nat) : Int).toNat]? = none := by simpa using r1.strNone hx
    rw [drop_none hx, lexf_nil] at h
    obtain ⟨hp, g, d, tk, os⟩ := s
    cases gt with
    | true =>
      wp_walk using AutoSeq1.wpAny_loadPart' hl, AutoSeq1.wpAny_loadPart' hb
      rw [hv]
      wp_walk using AutoSeq1.wpAny_loadPart' hl, AutoSeq1.wpAny_loadPart' hb
      show R (.ok (.ret (.bool (decide (vs.toArray.size > ws.toArray.size))))) _
      rw [List.size_toArray, List.size_toArray, lx, ly]; exact h
    | false =>
      wp_walk using AutoSeq1.wpAny_loadPart' hl, AutoSeq1.wpAny_loadPart' hb
      rw [hv]
      wp_walk using AutoSeq1.wpAny_loadPart' hl, AutoSeq1.wpAny_loadPart' hb
      show R (.ok (.ret (.bool (decide (vs.toArray.size < ws.toArray.size))))) _
      rw [List.size_toArray, List.size_toArray, lx, ly]; exact h
  | succ k ih =>
    intro i hk h
    refine codeAny_builtin MeetsSeq3.entry_eq_loop ?_
    rw [Around.under_plainId MeetsSeq3.plain_eq_loop _]
    obtain ⟨x, hx⟩ : ∃ x, xs[i]? = some x := ⟨_, List.getElem?_eq_getElem (by omega)⟩
    obtain ⟨t, hv0⟩ := r1.strAt hx
    have hv : vs.toArray[((i : Nat) : Int).toNat]? = some (.str x t) := by simpa using hv0
    have hc : ((i : Int) + 1) = ((i + 1 : Nat) : Int) := by push_cast; rfl
    cases hy : ys[i]? with
    | none =>
      have hw : ws.toArray[((i : Nat) : Int).toNat]? = none := by simpa using r2.strNone hy
      rw [drop_none hy, lexf_nil2] at h
      obtain ⟨hp, g, d, tk, os⟩ := s
      cases gt with
      | true =>
        wp_walk using AutoSeq1.wpAny_loadPart' hl, AutoSeq1.wpAny_loadPart' hb
        rw [hv, hw]
        wp_walk using AutoSeq1.wpAny_loadPart' hl, AutoSeq1.wpAny_loadPart' hb
        show R (.ok (.ret (.bool (decide (vs.toArray.size > ws.toArray.size))))) _
        rw [List.size_toArray, List.size_toArray, lx, ly]; exact h
      | false =>
        wp_walk using AutoSeq1.wpAny_loadPart' hl, AutoSeq1.wpAny_loadPart' hb
        rw [hv, hw]
        wp_walk using AutoSeq1.wpAny_loadPart' hl, AutoSeq1.wpAny_loadPart' hb
        show R (.ok (.ret (.bool (decide (vs.toArray.size < ws.toArray.size))))) _
        rw [List.size_toArray, List.size_toArray, lx, ly]; exact h
    | some y =>
      obtain ⟨u, hw0⟩ := r2.strAt hy
      have hw : ws.toArray[((i : Nat) : Int).toNat]? = some (.str y u) := by simpa using hw0
      rw [drop_of hx, drop_of hy] at h
      rw [lexf_cc] at h
      obtain ⟨hp, g, d, tk, os⟩ := s
      cases gt with
      | true =>
        wp_walk using AutoSeq1.wpAny_loadPart' hl, AutoSeq1.wpAny_loadPart' hb
        rw [hv, hw]
        refine wpAny_bind (wpAny_eqBool_str ?_)
        by_cases e : x = y
        · rw [decide_eq_true e, if_pos rfl, hc]
          rw [if_pos (by simpa using e)] at h
          exact wpAny_pure ⟨plainId_quiet MeetsSeq3.plain_eq_loop _, ih (i + 1) (by omega) h⟩
        · rw [decide_eq_false e, if_neg (by decide)]
          rw [if_neg (by simpa using e)] at h
          refine wpAny_bind (listItems_ hl (wpAny_bind (listItems_ hb ?_)))
          rw [hv, hw]
          refine wpAny_bind (show wpAny _ _ (compareOp .Gt (.str x t) (.str y u)) _ _ _ from P.gt_str ?_)
          exact wpAny_pure h
      | false =>
        wp_walk using AutoSeq1.wpAny_loadPart' hl, AutoSeq1.wpAny_loadPart' hb
        rw [hv, hw]
        refine wpAny_bind (wpAny_eqBool_str ?_)
        by_cases e : x = y
        · rw [decide_eq_true e, if_pos rfl, hc]
          rw [if_pos (by simpa using e)] at h
          exact wpAny_pure ⟨plainId_quiet MeetsSeq3.plain_eq_loop _, ih (i + 1) (by omega) h⟩
        · rw [decide_eq_false e, if_neg (by decide)]
          rw [if_neg (by simpa using e)] at h
          refine wpAny_bind (listItems_ hl (wpAny_bind (listItems_ hb ?_)))
          rw [hv, hw]
          refine wpAny_bind (show wpAny _ _ (compareOp .Lt (.str x t) (.str y u)) _ _ _ from P.lt_str ?_)
          exact wpAny_pure h
end
end Mine
end
section
open PySem PySem.Calls PySem.W
namespace Mine
variable [iO : Old]
section
variable {prog : Program} {w : World} {A : Around} {E : Value → Shared → Prop} {s : Shared}
theorem rich_lt {l b : Addr} {vs ws : List Value} {xs ys : List Str} {F : Fz} {Q : Value → Shared → Prop} (hl : s.heap.IsList l vs.toArray) (hb : s.heap.IsList b ws.toArray) (r1 : RepAll F s.heap vs (xs.map .str)) (r2 : RepAll F s.heap ws (ys.map .str)) (hu : A.units < cLine)
    (hQ : Q (.bool (lexf false xs ys xs.length ys.length)) s) : wpAny (model prog w) A (richCompare .Lt (.ref l) (.ref b)) Q E s := by
  obtain ⟨⟨cl, dd, dt, sl⟩, hl', hc, n, hd⟩ := id hl
  obtain ⟨⟨cl2, dd2, dt2, sl2⟩, hb', hc2, n2, hd2⟩ := id hb
  simp only at hc hd hc2 hd2
  subst hc hd hc2 hd2
  refine richCompare_meets_room (op := .Lt) (S := fun _ R s' => s' = s ∧ R (.ok (.ret (.bool (lexf false xs ys xs.length ys.length)))) s') hl.typeIs hb.typeIs PySem.F.slot_list_lt (B := Builtin.«list.__lt__») (entryFor_of_tree (by kernel_rfl)) (by unfold argsOk; kernel_rfl) ?_ ⟨rfl, (fun z => nomatch z), hQ⟩ hu
  rintro prog' w' A' R s' ⟨rfl, h⟩
  have hT := hb.typeIs
  have f3 : isSubtype (.type "list") (.type "list") = pure true := by rw [isSubtype_type]; kernel_rfl
  obtain ⟨hp, g, d, tk, os⟩ := s'
  wp_walk using AutoSeq1.wpAny_loadPart' hl', AutoSeq1.wpAny_loadPart' hb'
  exact ⟨plainId_quiet MeetsSeq3.plain_eq_loop _, lex_loop (gt := false) hl' hb' r1 r2 _ 0 rfl h⟩
theorem rich_gt {l b : Addr} {vs ws : List Value} {xs ys : List Str} {F : Fz} {Q : Value → Shared → Prop} (hl : s.heap.IsList l vs.toArray) (hb : s.heap.IsList b ws.toArray) (r1 : RepAll F s.heap vs (xs.map .str)) (r2 : RepAll F s.heap ws (ys.map .str)) (hu : A.units < cLine)
    (hQ : Q (.bool (lexf true xs ys xs.length ys.length)) s) : wpAny (model prog w) A (richCompare .Gt (.ref l) (.ref b)) Q E s := by
  obtain ⟨⟨cl, dd, dt, sl⟩, hl', hc, n, hd⟩ := id hl
  obtain ⟨⟨cl2, dd2, dt2, sl2⟩, hb', hc2, n2, hd2⟩ := id hb
  simp only at hc hd hc2 hd2
  subst hc hd hc2 hd2
  refine richCompare_meets_room (op := .Gt) (S := fun _ R s' => s' = s ∧ R (.ok (.ret (.bool (lexf true xs ys xs.length ys.length)))) s') hl.typeIs hb.typeIs PySem.F.slot_list_gt (B := Builtin.«list.__gt__») (entryFor_of_tree (by kernel_rfl)) (by unfold argsOk; kernel_rfl) ?_ ⟨rfl, (fun z => nomatch z), hQ⟩ hu
  rintro prog' w' A' R s' ⟨rfl, h⟩
  have hT := hb.typeIs
  have f3 : isSubtype (.type "list") (.type "list") = pure true := by rw [isSubtype_type]; kernel_rfl
  obtain ⟨hp, g, d, tk, os⟩ := s'
  wp_walk using AutoSeq1.wpAny_loadPart' hl', AutoSeq1.wpAny_loadPart' hb'
  exact ⟨plainId_quiet MeetsSeq3.plain_eq_loop _, lex_loop (gt := true) hl' hb' r1 r2 _ 0 rfl h⟩

theorem min_two {l : Addr} {v0 v1 : Value} {bt : Bool} {Q : Value → Shared → Prop} (hh : A.handled = none) (hl : s.heap.IsList l #[v0, v1])
    (hcmp : ∀ {A' : Around} {Q : Value → Shared → Prop} {h' : Heap}, A'.units ≤ A.units + 4 → (∀ b o, s.heap.get? b = some o → h'.get? b = some o) → Q (.bool bt) { s with heap := h' } → wpAny (model prog w) A' (richCompare .Lt v1 v0) Q (fun _ _ => False) { s with heap := h' })
    (hQ : ∀ h', (∀ b o, s.heap.get? b = some o → h'.get? b = some o) → Q (if bt then v1 else v0) { s with heap := h' }) : wpAny (model prog w) A (call (.builtin "min") [.ref l]) Q (fun _ _ => False) s := by
  have hname : (toString "min" ++ toString ".loop" : String) = "min.loop" := by decide
  refine call_function_tree F.kind_min F.plain_min F.entry_min (F.args_min1 _) ?_
  show wpAny _ A.in1 (Builtin.Builtins.bindParams "min" ["key", "default"] 0 ⟨[], []⟩ >>= _) _ _ s
  refine wpAny_bind (wpAny_of_eq (show Builtin.Builtins.bindParams "min" ["key", "default"] 0 ⟨[], []⟩ = pure [none, none] from rfl) ?_)
  refine wpAny_bind (wpAny_pure ?_)
  refine wpAny_bind (wpAny_pyIter_list hl ?_)
  refine wpAny_bind (wpAny_newObj_type ?_)
  rw [hname]
  dsimp only
  generalize hI : s.heap.objs.size = I
  generalize hH1 : s.heap.push { cls := .type "list_iterator", data := .fields #[.ref l, .int 0 0] } = H1
  generalize hS : H1.objs.size = S
  generalize hH2 : H1.push { cls := .type "list", data := .seq ([] : List Value).toArray } = H2
  have zS : S = I + 1 := by rw [← hS, ← hH1, Heap.size_push, hI]
  have old : ∀ b o, s.heap.get? b = some o → H2.get? b = some o := fun b o e => by rw [← hH2]; exact Heap.get?_push_of_some _ (by rw [← hH1]; exact Heap.get?_push_of_some _ e)
  have it0 : H2.IsListIter I l 0 := ⟨_, by rw [← hH2]; exact Heap.get?_push_of_some _ (by rw [← hH1, ← hI]; exact Heap.get?_push_size _ rfl), rfl, rfl⟩
  have s0 : H2.get? S = some { cls := .type "list", dict := none, data := .seq #[] 0, slots := #[] } := by rw [← hH2, ← hS]; exact Heap.get?_push_size _ rfl
  have hSI : S ≠ I := by rw [zS]; exact Nat.succ_ne_self _
  have lt : ∀ b o, s.heap.get? b = some o → b ≠ I ∧ b ≠ S := fun b o e => by
    have := Heap.lt_size e
    rw [hI] at this
    exact ⟨Nat.ne_of_lt this, by rw [zS]; exact Nat.ne_of_lt (Nat.lt_succ_of_lt this)⟩
  obtain ⟨ol, hol, _⟩ := id hl
  have hlI := (lt l ol hol).1
  have hlS := (lt l ol hol).2
  refine wpAny_pure ⟨plainId_quiet F.plain_min_loop _, codeAny_builtin F.entry_min_loop ?_⟩
  rw [Around.under_plainId F.plain_min_loop _]
  show wpAny _ _ (seqItems? (.ref S) >>= _) _ _ _
  refine wpAny_bind (wpAny_seqItems s0 rfl ?_)
  show wpAny _ _ (tryCatch (pyNext (.ref I)) _ >>= _) _ _ _
  have l2 : H2.IsList l #[v0, v1] := hl.at fun o e => old _ _ e
  refine wpAny_bind (wpAny_tryCatch (wpAny_pyNext_list_item it0 l2 (x := v0) rfl fun h₃ it₃ hs₃ => ?_))
  have s3 : h₃.get? S = some { cls := .type "list", dict := none, data := .seq #[] 0, slots := #[] } := (hs₃.2 S hSI).trans s0
  show wpAny _ _ (updateSeq S (fun _ => #[v0, v0]) >>= _) _ _ _
  refine wpAny_bind ?_
  refine wpAny_updateSeq s3 rfl ?_
  rw [hname]
  obtain ⟨n4, z4⟩ := mapSeq_eq #[] 0 (fun _ => #[v0, v0])
  have s4 := Heap.get?_update_self (Obj.mapSeq (fun _ => #[v0, v0])) s3 (by rw [z4]; rfl)
  rw [z4] at s4
  generalize hH4 : h₃.update S (Obj.mapSeq (fun _ => #[v0, v0])) = H4 at s4
  have sb4 : Heap.SameBut S h₃ H4 := by rw [← hH4]; exact Heap.SameBut.update ..
  refine wpAny_pure ⟨plainId_quiet F.plain_min_loop _, codeAny_builtin F.entry_min_loop ?_⟩
  rw [Around.under_plainId F.plain_min_loop _]
  show wpAny _ _ (seqItems? (.ref S) >>= _) _ _ _
  refine wpAny_bind (wpAny_seqItems s4 rfl ?_)
  show wpAny _ _ (tryCatch (pyNext (.ref I)) _ >>= _) _ _ _
  have it4 : H4.IsListIter I l (0 + 1) := it₃.at fun o e => (sb4.2 I (Ne.symm hSI)).trans e
  have l4 : H4.IsList l #[v0, v1] := (l2.at fun o e => (hs₃.2 l hlI).trans e).at fun o e => (sb4.2 l hlS).trans e
  refine wpAny_bind (wpAny_tryCatch (wpAny_pyNext_list_item (s := { s with heap := H4 }) it4 l4 (x := v1) rfl fun h₅ it₅ hs₅ => ?_))
  have s5 := (hs₅.2 S hSI).trans s4
  have old5 : ∀ b o, s.heap.get? b = some o → h₅.get? b = some o := fun b o e => (hs₅.2 b (lt b o e).1).trans ((sb4.2 b (lt b o e).2).trans ((hs₃.2 b (lt b o e).1).trans (old b o e)))
  have l5 : h₅.IsList l #[v0, v1] := l4.at fun o e => (hs₅.2 l hlI).trans e
  show wpAny _ _ (tryCatch (holding [v1, v1] (richCompare .Lt v1 v0 >>= _)) _ >>= _) _ _ _
  refine wpAny_bind (wpAny_tryCatch (wpAny_holding (wpAny_bind (wpAny_mono (hcmp (Q := fun v s' => v = .bool bt ∧ s' = { s with heap := h₅ }) (by show A.units + 1 ≤ A.units + 4; lia) old5 ⟨rfl, rfl⟩) (fun v s' q => ?_) fun _ _ x => x.elim))))
  obtain ⟨rfl, rfl⟩ := q
  refine wpAny_bind (wpAny_holding (wpAny_truthy_bool ?_))
  refine wpAny_bind (wpAny_letGo (wpAny_pure ?_))
  have fin : ∀ (H : Heap) (vb : Value) (c : Nat), H.get? S = some { cls := .type "list", dict := none, data := .seq #[vb, vb] c, slots := #[] } → H.IsListIter I l 2 → H.IsList l #[v0, v1] → (∀ b o, s.heap.get? b = some o → H.get? b = some o) → (∀ h', (∀ b o, s.heap.get? b = some o → h'.get? b = some o) → Q vb { s with heap := h' }) →
      codeAny (model prog w) A (.builtin "min.loop" ⟨[.ref I, .none, .ref S], []⟩) (wants Q (fun _ _ => False)) { s with heap := H } := by
    intro H vb c hs hit hls ho hq
    refine codeAny_builtin F.entry_min_loop ?_
    rw [Around.under_plainId F.plain_min_loop _]
    show wpAny _ _ (seqItems? (.ref S) >>= _) _ _ _
    refine wpAny_bind (wpAny_seqItems hs rfl ?_)
    show wpAny _ _ (tryCatch (pyNext (.ref I)) _ >>= _) _ _ _
    refine wpAny_bind (wpAny_tryCatch (wpAny_pyNext_list_end hh hit hls (by rfl) fun h₆ he₆ => ?_))
    have s6 := he₆ S _ hSI hs
    show wpAny _ _ (updateSeq S (fun _ => #[]) >>= _) _ _ _
    refine wpAny_bind ?_
    refine wpAny_updateSeq s6 rfl (wpAny_bind (wpAny_letGo (wpAny_pure ?_)))
    exact hq _ fun b o e => (Heap.get?_update_other _ _ (Ne.symm (lt b o e).2)).trans (he₆ b o (lt b o e).1 (ho b o e))
  cases bt with
  | true =>
    simp only [if_true] at hQ ⊢
    refine wpAny_bind ?_
    refine wpAny_updateSeq s5 rfl (wpAny_bind (wpAny_letGo ?_))
    rw [hname]
    obtain ⟨n6, z6⟩ := mapSeq_eq #[v0, v0] n4 (fun _ => #[v1, v1])
    have s6 := Heap.get?_update_self (Obj.mapSeq (fun _ => #[v1, v1])) s5 (by rw [z6]; rfl)
    rw [z6] at s6
    have sb6 : Heap.SameBut S h₅ (h₅.update S (Obj.mapSeq (fun _ => #[v1, v1]))) := Heap.SameBut.update ..
    exact wpAny_pure ⟨plainId_quiet F.plain_min_loop _, fin _ v1 n6 s6 (it₅.at fun o e => (sb6.2 I (Ne.symm hSI)).trans e) (l5.at fun o e => (sb6.2 l hlS).trans e) (fun b o e => (sb6.2 b (lt b o e).2).trans (old5 b o e)) hQ⟩
  | false =>
    simp only [Bool.false_eq_true, if_false] at hQ ⊢
    refine wpAny_bind (wpAny_letGo ?_)
    rw [hname]
    exact wpAny_pure ⟨plainId_quiet F.plain_min_loop _, fin _ v0 n4 s5 it₅ l5 old5 hQ⟩
end
end Mine
end
section
open PySem PySem.Calls PySem.W
namespace Mine
variable [iO : Old]
section
variable {prog : Program} {w : World} {A : Around} {E : Value → Shared → Prop} {s : Shared}
theorem max_two {l : Addr} {v0 v1 : Value} {bt : Bool} {Q : Value → Shared → Prop} (hh : A.handled = none) (hl : s.heap.IsList l #[v0, v1])
    (hcmp : ∀ {A' : Around} {Q : Value → Shared → Prop} {h' : Heap}, A'.units ≤ A.units + 4 → (∀ b o, s.heap.get? b = some o → h'.get? b = some o) → Q (.bool bt) { s with heap := h' } → wpAny (model prog w) A' (richCompare .Gt v1 v0) Q (fun _ _ => False) { s with heap := h' })
    (hQ : ∀ h', (∀ b o, s.heap.get? b = some o → h'.get? b = some o) → Q (if bt then v1 else v0) { s with heap := h' }) : wpAny (model prog w) A (call (.builtin "max") [.ref l]) Q (fun _ _ => False) s := by
  have hname : (toString "max" ++ toString ".loop" : String) = "max.loop" := by decide
  refine call_function_tree F.kind_max F.plain_max F.entry_max (F.args_max1 _) ?_
  show wpAny _ A.in1 (Builtin.Builtins.bindParams "max" ["key", "default"] 0 ⟨[], []⟩ >>= _) _ _ s
  refine wpAny_bind (wpAny_of_eq (show Builtin.Builtins.bindParams "max" ["key", "default"] 0 ⟨[], []⟩ = pure [none, none] from rfl) ?_)
  refine wpAny_bind (wpAny_pure ?_)
  refine wpAny_bind (wpAny_pyIter_list hl ?_)
  refine wpAny_bind (wpAny_newObj_type ?_)
  rw [hname]
  dsimp only
  generalize hI : s.heap.objs.size = I
  generalize hH1 : s.heap.push { cls := .type "list_iterator", data := .fields #[.ref l, .int 0 0] } = H1
  generalize hS : H1.objs.size = S
  generalize hH2 : H1.push { cls := .type "list", data := .seq ([] : List Value).toArray } = H2
  have zS : S = I + 1 := by rw [← hS, ← hH1, Heap.size_push, hI]
  have old : ∀ b o, s.heap.get? b = some o → H2.get? b = some o := fun b o e => by rw [← hH2]; exact Heap.get?_push_of_some _ (by rw [← hH1]; exact Heap.get?_push_of_some _ e)
  have it0 : H2.IsListIter I l 0 := ⟨_, by rw [← hH2]; exact Heap.get?_push_of_some _ (by rw [← hH1, ← hI]; exact Heap.get?_push_size _ rfl), rfl, rfl⟩
  have s0 : H2.get? S = some { cls := .type "list", dict := none, data := .seq #[] 0, slots := #[] } := by rw [← hH2, ← hS]; exact Heap.get?_push_size _ rfl
  have hSI : S ≠ I := by rw [zS]; exact Nat.succ_ne_self _
  have lt : ∀ b o, s.heap.get? b = some o → b ≠ I ∧ b ≠ S := fun b o e => by
    have := Heap.lt_size e
    rw [hI] at this
    exact ⟨Nat.ne_of_lt this, by rw [zS]; exact Nat.ne_of_lt (Nat.lt_succ_of_lt this)⟩
  obtain ⟨ol, hol, _⟩ := id hl
  have hlI := (lt l ol hol).1
  have hlS := (lt l ol hol).2
  refine wpAny_pure ⟨plainId_quiet F.plain_max_loop _, codeAny_builtin F.entry_max_loop ?_⟩
  rw [Around.under_plainId F.plain_max_loop _]
  show wpAny _ _ (seqItems? (.ref S) >>= _) _ _ _
  refine wpAny_bind (wpAny_seqItems s0 rfl ?_)
  show wpAny _ _ (tryCatch (pyNext (.ref I)) _ >>= _) _ _ _
  have l2 : H2.IsList l #[v0, v1] := hl.at fun o e => old _ _ e
  refine wpAny_bind (wpAny_tryCatch (wpAny_pyNext_list_item it0 l2 (x := v0) rfl fun h₃ it₃ hs₃ => ?_))
  have s3 : h₃.get? S = some { cls := .type "list", dict := none, data := .seq #[] 0, slots := #[] } := (hs₃.2 S hSI).trans s0
  show wpAny _ _ (updateSeq S (fun _ => #[v0, v0]) >>= _) _ _ _
  refine wpAny_bind ?_
  refine wpAny_updateSeq s3 rfl ?_
  rw [hname]
  obtain ⟨n4, z4⟩ := mapSeq_eq #[] 0 (fun _ => #[v0, v0])
  have s4 := Heap.get?_update_self (Obj.mapSeq (fun _ => #[v0, v0])) s3 (by rw [z4]; rfl)
  rw [z4] at s4
  generalize hH4 : h₃.update S (Obj.mapSeq (fun _ => #[v0, v0])) = H4 at s4
  have sb4 : Heap.SameBut S h₃ H4 := by rw [← hH4]; exact Heap.SameBut.update ..
  refine wpAny_pure ⟨plainId_quiet F.plain_max_loop _, codeAny_builtin F.entry_max_loop ?_⟩
  rw [Around.under_plainId F.plain_max_loop _]
  show wpAny _ _ (seqItems? (.ref S) >>= _) _ _ _
  refine wpAny_bind (wpAny_seqItems s4 rfl ?_)
  show wpAny _ _ (tryCatch (pyNext (.ref I)) _ >>= _) _ _ _
  have it4 : H4.IsListIter I l (0 + 1) := it₃.at fun o e => (sb4.2 I (Ne.symm hSI)).trans e
  have l4 : H4.IsList l #[v0, v1] := (l2.at fun o e => (hs₃.2 l hlI).trans e).at fun o e => (sb4.2 l hlS).trans e
  refine wpAny_bind (wpAny_tryCatch (wpAny_pyNext_list_item (s := { s with heap := H4 }) it4 l4 (x := v1) rfl fun h₅ it₅ hs₅ => ?_))
  have s5 := (hs₅.2 S hSI).trans s4
  have old5 : ∀ b o, s.heap.get? b = some o → h₅.get? b = some o := fun b o e => (hs₅.2 b (lt b o e).1).trans ((sb4.2 b (lt b o e).2).trans ((hs₃.2 b (lt b o e).1).trans (old b o e)))
  have l5 : h₅.IsList l #[v0, v1] := l4.at fun o e => (hs₅.2 l hlI).trans e
  show wpAny _ _ (tryCatch (holding [v1, v1] (richCompare .Gt v1 v0 >>= _)) _ >>= _) _ _ _
  refine wpAny_bind (wpAny_tryCatch (wpAny_holding (wpAny_bind (wpAny_mono (hcmp (Q := fun v s' => v = .bool bt ∧ s' = { s with heap := h₅ }) (by show A.units + 1 ≤ A.units + 4; lia) old5 ⟨rfl, rfl⟩) (fun v s' q => ?_) fun _ _ x => x.elim))))
  obtain ⟨rfl, rfl⟩ := q
  refine wpAny_bind (wpAny_holding (wpAny_truthy_bool ?_))
  refine wpAny_bind (wpAny_letGo (wpAny_pure ?_))
  have fin : ∀ (H : Heap) (vb : Value) (c : Nat), H.get? S = some { cls := .type "list", dict := none, data := .seq #[vb, vb] c, slots := #[] } → H.IsListIter I l 2 → H.IsList l #[v0, v1] → (∀ b o, s.heap.get? b = some o → H.get? b = some o) → (∀ h', (∀ b o, s.heap.get? b = some o → h'.get? b = some o) → Q vb { s with heap := h' }) →
      codeAny (model prog w) A (.builtin "max.loop" ⟨[.ref I, .none, .ref S], []⟩) (wants Q (fun _ _ => False)) { s with heap := H } := by
    intro H vb c hs hit hls ho hq
    refine codeAny_builtin F.entry_max_loop ?_
    rw [Around.under_plainId F.plain_max_loop _]
    show wpAny _ _ (seqItems? (.ref S) >>= _) _ _ _
    refine wpAny_bind (wpAny_seqItems hs rfl ?_)
    show wpAny _ _ (tryCatch (pyNext (.ref I)) _ >>= _) _ _ _
    refine wpAny_bind (wpAny_tryCatch (wpAny_pyNext_list_end hh hit hls (by rfl) fun h₆ he₆ => ?_))
    have s6 := he₆ S _ hSI hs
    show wpAny _ _ (updateSeq S (fun _ => #[]) >>= _) _ _ _
    refine wpAny_bind ?_
    refine wpAny_updateSeq s6 rfl (wpAny_bind (wpAny_letGo (wpAny_pure ?_)))
    exact hq _ fun b o e => (Heap.get?_update_other _ _ (Ne.symm (lt b o e).2)).trans (he₆ b o (lt b o e).1 (ho b o e))
  cases bt with
  | true =>
    simp only [if_true] at hQ ⊢
    refine wpAny_bind ?_
    refine wpAny_updateSeq s5 rfl (wpAny_bind (wpAny_letGo ?_))
    rw [hname]
    obtain ⟨n6, z6⟩ := mapSeq_eq #[v0, v0] n4 (fun _ => #[v1, v1])
    have s6 := Heap.get?_update_self (Obj.mapSeq (fun _ => #[v1, v1])) s5 (by rw [z6]; rfl)
    rw [z6] at s6
    have sb6 : Heap.SameBut S h₅ (h₅.update S (Obj.mapSeq (fun _ => #[v1, v1]))) := Heap.SameBut.update ..
    exact wpAny_pure ⟨plainId_quiet F.plain_max_loop _, fin _ v1 n6 s6 (it₅.at fun o e => (sb6.2 I (Ne.symm hSI)).trans e) (l5.at fun o e => (sb6.2 l hlS).trans e) (fun b o e => (sb6.2 b (lt b o e).2).trans (old5 b o e)) hQ⟩
  | false =>
    simp only [Bool.false_eq_true, if_false] at hQ ⊢
    refine wpAny_bind (wpAny_letGo ?_)
    rw [hname]
    exact wpAny_pure ⟨plainId_quiet F.plain_max_loop _, fin _ v0 n4 s5 it₅ l5 old5 hQ⟩
end
section
variable {c : Cx} {k : Nat}
noncomputable def min2 (a b : List Str) : List Str := if lexf false b a b.length a.length then b else a
noncomputable def max2 (a b : List Str) : List Str := if lexf true b a b.length a.length then b else a
theorem FnC.min2 {a b : List Str} : FnC c (k + 1) (.builtin "min") [.d (.list [encRow a, encRow b])] (.d (encRow (Mine.min2 a b))) := by
  constructor; intro A F s vs R g h
  obtain ⟨v, rfl, h'⟩ := h.one
  obtain ⟨l, vs, rfl, f, n, hl, r⟩ := h'.isList
  obtain ⟨v0, vs, rfl, r0, r⟩ := r.uncons
  obtain ⟨v1, vs, rfl, r1, r⟩ := r.uncons
  cases r
  obtain ⟨l0, ws0, rfl, f0, n0, hl0, q0⟩ := Holds.isList (F := F) (h := s.heap) (v := v0) r0
  obtain ⟨l1, ws1, rfl, f1, n1, hl1, q1⟩ := Holds.isList (F := F) (h := s.heap) (v := v1) r1
  refine min_two (bt := lexf false b a b.length a.length) R.1 (by simpa using hl) (fun {A' Q h'} hu hk hq => ?_) fun h' hk => ?_
  · exact rich_lt (s := { s with heap := h' }) (F := F) (hl1.at fun o e => hk _ _ e) (hl0.at fun o e => hk _ _ e) (q1.kp (Kp.of hk)) (q0.kp (Kp.of hk)) (by have := R.2.2; show A'.units < 9900; lia) hq
  · refine ⟨Ks.mk (tk := s.toks) (Kp.of hk), ?_⟩
    unfold Mine.min2
    split
    · exact Rep.mono (fun _ _ f => .inl f) (fun _ _ _ _ _ e => e) (Rep.kp (Kp.of hk) r1)
    · exact Rep.mono (fun _ _ f => .inl f) (fun _ _ _ _ _ e => e) (Rep.kp (Kp.of hk) r0)
theorem FnC.max2 {a b : List Str} : FnC c (k + 1) (.builtin "max") [.d (.list [encRow a, encRow b])] (.d (encRow (Mine.max2 a b))) := by
  constructor; intro A F s vs R g h
  obtain ⟨v, rfl, h'⟩ := h.one
  obtain ⟨l, vs, rfl, f, n, hl, r⟩ := h'.isList
  obtain ⟨v0, vs, rfl, r0, r⟩ := r.uncons
  obtain ⟨v1, vs, rfl, r1, r⟩ := r.uncons
  cases r
  obtain ⟨l0, ws0, rfl, f0, n0, hl0, q0⟩ := Holds.isList (F := F) (h := s.heap) (v := v0) r0
  obtain ⟨l1, ws1, rfl, f1, n1, hl1, q1⟩ := Holds.isList (F := F) (h := s.heap) (v := v1) r1
  refine max_two (bt := lexf true b a b.length a.length) R.1 (by simpa using hl) (fun {A' Q h'} hu hk hq => ?_) fun h' hk => ?_
  · exact rich_gt (s := { s with heap := h' }) (F := F) (hl1.at fun o e => hk _ _ e) (hl0.at fun o e => hk _ _ e) (q1.kp (Kp.of hk)) (q0.kp (Kp.of hk)) (by have := R.2.2; show A'.units < 9900; lia) hq
  · refine ⟨Ks.mk (tk := s.toks) (Kp.of hk), ?_⟩
    unfold Mine.max2
    split
    · exact Rep.mono (fun _ _ f => .inl f) (fun _ _ _ _ _ e => e) (Rep.kp (Kp.of hk) r1)
    · exact Rep.mono (fun _ _ f => .inl f) (fun _ _ _ _ _ e => e) (Rep.kp (Kp.of hk) r0)
end
end Mine
end
section
open PySem PySem.Calls PySem.W
namespace Mine
variable [iO : Old]
structure Iter2 (c : Cx) (A : Around) (G fp : Fz) (it : Value) (wr : List Addr) (items : List Ent) (At : Nat → Shared → Prop) (Mid : Nat → Addr → Shared → Prop) : Prop where
  next : ∀ i s e (Q : Option Value → Shared → Prop) (E : Value → Shared → Prop), items[i]? = some e → At i s →
    (∀ T h' tk, KeepBut wr s.heap h' → Mid (i + 1) T { s with heap := h', toks := tk } → Holds (G.ext s.heap) h' e (.ref T) → Q (some (.ref T)) { s with heap := h', toks := tk }) → wpAny (model c.prog c.w) A (pyNext it) Q E s
  done : ∀ s (Q : Option Value → Shared → Prop) (E : Value → Shared → Prop), At items.length s → (∀ h' tk, KeepBut wr s.heap h' → Q none { s with heap := h', toks := tk }) → wpAny (model c.prog c.w) A (pyNext it) Q E s
  frame : ∀ i s s', At i s → (∀ b o, fp b → b ≠ tab0 → NFr o → s.heap.get? b = some o → s'.heap.get? b = some o) → At i s'
  live : ∀ i s, At i s → ∀ b ∈ wr, ∃ o, s.heap.get? b = some o ∧ Soft o ∧ NFr o
  liveM : ∀ i T s, Mid i T s → ∀ b ∈ wr, ∃ o, s.heap.get? b = some o ∧ Soft o ∧ NFr o
  go : ∀ i elts q p T s (Q : Unit → Shared → Prop) (E : Value → Shared → Prop), Mid i T s → (∀ h', KeepBut wr s.heap h' → At i { s with heap := h' } → Q () { s with heap := h' }) → wpAny (model c.prog c.w) A (letOwnedTupleGo (.Tuple elts q p) it (.ref T)) Q E s
theorem li_soft {h : Heap} {a l : Addr} {i : Nat} (x : h.IsListIter a l i) : ∃ o, h.get? a = some o ∧ Soft o ∧ NFr o := by obtain ⟨o, e, c, _⟩ := x; exact ⟨o, e, .inr ⟨by rw [c]; decide, by rw [c]; decide⟩, nfr_of c⟩
theorem nfK {wr : List Addr} {h : Heap} (x : ∀ b ∈ wr, ∃ o, h.get? b = some o ∧ Soft o ∧ NFr o) : ∀ b ∈ wr, ¬ FrameAt h b := fun b m => (by obtain ⟨_, e, _, n⟩ := x b m; exact nf_of e n)
theorem softK {wr : List Addr} {h h' : Heap} (x : ∀ b ∈ wr, ∃ o, h.get? b = some o ∧ Soft o ∧ NFr o) (k : KeepBut wr h h') : Tab h → Tab h' :=
  fun T => T.but (P := (· ∈ wr)) (fun b o m e => by obtain ⟨o', e', q⟩ := x b m; rw [e] at e'; obtain rfl := Option.some.inj e'; exact q.1) k
theorem someOf {wr : List Addr} {h : Heap} (x : ∀ b ∈ wr, ∃ o, h.get? b = some o ∧ Soft o ∧ NFr o) : ∀ b ∈ wr, ∃ o, h.get? b = some o := fun b m => (by obtain ⟨o, e, _⟩ := x b m; exact ⟨o, e⟩)
noncomputable def Opened2 (c : Cx) (A : Around) (F : Fz) (s : Shared) (items : List Ent) (it : Value) (s' : Shared) : Prop :=
  Ks s s' ∧ ∃ wr fp At Mid, (∀ a ∈ wr, s.heap.get? a = none ∧ a ≠ tab0) ∧ Iter2 c A (fun a => F.ext s.heap a ∧ a ∉ wr ∧ ∃ o, s'.heap.get? a = some o) fp it wr items At Mid ∧ At 0 s' ∧ ∀ b, fp b → b ≠ tab0 → (∃ o, s'.heap.get? b = some o) ∧ (F.ext s.heap b)
structure SrcX2 (c : Cx) (k : Nat) (env : Env) (σ : Loc) (iter : PySem.Expr) (items : List Ent) : Prop where
  run : ∀ A F s, Room k A → EnvG env → Gd c.K A.frames s → Lay env σ F s.heap →
    wpAny (model c.prog c.w) A (eval iter env) (fun xv s₁ => wpAny (model c.prog c.w) A (pyIter xv) (fun it s' => Opened2 c A F s items it s') (fun _ _ => False) s₁) (fun _ _ => False) s
  set : ∀ x, foldedSetIterable iter env x = pure x
section
variable {c : Cx} {k : Nat} {env : Env} {W : List Addr} {σ τ : Loc} {o : Out}
theorem Ex1.for2 {elts : List PySem.Expr} {tn : Nat} {tp : Pos} {iter : PySem.Expr} {body : List Stmt} {items : List Ent} {p : Pos} (hs : SrcX2 c k env σ iter items) (L : LoopR c k env W (.Tuple elts tn tp) body items σ o) : Ex1 c k env W σ (.For (.Tuple elts tn tp) iter body [] p) o := by
  constructor; intro A s₀ F₀ X s R G g I
  refine wpAny_For ?_ hs.set
  have hsrc := hs.run A (Ff F₀ s₀.heap (W ++ X)) s R G (I.gd g) I.lay
  refine wpAny_mono (wpAny_toks_of (n := s.toks) (Nat.le_refl _) hsrc) (fun xv s₁ q => ?_) fun _ _ x => x.2.elim
  refine wpAny_mono (wpAny_toks_of (n := s₁.toks) (Nat.le_refl _) q.2) (fun it s₂ q' => ?_) fun _ _ x => x.2.elim
  obtain ⟨t₂, k₂, wr, fp, At, Mid, hwr, hit, h0, hfp⟩ := q'
  have t₂' := Nat.le_trans q.1 t₂
  have I₂ := I.grow (wr := wr) k₂ t₂' hwr (someOf (hit.live _ _ h0))
  have hWw : ∀ a ∈ wr, a ∉ W := fun a m mw => wrOut I hwr a m (List.mem_append_left _ mw)
  have hc := wrCell I hwr
  have kbw : ∀ {a b : Shared}, KB W s a → KB wr a b → KB W s b := fun x y => KB.wr hwr x y
  have hat : ∀ {j : Nat} {a b : Shared}, KB W a b → At j a → At j b := fun x y => hit.frame _ _ _ y fun b o f n c e => x.keep b o (ext_nW I (hfp b f n).2) n c e
  refine forGen I hwr (fun {i τ b o' e s' Q3 E' Q} q ha I' kb B hst hx hf hQ => ?_) (fun {τ s'} ha I' kb => ?_) h0 I₂ (KB.ks k₂) L
  · have key : wpAny (model c.prog c.w) A (pyNext it) (fun r s₃ => ∃ T h' tk, r = some (.ref T) ∧ s₃ = { s' with heap := h', toks := tk } ∧ KeepBut wr s'.heap h' ∧ Mid (i + 1) T { s' with heap := h', toks := tk } ∧ Holds (Fz.ext (fun a => (Ff F₀ s₀.heap (W ++ X)).ext s.heap a ∧ a ∉ wr ∧ ∃ o, s₂.heap.get? a = some o) s'.heap) h' e (.ref T)) (fun _ _ => False) s' :=
      hit.next i s' e _ _ q ha fun T h' tk q1 q2 q3 => ⟨T, h', tk, rfl, rfl, q1, q2, q3⟩
    refine wpAny_mono (wpAny_toks_of (n := s'.toks) (Nat.le_refl _) key) (fun r s₃ q => ?_) fun _ _ x => x.2.elim
    obtain ⟨t, T, h', tk, rfl, rfl, q1, q2, q3⟩ := q
    have I₃ := I'.turned q1 t hWw hc (someOf (hit.liveM _ _ _ q2)) (softK (hit.live _ _ ha) q1)
    have nwr : ∀ a ∈ wr, ¬ Ff F₀ s₀.heap (W ++ (wr ++ X)) a := fun a m => I'.nFf (List.mem_append_right _ (List.mem_append_left _ m))
    have hv : Holds (Ff F₀ s₀.heap (W ++ (wr ++ X))) h' e (.ref T) := q3.mono (fun a n f => by
      rcases f with f | f
      case inr => exact ext_Ff I' n (.inr f)
      rcases ext_Ff I n f.1 with x | ⟨x, y⟩
      · exact .inl x
      · refine .inr ⟨x, fun m => ?_⟩
        rcases List.mem_append.mp m with m | m
        · exact y (List.mem_append_left _ m)
        · rcases List.mem_append.mp m with m | m
          · exact f.2.1 m
          · exact y (List.mem_append_right _ m)) fun _ _ _ _ _ e => e
    have kb3 : KB wr s' { s' with heap := h', toks := tk } := KB.turn q1 (nfK (hit.live _ _ ha))
    refine hQ _ _ (hit.go (i + 1) elts tn tp T _ _ _ q2 fun h4 q4 a4 => ?_)
    have I₄ := I₃.turned (tk := tk) q4 (Nat.le_refl _) hWw hc (someOf (hit.live _ _ a4)) (softK (hit.liveM _ _ _ q2) q4)
    have hv4 : Holds (Ff F₀ s₀.heap (W ++ (wr ++ X))) h4 e (.ref T) := hv.mono (fun _ _ f => f) fun a o f n _ e => q4 a o (fun m => nwr a m f) e
    have kb4 : KB wr { s' with heap := h', toks := tk } { s' with heap := h4, toks := tk } := KB.turn (s := { s' with heap := h', toks := tk }) q4 (nfK (hit.liveM _ _ _ q2))
    refine wpAny_mono (assignTo (E := fun _ _ => False) B R G hst I₄ hv4 fun s₃ I₃ kb₃ => wpAny_mono (hx.run A s₀ F₀ (wr ++ X) s₃ R G (g.kb ((kbw (kbw kb kb3) kb4).trans kb₃)) I₃) (fun f s₄ z => ?_) fun _ _ x => x.elim) (fun _ _ x => x) fun _ _ x => x.elim
    exact hf f s₄ z.1 (hat z.2 (hat kb₃ a4)) (((kbw (kbw kb kb3) kb4).trans kb₃).trans z.2)
  · have key : wpAny (model c.prog c.w) A (pyNext it) (fun r s₂ => ∃ h' tk, r = none ∧ s₂ = { s' with heap := h', toks := tk } ∧ KeepBut wr s'.heap h') (fun _ _ => False) s' :=
      hit.done s' _ _ ha fun h' tk q1 => ⟨h', tk, rfl, rfl, q1⟩
    refine wpAny_mono (wpAny_toks_of (n := s'.toks) (Nat.le_refl _) key) (fun r s₂ q => ?_) fun _ _ x => x.2.elim
    obtain ⟨t, h', tk, rfl, rfl, q1⟩ := q
    exact ⟨rfl, I.close I' q1 t (wrOut I hwr) hc (softK (hit.live _ _ ha) q1), kbw kb (KB.turn q1 (nfK (hit.live _ _ ha)))⟩
end
end Mine
end
section
open PySem PySem.Calls PySem.W
namespace Mine
variable [iO : Old]
noncomputable def enumFrom : Nat → List PyData → List Ent
  | _, [] => []
  | n, d :: r => .d (.tuple [.int n, d]) :: enumFrom (n + 1) r
theorem enumFrom_get : ∀ {ds : List PyData} {n i : Nat} {e : Ent}, (enumFrom n ds)[i]? = some e → ∃ d, ds[i]? = some d ∧ e = .d (.tuple [.int ((n + i : Nat) : Int), d]) := by
  intro ds
  induction ds with
  | nil => intro n i e h; injection h
  | cons d r ih =>
    intro n i e h
    cases i with
    | zero => exact ⟨d, rfl, (Option.some.inj h).symm⟩
    | succ i =>
      obtain ⟨d', h1, h2⟩ := ih (n := n + 1) h
      exact ⟨d', h1, by rw [h2, show n + 1 + i = n + (i + 1) by lia]⟩
theorem enumFrom_len (n : Nat) (ds : List PyData) : (enumFrom n ds).length = ds.length := by
  induction ds generalizing n with
  | nil => rfl
  | cons d r ih => exact congrArg Nat.succ (ih (n + 1))
theorem enum_iter {prog : Program} {w : World} {A : Around} {E : Value → Shared → Prop} {s : Shared} {e it : Addr} {i : Int} {old : Value} {Q : Value → Shared → Prop} (he : IsEnum s.heap e it i old) (hQ : Q (.ref e) s) : wpAny (model prog w) A (pyIter (.ref e)) Q E s := by
  have hT : s.TypeIs (.ref e) "enumerate" := ⟨_, he, rfl⟩
  refine wpAny_pyIter_slot hT F.slot_enumerate_iter (wpAny_call_entry F.slot_enumerate_iter hT F.entry_enumerate_iter ?_ (F.args_enumerate_iter_1 _))
  show wpAny _ _ (ret (.ref e)) _ _ s
  exact wpAny_pure ⟨_, rfl, "enumerate", _, hT, F.slot_enumerate_next.lookup, hQ⟩
section
variable {c : Cx} {k : Nat}
theorem iterEnum {A : Around} (hh : A.handled = none) {G : Fz} {e it l : Addr} {vs : List Value} {ds : List PyData} (hne : e ≠ it) (hl1 : l ≠ it) (hl2 : l ≠ e) (n1 : e ≠ tab0) (n2 : it ≠ tab0) (n3 : l ≠ tab0) (hG : ∀ a, G a → a ≠ it ∧ a ≠ e) (hte : tab0 < e) (hl : vs.length = ds.length) :
    Iter2 c A G (fun b => b = it ∨ b = e ∨ b = l ∨ G b) (.ref e) [it, e] (enumFrom 0 ds) (fun i s => (∃ old, IsEnum s.heap e it i old) ∧ s.heap.IsListIter it l i ∧ s.heap.IsList l vs.toArray ∧ RepAll G s.heap vs ds)
      (fun i T s => (∃ item, IsEnumOut s.heap e it i item T) ∧ s.heap.IsListIter it l i ∧ s.heap.IsList l vs.toArray ∧ RepAll G s.heap vs ds) where
  next := fun i s en Q E he P hQ => by
    obtain ⟨⟨old, a0⟩, a1, a2, a3⟩ := P
    obtain ⟨d, hd, rfl⟩ := enumFrom_get he
    obtain ⟨x, hx, hr⟩ := a3.get hd
    refine wpAny_pyNext_enum_item a0 a1 a2 (x := x) (by simpa using hx) hne fun h' b0 b1 b2 b3 b4 => ?_
    have kp : ∀ b o, G b → b ≠ tab0 → NFr o → s.heap.get? b = some o → h'.get? b = some o := fun b o g _ _ e => b4 b o (hG b g).2 (hG b g).1 e
    have hT : e < s.heap.objs.size := Heap.lt_size a0
    refine hQ s.heap.objs.size h' (s.toks + 1) (fun b o hb q => b4 b o (fun z => hb (by simp [z])) (fun z => hb (by simp [z])) q) ⟨⟨x, b0⟩, b1, a2.at fun o q => b4 l o hl2 hl1 q, a3.mono (fun _ _ f => f) kp⟩ ?_
    refine Rep.mkTuple (vs := [.int i s.toks, x]) (.inr (size_none _)) (Nat.ne_of_gt (Nat.lt_trans hte hT)) ⟨_, b2, rfl, 0, rfl⟩ ?_
    have e0 : (((0 + i : Nat) : Int)) = (i : Int) := by simp
    rw [e0]
    exact .cons (.int _ _) (.cons (hr.mono (fun _ _ f => .inl f) kp) .nil)
  done := fun s Q E P hQ => by
    obtain ⟨⟨old, a0⟩, a1, a2, a3⟩ := P
    exact wpAny_pyNext_enum_end hh a0 a1 a2 (by simp [enumFrom_len, hl]) fun h' he' => hQ h' s.toks fun b o hb e => he' b o (fun z => hb (by simp [z])) e
  frame := fun i s s' P hk => by
    obtain ⟨⟨old, a0⟩, a1, a2, a3⟩ := P
    exact ⟨⟨old, hk e _ (.inr (.inl rfl)) n1 (nfr_of (T := "enumerate") rfl) a0⟩, li_nf a1 fun o c q => hk it o (.inl rfl) n2 c q, l_nf a2 fun o c q => hk l o (.inr (.inr (.inl rfl))) n3 c q, a3.mono (fun _ _ f => f) fun a o g n c q => hk a o (.inr (.inr (.inr g))) n c q⟩
  live := fun i s P b hb => by
    obtain ⟨⟨old, a0⟩, a1, _, _⟩ := P
    rcases List.mem_cons.mp hb with rfl | hb
    · exact li_soft a1
    · rw [List.mem_singleton.mp hb]; exact ⟨_, a0, .inr ⟨show Value.type "enumerate" ≠ Value.type "code" by decide, show Value.type "enumerate" ≠ Value.none by decide⟩, nfr_of (T := "enumerate") rfl⟩
  liveM := fun i T s P b hb => by
    obtain ⟨⟨old, a0⟩, a1, _, _⟩ := P
    rcases List.mem_cons.mp hb with rfl | hb
    · exact li_soft a1
    · rw [List.mem_singleton.mp hb]; exact ⟨_, a0, .inr ⟨show Value.type "enumerate" ≠ Value.type "code" by decide, show Value.type "enumerate" ≠ Value.none by decide⟩, nfr_of (T := "enumerate") rfl⟩
  go := by
    intro i elts q p T s Q E P hQ
    obtain ⟨⟨item, a0⟩, a1, a2, a3⟩ := P
    exact wpAny_letOwnedTupleGo_enum a0 fun h' he' hs' => hQ h' (fun b o hb e => hs'.extBut b o (fun z => hb (by simp [z])) e)
      ⟨⟨item, he'⟩, a1.at fun o q => hs'.extBut it o (Ne.symm hne) q, a2.at fun o q => hs'.extBut l o hl2 q, a3.mono (fun _ _ f => f) fun a o g _ _ q => hs'.extBut a o (hG a g).2 q⟩
  theorem SrcX2.enum {env : Env} {σ : Loc} {x : PySem.Expr} {p q : Pos} {ds : List PyData} (hf : Ev c k env σ (.Name "enumerate" q) (.v (.type "enumerate"))) (h : Ev c k env σ x (.d (.list ds))) (nx : ∀ y p, x ≠ .Starred y p := by intro _ _ h; cases h) :
      SrcX2 c k env σ (.Call (.Name "enumerate" q) [x] [] p) (enumFrom 0 ds) := by
    refine ⟨fun A F s R G g L => ?_, fun _ => rfl⟩
    refine PyProof.Rows.Call_ ((hf.run A F s R G g L).use fun fv s₁ k₁ t₁ h₁ => ?_)
    obtain rfl : fv = .type "enumerate" := h₁
    have hs : starEach [x] env = [(false, eval x env)] := by rw [star_cons nx]; rfl
    refine callWith_type (by rw [hs]; rfl) ?_
    rw [hs]
    refine evalArgs_plain (spliced_cons ((h.run A F s₁ R G (g.ks k₁ t₁) (L.kp k₁.kp)).use fun v s₂ k₂ t₂ h₂ => spliced_nil ?_))
    obtain ⟨l, vs, rfl, f, n, hl, r⟩ := h₂.isList
    have g₂ := (g.ks k₁ t₁).ks k₂ t₂
    have k12 := k₁.trans k₂
    refine call_enumerate_list hl fun h' b0 b1 b2 b3 => ?_
    refine enum_iter (s := { s₂ with heap := h' }) b0 ?_
    have k3 : Ks s { s₂ with heap := h' } := k12.trans (Ks.mk (tk := s₂.toks) (Kp.of b3))
    have hx : ∃ o, s₂.heap.get? l = some o := by obtain ⟨o, e, _⟩ := hl; exact ⟨o, e⟩
    have hll : l < s₂.heap.objs.size := by obtain ⟨o, e⟩ := hx; exact Heap.lt_size e
    have htb : tab0 < s₂.heap.objs.size := by obtain ⟨o, e⟩ := g₂.tab.ex; exact Heap.lt_size e
    have fr : ∀ a, s₂.heap.objs.size ≤ a → s.heap.get? a = none ∧ a ≠ tab0 := fun a ha => beyond k12 g₂ ha
    have e1 : s₂.heap.objs.size + 1 ≠ s₂.heap.objs.size := Nat.succ_ne_self _
    refine ⟨k3, [s₂.heap.objs.size, s₂.heap.objs.size + 1], _, _, _, fun a ha => ?_, iterEnum (l := l) (vs := vs) R.1 e1 (Nat.ne_of_lt hll) (Nat.ne_of_lt (Nat.lt_succ_of_lt hll)) (fr _ (Nat.le_succ _)).2 (fr _ (Nat.le_refl _)).2 n (fun a q => ⟨fun z => q.2.1 (by simp [z]), fun z => q.2.1 (by simp [z])⟩) (Nat.lt_succ_of_lt htb) r.length, ⟨⟨_, b0⟩, b1, hl.at fun o e => b3 _ _ e, ?_⟩, ?_⟩
    · rcases List.mem_cons.mp ha with rfl | ha
      · exact fr _ (Nat.le_refl _)
      · rw [List.mem_singleton.mp ha]; exact fr _ (Nat.le_succ _)
    · have ra : RepAll (alive ((F.ext s₁.heap)) s₂.heap) s₂.heap vs ds := r.alive
      refine ra.mono (fun a na q => ⟨Fz.ext_kp k₁.kp na q.1, fun m => ?_, ?_⟩) fun a o _ _ _ e => b3 a o e
      · obtain ⟨o, e⟩ := q.2
        have := Heap.lt_size e
        rcases List.mem_cons.mp m with z | m
        · rw [z] at this; exact Nat.lt_irrefl _ this
        · rw [List.mem_singleton.mp m] at this; exact absurd this (Nat.not_lt.mpr (Nat.le_succ _))
      · obtain ⟨o, e⟩ := q.2; exact ⟨o, b3 _ _ e⟩
    · rintro b (rfl | rfl | rfl | q) nb
      · exact ⟨(by obtain ⟨o, e, _⟩ := b1; exact ⟨o, e⟩), .inr (fr _ (Nat.le_refl _)).1⟩
      · exact ⟨⟨_, b0⟩, .inr (fr _ (Nat.le_succ _)).1⟩
      · exact ⟨(by obtain ⟨o, e⟩ := hx; exact ⟨o, b3 _ _ e⟩), Fz.ext_kp k₁.kp nb f⟩
      · exact ⟨q.2.2, q.1⟩
  end
end Mine
end
section
open PySem PySem.Calls PySem.W
namespace Mine
variable [iO : Old]
theorem Ex1.weak {c : Cx} {k : Nat} {env : Env} {W : List Addr} {σ : Loc} {st : Stmt} {τ τ' : Loc} (h : Ex1 c k env W σ st (.next τ)) (hs : ∀ x e, τ'.lookup x = some e → τ.lookup x = some e) : Ex1 c k env W σ st (.next τ') :=
  ⟨fun A s₀ F₀ X s R G g I => wpAny_mono (h.run A s₀ F₀ X s R G g I) (fun _ _ q => ⟨⟨q.1.1, q.1.2.sub hs⟩, q.2⟩) fun _ _ x => x⟩
noncomputable def keepc (c : Str) : Bool := ((c.length : Int) != 0) && (!(c == ".") && true)
noncomputable def compsOf (p : Str) : List Str := (Txt.split p "/").filter keepc
noncomputable def commonGo : List Str → List Str → List Str
  | x :: xs, y :: ys => if x == y then x :: commonGo xs ys else []
  | _, _ => []
noncomputable def okp : List Str → List Str → Bool
  | x :: xs, y :: ys => !(x == y) || okp xs ys
  | _ :: _, [] => false
  | [], _ => true
noncomputable def commonOf (p q : Str) : List Str := commonGo (min2 (compsOf p) (compsOf q)) (max2 (compsOf p) (compsOf q))
noncomputable def commonTxt (p q : Str) : Str := "/" ++ Txt.join "/" (commonOf p q)
noncomputable abbrev icB (x : Str) (n : Nat) : Loc := [("c", .d (.str x)), ("i", .d (.int n))]
theorem commonGo_cc {x y : Str} {xs ys : List Str} : commonGo (x :: xs) (y :: ys) = if x == y then x :: commonGo xs ys else [] := rfl
theorem okp_cc {x y : Str} {xs ys : List Str} : okp (x :: xs) (y :: ys) = (!(x == y) || okp xs ys) := rfl
theorem commonLoop {c : Cx} {k : Nat} {env : Env} {W : List Addr} {pi px tp : Pos} {tn : Nat} {body : List Stmt} {s1 s2 : List Str} {σb : Loc} {Fin : Loc → List Str → Prop} (hi : CanStore env W "i") (hc : CanStore env W "c") (ni : σb.lookup ("i" : Str) = none) (nc : σb.lookup ("c" : Str) = none)
    (hgo : ∀ (σ : Loc) (n : Nat) x, (∀ y e, σb.lookup y = some e → σ.lookup y = some e) → s1[n]? = some x → s2[n]? = some x → Ex c k env W (icB x n ++ σ) body (.next (icB x n ++ σ)))
    (hstop : ∀ (σ : Loc) (n : Nat) x z, (∀ y e, σb.lookup y = some e → σ.lookup y = some e) → s1[n]? = some x → s2[n]? = some z → x ≠ z → ∃ σ', Ex c k env W (icB x n ++ σ) body (.brk σ') ∧ Fin σ' (s1.take n))
    (hend : ∀ σ : Loc, (∀ y e, σb.lookup y = some e → σ.lookup y = some e) → Fin σ s1) :
    ∀ (xs ys : List Str) (n : Nat) (σ : Loc), s1.drop n = xs → s2.drop n = ys → okp xs ys = true → (∀ y e, σb.lookup y = some e → σ.lookup y = some e) → ∃ σ', LoopR c k env W (.Tuple [.Name "i" pi, .Name "c" px] tn tp) body (enumFrom n (xs.map .str)) σ (.next σ') ∧ Fin σ' (s1.take n ++ commonGo xs ys) := by
  intro xs
  induction xs with
  | nil =>
    intro ys n σ h1 h2 ho hb
    refine ⟨σ, .done, ?_⟩
    have : s1.take n = s1 := List.take_of_length_le (List.drop_eq_nil_iff.mp h1)
    have e : commonGo [] ys = [] := by cases ys <;> rfl
    rw [e, List.append_nil, this]
    exact hend σ hb
  | cons x xs ih =>
    intro ys n σ h1 h2 ho hb
    obtain _ | ⟨y, ys⟩ := ys
    · injection ho
    have g1 : s1[n]? = some x := by
      have := congrArg (fun l => l[0]?) h1
      simpa using this
    have g2 : s2[n]? = some y := by
      have := congrArg (fun l => l[0]?) h2
      simpa using this
    have hst : ∀ p ∈ icB x n, CanStore env W p.1 := fun p hp => by
      rcases List.mem_cons.mp hp with rfl | hp
      · exact hc
      · rw [List.mem_singleton.mp hp]; exact hi
    by_cases e : x = y
    · subst e
      have d1 : s1.drop (n + 1) = xs := by rw [← List.drop_drop, h1]; rfl
      have d2 : s2.drop (n + 1) = ys := by rw [← List.drop_drop, h2]; rfl
      have ho' : okp xs ys = true := by rw [okp_cc, beq_self_eq_true] at ho; exact ho
      obtain ⟨σ', L, F⟩ := ih ys (n + 1) (icB x n ++ σ) d1 d2 ho' (fun y e he => by
        rw [List.lookup_append]
        have : List.lookup y (icB x n) = none := by
          refine lookup_none fun m => ?_
          rcases List.mem_cons.mp m with rfl | m
          · rw [nc] at he; injection he
          · rw [List.mem_singleton.mp m, ni] at he; injection he
        rw [this]; exact hb y e he)
      refine ⟨σ', .next .two hst (hgo σ n x hb g1 g2) L, ?_⟩
      have e1 : s1.take (n + 1) = s1.take n ++ [x] := by rw [List.take_add_one, g1]; rfl
      have e2 : commonGo (x :: xs) (x :: ys) = x :: commonGo xs ys := by rw [commonGo_cc, if_pos (beq_self_eq_true x)]
      rw [e2]
      rw [e1, List.append_assoc] at F
      exact F
    · obtain ⟨σ', hx, F⟩ := hstop σ n x y hb g1 g2 e
      refine ⟨σ', .brk .two hst hx, ?_⟩
      have e2 : commonGo (x :: xs) (y :: ys) = [] := by rw [commonGo_cc, if_neg fun z => e (eq_of_beq z)]
      rw [e2, List.append_nil]; exact F
theorem Ex1.forCommon {c : Cx} {k : Nat} {env : Env} {W : List Addr} {σ : Loc} {pi px tp p : Pos} {tn : Nat} {iter : PySem.Expr} {body : List Stmt} {s1 s2 : List Str} {σb : Loc} {τ' : List Str → Loc} (hs : SrcX2 c k env σ iter (enumFrom 0 (s1.map .str))) (hi : CanStore env W "i") (hc : CanStore env W "c") (ni : σb.lookup ("i" : Str) = none) (nc : σb.lookup ("c" : Str) = none)
    (hb : ∀ y e, σb.lookup y = some e → σ.lookup y = some e)
    (hgo : ∀ (σ : Loc) (n : Nat) x, (∀ y e, σb.lookup y = some e → σ.lookup y = some e) → s1[n]? = some x → s2[n]? = some x → Ex c k env W (icB x n ++ σ) body (.next (icB x n ++ σ)))
    (hstop : ∀ (σ : Loc) (n : Nat) x z, (∀ y e, σb.lookup y = some e → σ.lookup y = some e) → s1[n]? = some x → s2[n]? = some z → x ≠ z → ∃ σ', Ex c k env W (icB x n ++ σ) body (.brk σ') ∧ ∀ y e, (τ' (s1.take n)).lookup y = some e → σ'.lookup y = some e)
    (hend : ∀ σ : Loc, (∀ y e, σb.lookup y = some e → σ.lookup y = some e) → ∀ y e, (τ' s1).lookup y = some e → σ.lookup y = some e) (ho : okp s1 s2 = true) :
    Ex1 c k env W σ (.For (.Tuple [.Name "i" pi, .Name "c" px] tn tp) iter body [] p) (.next (τ' (commonGo s1 s2))) := by
  obtain ⟨σ', L, F⟩ := commonLoop (pi := pi) (px := px) (tp := tp) (tn := tn) (Fin := fun σ' l => ∀ y e, (τ' l).lookup y = some e → σ'.lookup y = some e) hi hc ni nc hgo hstop hend s1 s2 0 σ rfl rfl ho hb
  exact Ex1.weak (Ex1.for2 hs L) (by simpa using F)
structure SplitOk (p : Str) : Prop where
  hs : p.length ≤ 1000
  hp : (Builtin.Str.partsBetween p (Builtin.Str.occurrences p "/" 0 p.length (p.length + 1)) (("/" : Str).length)).length ≤ 1000
  hc : (Txt.split p "/").length ≤ 500
  hcl : ∀ c ∈ Txt.split p "/", c.length ≤ 1000
  ha : Txt.startswith p "/" = true
structure CommonOk (p q : Str) : Prop where
  hp : SplitOk p
  hq : SplitOk q
  hk : okp (min2 (compsOf p) (compsOf q)) (max2 (compsOf p) (compsOf q)) = true
  hj : JoinOk "/" (commonOf p q) = true
  hjl : (Txt.join "/" (commonOf p q)).length ≤ 1000
theorem commonpath_c (w : World) (k : Nat) (p q : Str) (h : CommonOk p q) : FnC (cx w) (k + 4) (.ref 201) [.d (.list [.str p, .str q])] (.d (.str (commonTxt p q))) := by
  have hS := sizeLine_eq
  have hsp : ∀ x ∈ [p, q], SplitOk x := fun x hx => by
    rcases List.mem_cons.mp hx with rfl | hx
    · exact h.hp
    · rw [List.mem_singleton.mp hx]; exact h.hq
  refine' FnOk.plain (ns := ["paths"]) ?ok rfl ?hx (binds1 ?hb)
  case ok => (refine' ⟨⟨_, rfl, rfl⟩, rfl, rfl, rfl, rfl, rfl, rfl, rfl, rfl, _, _, _, _⟩ <;> decide)
  case hb => intro v; rfl
  intro env W T
  refine Ex.cons (Ex1.assign (Ev.tupleMap (es := [.str p, .str q]) (Ev.biT T rfl rfl rfl) (Ev.biT T rfl rfl rfl) (Ev.globT T rfl rfl) (Ev.name rfl) rfl ?hc (by show 2 ≤ _; lia)) (T.store (by decide))) ?_
  case hc =>
    intro i d e hd he
    match i, hd, he with
    | 0, hd, he => cases hd; cases he; exact fspath_c w _ _
    | 1, hd, he => cases hd; cases he; exact fspath_c w _ _
    | n + 2, hd, _ => simp at hd
  refine Ex.cons (Ex1.ite (v := false) (EvB.not (EvB.plain (Ev.name rfl) (Tru.tuple (xs := [.str p, .str q]) (by show (2 : Int) < 2 ^ 63; decide)))) (fun h => nomatch h) (fun _ => Ex.nil)) ?_
  refine Ex.cons (Ex1.ite (v := false) (isBytes (x := p) (Ev.biT T rfl rfl rfl) (Ev.idxTup (n := 0) (Ev.name rfl) Ev.cint (by decide) (by decide) rfl) (Ev.biT T rfl rfl rfl)) (fun h => nomatch h) (fun _ => Ex.cons (Ex1.assign Ev.cstr (T.store (by decide))) (Ex.one (Ex1.assign Ev.cstr (T.store (by decide)))))) ?_
  refine Ex.one (Ex1.try ?_)
  refine Ex.cons (Ex1.assignComp (ds := [p, q].map fun x => encRow (Txt.split x "/")) T (by constructor <;> decide) (SrcX.tuple (ds := [.str p, .str q]) (Ev.name rfl)) (by decide) (T.store (by decide)) (fun cenv W' Tc => CompR.mapR (as := [p, q]) (ent := fun x => .d (.str x)) (bnd := fun x => [("path", .d (.str x))]) (fun _ _ => .name) (fun x hx => ?c1)) (by show 2 ≤ _; lia) (swaps_list T rfl rfl rfl)) ?_
  case c1 =>
    have := hsp x hx
    exact Ev.split (Ev.name rfl) (Ev.name rfl) rfl (by have := this.hs; lia) (by have := this.hp; lia)
  refine Ex.cons (Ex1.try (Ex.one (Ex1.setUnpack T (by constructor <;> decide) (SrcX.tuple (ds := [.str p, .str q]) (Ev.name rfl)) (by decide) (T.store (by decide)) (fun cenv W' Tc e he => ?c2) (by simp)))) ?_
  case c2 =>
    have : ∃ x ∈ [p, q], e = .d (.str x) := by
      rcases List.mem_cons.mp he with rfl | he
      · exact ⟨p, by simp, rfl⟩
      · rw [List.mem_singleton.mp he]; exact ⟨q, by simp, rfl⟩
    obtain ⟨x, hx, rfl⟩ := this
    exact ⟨_, .name, (Ev.startswith (Ev.name rfl) (Ev.name rfl)).eq (by rw [(hsp x hx).ha])⟩
  refine Ex.cons (Ex1.assignComp (ds := [p, q].map fun x => encRow (compsOf x)) T (by constructor <;> decide) (SrcX.listMap (f := fun x => encRow (Txt.split x "/")) (xs := [p, q]) (Ev.name rfl)) (by decide) (T.store (by decide)) (fun cenv W' Tc => CompR.mapR (as := [p, q]) (ent := fun x => .d (encRow (Txt.split x "/"))) (bnd := fun x => [("s", .d (encRow (Txt.split x "/")))]) (fun _ _ => .name) (fun x hx => ?c3)) (by show 2 ≤ _; lia) (swaps_list T rfl rfl rfl)) ?_
  case c3 =>
    have hx' := hsp x hx
    refine Ev.comp Tc (by constructor <;> decide) (SrcX.listMap (f := .str) (xs := Txt.split x "/") (Ev.name rfl)) (by decide) (fun cenv2 W2 Tc2 => CompR.gen (as := Txt.split x "/") (ent := fun c => .d (.str c)) (bnd := fun c => [("c", .d (.str c))]) (f := keepc) (g := .str) (fun _ _ => .name) (fun c hc => .one ?_) (fun c _ _ => Ev.name rfl)) (by rw [List.length_map]; have : (compsOf x).length ≤ 500 := Nat.le_trans (List.length_filter_le _ _) hx'.hc; show (compsOf x).length ≤ _; lia)
    exact EvB.and (EvB.plain (Ev.name rfl) (Tru.str (by have := hx'.hcl c hc; lia))) (fun _ => EvB.and (EvB.cmp (Ev.name rfl) (Ev.name rfl) Op2.neStr) (fun _ => EvB.and_nil))
  refine Ex.cons (Ex1.assign (Ev.call (Ev.biT T rfl rfl rfl) (.inl ⟨_, rfl⟩) (EvAll.one (Ev.name rfl)) (FnC.min2 (a := compsOf p) (b := compsOf q))) (T.store (by decide))) ?_
  refine Ex.cons (Ex1.assign (Ev.call (Ev.biT T rfl rfl rfl) (.inl ⟨_, rfl⟩) (EvAll.one (Ev.name rfl)) (FnC.max2 (a := compsOf p) (b := compsOf q))) (T.store (by decide))) ?_
  refine Ex.cons (Ex1.assign (Ev.name rfl) (T.store (by decide))) ?_
  have hlen : ∀ x ∈ [p, q], (compsOf x).length ≤ 500 := fun x hx => Nat.le_trans (List.length_filter_le _ _) (hsp x hx).hc
  have hl1 : (min2 (compsOf p) (compsOf q)).length ≤ 500 := by
    unfold min2; split
    · exact hlen q (by simp)
    · exact hlen p (by simp)
  have hres : commonTxt p q = "/" ++ Txt.join "/" (commonGo (min2 (compsOf p) (compsOf q)) (max2 (compsOf p) (compsOf q))) := rfl
  have hj := h.hj
  have hjl := h.hjl
  unfold commonOf at hj hjl
  have hk := h.hk
  rw [hres]
  generalize min2 (compsOf p) (compsOf q) = s1 at *
  generalize max2 (compsOf p) (compsOf q) = s2 at *
  refine Ex.cons (Ex1.forCommon (s1 := s1) (s2 := s2) (σb := [("common", .d (encRow s1)), ("s1", .d (encRow s1)), ("s2", .d (encRow s2)), ("isabs", .d (.bool true)), ("sep", .d (.str "/"))]) (τ' := fun l => [("common", .d (encRow l)), ("isabs", .d (.bool true)), ("sep", .d (.str "/"))]) (SrcX2.enum (ds := s1.map .str) (Ev.biT T rfl rfl rfl) (Ev.name rfl)) (T.store (by decide)) (T.store (by decide)) rfl rfl ?base ?go ?stop ?fin hk) ?_
  case base =>
    refine subList fun p hp => ?_
    rcases List.mem_cons.mp hp with rfl | hp
    · rfl
    rcases List.mem_cons.mp hp with rfl | hp
    · rfl
    rcases List.mem_cons.mp hp with rfl | hp
    · rfl
    rcases List.mem_cons.mp hp with rfl | hp
    · rfl
    rw [List.mem_singleton.mp hp]; rfl
  case go =>
    intro σ n x hb g1 g2
    have hn : (n : Int) < 2 ^ 63 := by have := (List.getElem?_eq_some_iff.mp g1).1; lia
    have h2 : (icB x n ++ σ).lookup ("s2" : Str) = some (.d (encRow s2)) := hb "s2" _ rfl
    exact Ex.one (Ex1.ite (v := false) ((EvB.cmp (Ev.name rfl) (Ev.idx (n := n) (d := .str x) (Ev.name h2) (Ev.name rfl) (by lia) hn (by rw [Int.toNat_natCast, List.getElem?_map, g2]; rfl)) Op2.neStr).eq (by simp)) (fun h => nomatch h) (fun _ => Ex.nil))
  case stop =>
    intro σ n x z hb g1 g2 hne
    have hn : (n : Int) < 2 ^ 63 := by have := (List.getElem?_eq_some_iff.mp g1).1; lia
    have h2 : (icB x n ++ σ).lookup ("s2" : Str) = some (.d (encRow s2)) := hb "s2" _ rfl
    have h1 : (icB x n ++ σ).lookup ("s1" : Str) = some (.d (encRow s1)) := hb "s1" _ rfl
    refine ⟨("common", .d (encRow (s1.take n))) :: (icB x n ++ σ), Ex.one (Ex1.ite (v := true) ((EvB.cmp (Ev.name rfl) (Ev.idx (n := n) (d := .str z) (Ev.name h2) (Ev.name rfl) (by lia) hn (by rw [Int.toNat_natCast, List.getElem?_map, g2]; rfl)) Op2.neStr).eq (by simp [hne])) (fun _ => Ex.cons (Ex1.assign (Ev.uptoMap (n := n) (xs := s1) (Ev.name h1) (Ev.name rfl) (by lia)) (T.store (by decide))) (Ex.one Ex1.brk)) (fun h => nomatch h)), subList fun p hp => ?_⟩
    rcases List.mem_cons.mp hp with rfl | hp
    · rfl
    rcases List.mem_cons.mp hp with rfl | hp
    · exact hb "isabs" _ rfl
    rw [List.mem_singleton.mp hp]; exact hb "sep" _ rfl
  case fin =>
    intro σ hb
    refine subList fun p hp => ?_
    rcases List.mem_cons.mp hp with rfl | hp
    · exact hb "common" _ rfl
    rcases List.mem_cons.mp hp with rfl | hp
    · exact hb "isabs" _ rfl
    rw [List.mem_singleton.mp hp]; exact hb "sep" _ rfl
  refine Ex.cons (Ex1.assign (Ev.ifExp (v := true) (EvB.plain (Ev.name rfl) Tru.bool) (fun _ => Ev.name rfl) (fun h => nomatch h)) (T.store (by decide))) ?_
  exact Ex.one (Ex1.ret (Ev.bin (Ev.name rfl) (Ev.join (Ev.name rfl) (Ev.name rfl) hj) (Op2.addStr (by show 1 + _ ≤ _; lia))))
end Mine
end
section
open PySem PySem.Calls PySem.W
namespace Mine
variable [iO : Old]
noncomputable def filtOut (a b : List Str) : List Str := a.filter fun x => !(b.any (· == x))
noncomputable def coveredOf (kepts : List (List Str)) (path : Str) : List (List Str) :=
  let last := kepts.getLast?.getD []
  if (last.filter fun one => (commonTxt path one == one)).isEmpty then kepts ++ [filtOut last (last.filter fun one => (commonTxt path one == path)) ++ [path]] else kepts ++ [last]
structure CovOk (kepts : List (List Str)) (path : Str) : Prop where
  hn : kepts ≠ []
  hl : kepts.length ≤ 100
  hll : (kepts.getLast?.getD []).length ≤ 100
  hc : ∀ one ∈ kepts.getLast?.getD [], CommonOk path one ∧ PyData.strOk one = true
theorem lastRow {acc : List (List Str)} (h : acc ≠ []) : (acc.map encRow)[((-1 : Int) + (acc.map encRow).length).toNat]? = some (encRow (acc.getLast?.getD [])) := by
  have hl := List.length_pos_iff.mpr h
  have e : ((-1 : Int) + (acc.map encRow).length).toNat = acc.length - 1 := by rw [List.length_map]; lia
  rw [e, List.getElem?_map, ← List.getLast?_eq_getElem?, List.getLast?_eq_some_getLast h]; rfl
theorem Ev.lastOf {c : Cx} {k : Nat} {env : Env} {σ : Loc} {x : Str} {p1 p2 p3 p4 : Pos} {m : Nat} {kepts : List (List Str)} (hx : σ.lookup x = some (.d (encRows kepts))) (hn : kepts ≠ []) (h1 : (x == ("__debug__" : Str)) = false) (h2 : (x == ("__classdict__" : Str)) = false) :
    Ev c k env σ (.Subscript (.Name x p1) (.UnaryOp .USub (.Constant (.int 1) m p2) p3) p4) (.d (encRow (kepts.getLast?.getD []))) :=
  Ev.idxNeg (Ev.name hx h1 h2) (Ev.un Ev.cint Op1.negInt) (by decide) (by have := List.length_pos_iff.mpr hn; rw [List.length_map]; lia) (by decide) (lastRow hn)
end Mine
end
section
open PySem PySem.Calls PySem.W
namespace Mine
variable [iO : Old]
section
variable {c : Cx} {k : Nat} {env : Env} {W : List Addr} {σ : Loc} {o : Out}
end
end Mine
end
section
open PySem PySem.Calls PySem.W
namespace Mine
variable [iO : Old]
namespace IF
theorem kind_iter : builtinKind "iter" = none := by decide +kernel
theorem plain_iter : plainId "iter" = true := by decide +kernel
theorem entry_iter : entryFor table "iter" = some Builtin.«iter» := entryFor_of_tree (by kernel_rfl)
theorem args_iter (a : Value) : argsOk "iter" ⟨[a], []⟩ := by unfold argsOk; kernel_rfl
end IF
section
variable {prog : Program} {w : World} {A : Around} {E : Value → Shared → Prop} {s : Shared}
theorem call_iter {x : Value} {Q : Value → Shared → Prop} (h : wpAny (model prog w) A.in1 (pyIter x) Q E s) : wpAny (model prog w) A (call (.builtin "iter") [x]) Q E s := by
  refine call_function_entry IF.kind_iter IF.plain_iter IF.entry_iter (IF.args_iter _) ?_
  unfold Builtin.«iter»
  refine wpAny_bind (wpAny_of_eq (a := [x]) (by first | rfl | kernel_rfl) ?_)
  show wpAny _ _ (pyIter x >>= _) _ _ _
  exact wpAny_bind (wpAny_mono h (fun v s' q => wpAny_pure ⟨v, rfl, q⟩) fun _ _ x => x)
end
section
variable {c : Cx} {k : Nat} {env : Env} {W : List Addr} {σ σ' : Loc} {o : Out}
theorem Ex.iterThen {x : Str} {px pf p1 p2 p3 pt : Pos} {seq tgt : PySem.Expr} {mid : Stmt} {body : List Stmt} {ds : List PyData} {ss : List Stmt} {σ'' : Loc} (hf : Ev c k env σ (.Name "iter" pf) (.v (.builtin "iter"))) (hs : Ev c k env σ seq (.d (.list ds))) (hk : CanStore env W x)
    (hm : ∀ l, Ex1 c k env W ((x, .v (.ref l)) :: σ) mid (.next ((x, .v (.ref l)) :: σ')))
    (hL : ∀ l, LoopR c k env W tgt body (ds.map .d) ((x, .v (.ref l)) :: σ') (.next ((x, .v (.ref l)) :: σ'')))
    (rest : ∀ l, Ex c k env W ((x, .v (.ref l)) :: σ'') ss o) (ns : ∀ y p, seq ≠ .Starred y p := by intro _ _ h; cases h) (hd : (x == ("__debug__" : Str)) = false := by decide) (hcd : (x == ("__classdict__" : Str)) = false := by decide) :
    Ex c k env W σ (.Assign [.Name x px] (.Call (.Name "iter" pf) [seq] [] p1) p2 :: mid :: .For tgt (.Name x pt) body [] p3 :: ss) o := by
  constructor; intro A s₀ F₀ X s R G g I
  refine wpAny_execs_cons (wpAny_Assign_Name ?_ rfl)
  refine PyProof.Rows.Call_ (hf.here R G g I fun fv s₁ I₁ h₁ k₁ t₁ => ?_)
  obtain rfl : fv = .builtin "iter" := h₁
  have hst : starEach [seq] env = [(false, eval seq env)] := by rw [star_cons ns]; rfl
  refine callWith_builtin (by rw [hst]; rfl) ?_
  rw [hst]
  refine evalArgs_plain (spliced_cons (hs.here R G (g.ks k₁) I₁ fun v s₂ I₂ h₂ k₂ t₂ => spliced_nil ?_))
  obtain ⟨l, vs, rfl, f, n, hl, r⟩ := h₂.isList
  refine call_iter (wpAny_pyIter_list hl ?_)
  have gs₂ := (g.ks k₁).ks k₂
  have g₂ := I₂.gd gs₂
  generalize hI : s₂.heap.objs.size = it
  generalize hH : s₂.heap.push { cls := .type "list_iterator", data := .fields #[.ref l, .int 0 0] } = H
  have kk : ∀ b o, s₂.heap.get? b = some o → H.get? b = some o := fun b o e => by rw [← hH]; exact Heap.get?_push_of_some _ e
  have k3 : Ks s₂ { s₂ with heap := H } := Ks.mk (tk := s₂.toks) (Kp.of kk)
  have it0 : H.IsListIter it l 0 := ⟨_, by rw [← hH, ← hI]; exact Heap.get?_push_size _ rfl, rfl, rfl⟩
  have fit : s₂.heap.get? it = none ∧ it ≠ tab0 := beyond (Ks.refl s₂) g₂ (by rw [← hI]; exact Nat.le_refl _)
  have hwr : ∀ a ∈ [it], s₂.heap.get? a = none ∧ a ≠ tab0 := fun a m => by rw [List.mem_singleton.mp m]; exact fit
  have hWX : it ∉ W ++ X := fun mw => by
    obtain ⟨o, e⟩ := I₂.live it mw
    rw [fit.1] at e; injection e
  have hlit : l ≠ it := fun z => by obtain ⟨o, e, _⟩ := hl; rw [z, fit.1] at e; injection e
  have lW : l ∉ W := fun m => I₂.nFf (List.mem_append_left _ m) f
  have I₃ := I₂.grow (wr := [it]) k3 (Nat.le_refl _) hwr (fun a m => by rw [List.mem_singleton.mp m]; obtain ⟨o, e, _⟩ := it0; exact ⟨o, e⟩)
  have kb03 : KB W s { s₂ with heap := H } := (((KB.ks k₁).trans (KB.ks k₂)).trans (KB.ks k3))
  let Gq : Fz := fun a => (Ff F₀ s₀.heap (W ++ X)).ext s₂.heap a ∧ a ∉ [it] ∧ ∃ o, s₂.heap.get? a = some o
  have hr0 : RepAll Gq s₂.heap vs ds := by
    have ra := r.alive
    refine ra.mono (fun a n q => ⟨.inl q.1, fun m => ?_, q.2⟩) fun _ _ _ _ _ e => e
    obtain ⟨o, e⟩ := q.2
    rw [List.mem_singleton.mp m, fit.1] at e; injection e
  have gW : ∀ a, Gq a → a ∉ W := fun a q m => ext_nW I₂ q.1 m
  refine storeAny I₃ G hk (e := .v (.ref it)) rfl fun s₄ I₄ kb₄ => ?_
  refine wpAny_execs_cons (wpAny_mono ((hm it).run A s₀ F₀ ([it] ++ X) s₄ R G (g.kb (kb03.trans kb₄)) I₄) (fun f s₅ q => ?_) fun _ _ x => x.elim)
  obtain ⟨⟨rfl, I₅⟩, kb₅⟩ := q
  have itW : it ∉ W := fun m => hWX (List.mem_append_left _ m)
  have kb35 : KB W { s₂ with heap := H } s₅ := kb₄.trans kb₅
  have at5 : s₅.heap.IsListIter it l 0 ∧ s₅.heap.IsList l vs.toArray ∧ HoldsAll Gq s₅.heap (ds.map .d) vs := by
    refine ⟨li_nf it0 fun o c e => kb35.keep it o itW fit.2 c e, l_nf (hl.at fun o e => kk _ _ e) fun o c e => kb35.keep l o lW n c e, ?_⟩
    exact (HoldsAll.ofRep hr0).mono (fun _ _ f => f) fun a o q n c e => kb35.keep a o (gW a q) n c (kk a o e)
  refine wpAny_execs_cons (wpAny_For ?_ (fun _ => rfl))
  refine (Ev.name (k := k) (c := c) (σ := (x, .v (.ref it)) :: σ') (by rw [List.lookup_cons, beq_self_eq_true]) hd hcd).here R G (g.kb (kb03.trans kb35)) I₅ fun v s₆ I₆ h₆ k₆ t₆ => ?_
  obtain rfl : v = .ref it := h₆
  have at6 : s₆.heap.IsListIter it l 0 ∧ s₆.heap.IsList l vs.toArray ∧ HoldsAll Gq s₆.heap (ds.map .d) vs :=
    ⟨li_nf at5.1 fun o c e => k₆.kp.keep _ _ fit.2 c e, l_nf at5.2.1 fun o c e => k₆.kp.keep _ _ n c e, at5.2.2.kp k₆.kp⟩
  refine wpAny_pyIter_listiter at6.1 ?_
  have kb26 : KB W s₂ s₆ := (KB.ks k3).trans (kb35.trans (KB.ks k₆))
  have core := forCore (E := fun _ _ => False) R G gs₂ I₂ hwr (iterList (c := c) (G := Gq) (es := ds.map .d) R.1 hlit fit.2 n (fun a q z => q.2.1 (by simp [z])) (by rw [r.length, List.length_map])) at6 (fun b q nb => ?_) I₆ kb26 (hL it)
  · refine codeAny_mono core fun r s₇ q => ?_
    cases r with
    | ok f =>
      obtain ⟨⟨rfl, I₇⟩, kb₇⟩ := q
      exact wpAny_mono ((rest it).run A s₀ F₀ X s₇ R G (gs₂.kb kb₇) I₇) (fun _ _ z => ⟨z.1, (KB.ks (k₁.trans k₂)).trans (kb₇.trans z.2)⟩) fun _ _ x => x
    | error e => exact q
  · rcases q with rfl | rfl | q
    · exact .inr fit.1
    · exact .inl f
    · exact q.1
end
end Mine
end
section
open PySem PySem.Calls PySem.W
namespace Mine
variable [iO : Old]
theorem Op2.isRef {c : Cx} {k : Nat} {xs : List PyData} {b : Addr} {o : Obj} (hK : c.K.lookup b = some o) (hc : o.cls ≠ .type "list") : Op2 c k (compareOp .Is) (.d (.list xs)) (.v (.ref b)) (.d (.bool false)) := by
  constructor; intro A F s v₁ v₂ R g h₁ h₂
  obtain ⟨a, vs, rfl, f, n, hl, r⟩ := h₁.isList
  obtain rfl : v₂ = .ref b := h₂
  obtain ⟨oa, ha, hca, _⟩ := hl
  have hb := g.inK b o hK
  have hne : a ≠ b := fun z => by
    rw [z, hb] at ha; injection ha with ha
    exact hc (ha ▸ hca)
  exact wpAny_is_ref_other hne ha hb (by rw [hca]; decide) ⟨Ks.refl _, .bool _⟩
inductive Red (c : Cx) (k : Nat) (f : Value) : List PyData → List PyData → List PyData → Prop
  | nil {a} : Red c k f a [] a
  | cons {a a' r d ds} : FnC c k f [.d (.list a), .d d] (.d (.list a')) → Red c k f a' ds r → Red c k f a (d :: ds) r
theorem reduce_c (w : World) (k : Nat) (f : Value) (ds a r : List PyData) (hok : CallOk (cx w) f) (h : Red (cx w) k f a ds r) : FnC (cx w) (k + 1) (.ref 37) [.v f, .d (.list ds), .d (.list a)] (.d (.list r)) := by
  refine' FnOk.fn (ns := ["function", "sequence", "initial"]) (es' := [.v f, .d (.list ds), .d (.list a)]) ?ok rfl ?hx ?hb
  case ok => (refine' ⟨⟨_, rfl, rfl⟩, rfl, rfl, rfl, rfl, rfl, rfl, rfl, rfl, _, _, _, _⟩ <;> decide)
  case hb =>
    intro A F s vs g hvs
    cases hvs with
    | cons h1 hvs =>
      obtain ⟨u, v, rfl, h2, h3⟩ := hvs.two
      rename_i fv
      have hd : ∃ o xs n, (cx w).K.lookup 30 = some o ∧ o.data = .seq xs n ∧ xs.size = 1 := ⟨_, _, _, rfl, rfl, rfl⟩
      obtain ⟨o, xs, n, hk, hxs, hsz⟩ := hd
      have ho := g.inK 30 o hk
      unfold bindArgs
      dsimp only
      have hsi : ∀ {A : Around} {Q : Option (Array Value) → Shared → Prop} {E : Value → Shared → Prop}, Q (some xs) s → wpAny (model (cx w).prog (cx w).w) A (seqItems? (.ref 30)) Q E s := fun q => wpAny_seqItems ho hxs q
      refine wpAny_bind (wpAny_pure ?_)
      refine wpAny_bind (hsi ?_)
      have hlen : xs.toList.length = 1 := by rw [Array.length_toList]; exact hsz
      obtain ⟨d, rfl⟩ : ∃ d, xs = #[d] := by
        obtain ⟨d, hx⟩ := List.length_eq_one_iff.mp hlen
        exact ⟨d, by apply Array.toList_inj.mp; rw [hx]⟩
      show wpAny _ _ (pure [(Str.ofString "function", fv), (Str.ofString "sequence", u), (Str.ofString "initial", v)]) _ _ _
      exact wpAny_pure ⟨Ks.refl _, .cons (h1.mono (fun _ _ f => .inl f) fun _ _ _ _ _ e => e) (.cons (h2.mono (fun _ _ f => .inl f) fun _ _ _ _ _ e => e) (.cons (h3.mono (fun _ _ f => .inl f) fun _ _ _ _ _ e => e) .nil))⟩
  intro env W T
  refine Ex.iterThen (σ' := [("value", .d (.list a)), ("function", .v f)]) (σ'' := [("value", .d (.list r)), ("function", .v f)]) (Ev.biT T rfl rfl rfl) (Ev.name rfl) (T.store (by decide)) (fun l => ?mid) (fun l => ?loop) (fun l => Ex.one (Ex1.ret (Ev.name rfl)))
  case mid =>
    refine Ex1.weak (Ex1.ite (v := false) (EvB.cmp (Ev.name rfl) (Ev.globT T rfl rfl) (Op2.isRef (o := _) rfl (by decide))) (fun h => nomatch h) (fun _ => Ex.one (Ex1.assign (Ev.name rfl) (T.store (by decide))))) (subList fun p hp => ?_)
    rcases List.mem_cons.mp hp with rfl | hp
    · rfl
    rcases List.mem_cons.mp hp with rfl | hp
    · rfl
    rw [List.mem_singleton.mp hp]; rfl
  case loop =>
    induction h with
    | nil => exact .done
    | cons hf _ ih =>
      refine .next .name (stOne (T.store (by decide))) (Ex.weak (Ex.one (Ex1.assign (Ev.call (Ev.name rfl) hok (EvAll.two (Ev.name rfl) (Ev.name rfl)) hf) (T.store (by decide)))) (subList fun p hp => ?_)) ih
      rcases List.mem_cons.mp hp with rfl | hp
      · rfl
      rcases List.mem_cons.mp hp with rfl | hp
      · rfl
      rw [List.mem_singleton.mp hp]; rfl
end Mine
end
section
open PySem PySem.Calls PySem.W
namespace Mine
variable [iO : Old]
noncomputable def zipEnts (ds es : List PyData) : List Ent := List.zipWith (fun a b => Ent.d (.tuple [a, b])) ds es
theorem zipEnts_get {ds es : List PyData} {i : Nat} {e : Ent} (h : (zipEnts ds es)[i]? = some e) : ∃ a b, ds[i]? = some a ∧ es[i]? = some b ∧ e = .d (.tuple [a, b]) := by
  unfold zipEnts at h
  rw [List.getElem?_zipWith] at h
  cases ha : ds[i]? with
  | none => rw [ha] at h; injection h
  | some a =>
    cases hb : es[i]? with
    | none => rw [ha, hb] at h; injection h
    | some b => rw [ha, hb] at h; obtain rfl := Option.some.inj h; exact ⟨a, b, rfl, rfl, rfl⟩
theorem iterZip {c : Cx} {A : Around} (hh : A.handled = none) {G : Fz} {z TI TO i1 i2 l1 l2 : Addr} {vs ws : List Value} {ds es : List PyData} (D : ZipApart z TI TO i1 i2 l1 l2) (nt : ∀ a ∈ [z, TO, i1, i2, TI, l1, l2], a ≠ tab0) (hG : ∀ a, G a → a ≠ z ∧ a ≠ TO ∧ a ≠ i1 ∧ a ≠ i2) (htz : tab0 < z) (hl : vs.length = ds.length) (hl' : ws.length = es.length) :
    Iter2 c A G (fun b => b ∈ [z, TO, i1, i2, TI, l1, l2] ∨ G b) (.ref z) [z, TO, i1, i2] (zipEnts ds es)
      (fun i s => IsZip s.heap z TI TO .none ∧ IsPair s.heap TI (.ref i1) (.ref i2) ∧ (∃ a b, IsPair s.heap TO a b) ∧ s.heap.IsListIter i1 l1 i ∧ s.heap.IsListIter i2 l2 i ∧ s.heap.IsList l1 vs.toArray ∧ s.heap.IsList l2 ws.toArray ∧ RepAll G s.heap vs ds ∧ RepAll G s.heap ws es)
      (fun i T s => IsZip s.heap z TI TO (rawInt T) ∧ IsPair s.heap TI (.ref i1) (.ref i2) ∧ (∃ a b, IsPair s.heap TO a b) ∧ s.heap.IsListIter i1 l1 i ∧ s.heap.IsListIter i2 l2 i ∧ s.heap.IsList l1 vs.toArray ∧ s.heap.IsList l2 ws.toArray ∧ RepAll G s.heap vs ds ∧ RepAll G s.heap ws es) where
  next := fun i s en Q E he P hQ => by
    obtain ⟨a0, a1, ⟨p, q, a2⟩, a3, a4, a5, a6, a7, a8⟩ := P
    obtain ⟨da, db, hd1, hd2, rfl⟩ := zipEnts_get he
    obtain ⟨x, hx, hr⟩ := a7.get hd1
    obtain ⟨y, hy, hr2⟩ := a8.get hd2
    refine wpAny_pyNext_zip_item D a0 a1 a2 a3 a4 a5 a6 (x := x) (y := y) (by simpa using hx) (by simpa using hy) fun h' b0 b1 b2 b3 b4 b5 b6 => ?_
    have kp : ∀ b o, G b → b ≠ tab0 → NFr o → s.heap.get? b = some o → h'.get? b = some o := fun b o g _ _ e => b6 b o (hG b g).1 (hG b g).2.1 (hG b g).2.2.1 (hG b g).2.2.2 e
    have hT : z < s.heap.objs.size := Heap.lt_size a0
    refine hQ s.heap.objs.size h' s.toks (fun b o hb q => b6 b o (ne4 hb).1 (ne4 hb).2.1 (ne4 hb).2.2.1 (ne4 hb).2.2.2 q)
      ⟨b0, b6 TI _ D.TIz D.TITO D.TIi1 D.TIi2 a1, ⟨x, y, b1⟩, b2, b3, a5.at fun o q => b6 l1 o D.l1z D.l1TO D.l1i1 D.l1i2 q, a6.at fun o q => b6 l2 o D.l2z D.l2TO D.l2i1 D.l2i2 q, a7.mono (fun _ _ f => f) kp, a8.mono (fun _ _ f => f) kp⟩ ?_
    refine Rep.mkTuple (vs := [x, y]) (.inr (size_none _)) (Nat.ne_of_gt (Nat.lt_trans htz hT)) ⟨_, b4, rfl, 0, rfl⟩ ?_
    exact .cons (hr.mono (fun _ _ f => .inl f) kp) (.cons (hr2.mono (fun _ _ f => .inl f) kp) .nil)
  done := fun s Q E P hQ => by
    obtain ⟨a0, a1, ⟨p, q, a2⟩, a3, a4, a5, a6, a7, a8⟩ := P
    refine wpAny_pyNext_zip_end hh D a0 a1 a2 a3 a4 a5 a6 ?_ fun h' hk => hQ h' s.toks fun b o hb e => hk b o (ne4 hb).1 (ne4 hb).2.1 (ne4 hb).2.2.1 (ne4 hb).2.2.2 e
    have e : (zipEnts ds es).length = min ds.length es.length := by simp [zipEnts]
    rw [e]
    by_cases q : ds.length ≤ es.length
    · left; simp [hl]; omega
    · right; simp [hl']; omega
  frame := fun i s s' P hk => by
    obtain ⟨a0, a1, ⟨p, q, a2⟩, a3, a4, a5, a6, a7, a8⟩ := P
    exact
      ⟨hk z _ (.inl (.head _)) (nt _ (.head _)) (nfr_of (T := "zip") rfl) a0, hk TI _ (.inl (.tail _ (.tail _ (.tail _ (.tail _ (.head _)))))) (nt _ (.tail _ (.tail _ (.tail _ (.tail _ (.head _)))))) (nfr_of (T := "tuple") rfl) a1, ⟨p, q, hk TO _ (.inl (.tail _ (.head _))) (nt _ (.tail _ (.head _))) (nfr_of (T := "tuple") rfl) a2⟩, li_nf a3 fun o c e => hk i1 o (.inl (.tail _ (.tail _ (.head _)))) (nt _ (.tail _ (.tail _ (.head _)))) c e, li_nf a4 fun o c e => hk i2 o (.inl (.tail _ (.tail _ (.tail _ (.head _))))) (nt _ (.tail _ (.tail _ (.tail _ (.head _))))) c e,
      l_nf a5 fun o c e => hk l1 o (.inl (.tail _ (.tail _ (.tail _ (.tail _ (.tail _ (.head _))))))) (nt _ (.tail _ (.tail _ (.tail _ (.tail _ (.tail _ (.head _))))))) c e, l_nf a6 fun o c e => hk l2 o (.inl (.tail _ (.tail _ (.tail _ (.tail _ (.tail _ (.tail _ (.head _)))))))) (nt _ (.tail _ (.tail _ (.tail _ (.tail _ (.tail _ (.tail _ (.head _)))))))) c e, a7.mono (fun _ _ f => f) fun a o g n c e => hk a o (.inr g) n c e, a8.mono (fun _ _ f => f) fun a o g n c e => hk a o (.inr g) n c e⟩
  live := fun i s P => by
    obtain ⟨a0, a1, ⟨p, q, a2⟩, a3, a4, _⟩ := P
    exact fa ⟨_, a0, .inr ⟨show Value.type "zip" ≠ Value.type "code" by decide, show Value.type "zip" ≠ Value.none by decide⟩, nfr_of (T := "zip") rfl⟩ (fa ⟨_, a2, .inl (fun vs z => nomatch z), nfr_of (T := "tuple") rfl⟩ (fa (li_soft a3) (fa (li_soft a4) fan)))
  liveM := fun i T s P => by
    obtain ⟨a0, a1, ⟨p, q, a2⟩, a3, a4, _⟩ := P
    exact fa ⟨_, a0, .inr ⟨show Value.type "zip" ≠ Value.type "code" by decide, show Value.type "zip" ≠ Value.none by decide⟩, nfr_of (T := "zip") rfl⟩ (fa ⟨_, a2, .inl (fun vs z => nomatch z), nfr_of (T := "tuple") rfl⟩ (fa (li_soft a3) (fa (li_soft a4) fan)))
  go := by
    intro i elts q p T s Q E P hQ
    obtain ⟨a0, a1, ⟨pp, qq, a2⟩, a3, a4, a5, a6, a7, a8⟩ := P
    exact wpAny_letOwnedTupleGo_zip a0 fun h' hz' hs' => hQ h' (fun b o hb e => hs'.extBut b o (ne4 hb).1 e)
      ⟨hz', (hs'.2 TI D.TIz).trans a1, ⟨pp, qq, (hs'.2 TO D.TOz).trans a2⟩, a3.at fun o e => (hs'.2 i1 D.i1z).trans e, a4.at fun o e => (hs'.2 i2 D.i2z).trans e, a5.at fun o e => (hs'.2 l1 D.l1z).trans e, a6.at fun o e => (hs'.2 l2 D.l2z).trans e, a7.mono (fun _ _ f => f) fun a o g _ _ e => (hs'.2 a (hG a g).1).trans e, a8.mono (fun _ _ f => f) fun a o g _ _ e => (hs'.2 a (hG a g).1).trans e⟩
end Mine
end
section
open PySem PySem.Calls PySem.W
namespace Mine
variable [iO : Old]
section
variable {c : Cx} {k : Nat}
theorem SrcX2.zip {env : Env} {σ : Loc} {x y : PySem.Expr} {p q : Pos} {ds es : List PyData} (hf : Ev c k env σ (.Name "zip" q) (.v (.type "zip"))) (h1 : Ev c k env σ x (.d (.list ds))) (h2 : Ev c k env σ y (.d (.list es))) (nx : ∀ y p, x ≠ .Starred y p := by intro _ _ h; cases h) (ny : ∀ z p, y ≠ .Starred z p := by intro _ _ h; cases h) :
    SrcX2 c k env σ (.Call (.Name "zip" q) [x, y] [] p) (zipEnts ds es) := by
  refine ⟨fun A F s R G g L => ?_, fun _ => rfl⟩
  refine PyProof.Rows.Call_ ((hf.run A F s R G g L).use fun fv s₁ k₁ t₁ e₁ => ?_)
  obtain rfl : fv = .type "zip" := e₁
  have hs : starEach [x, y] env = [(false, eval x env), (false, eval y env)] := by rw [star_cons nx, star_cons ny]; rfl
  refine callWith_type (by rw [hs]; rfl) ?_
  rw [hs]
  refine evalArgs_plain (spliced_cons ((h1.run A F s₁ R G (g.ks k₁ t₁) (L.kp k₁.kp)).use fun v s₂ k₂ t₂ e₂ => spliced_cons ((h2.run A F s₂ R G ((g.ks k₁ t₁).ks k₂ t₂) ((L.kp k₁.kp).kp k₂.kp)).use fun v' s₃ k₃ t₃ e₃ => spliced_nil ?_)))
  have e₂' := e₂.kp k₃.kp
  obtain ⟨l1, vs, rfl, f1, n1, hl1, r1⟩ := e₂'.isList
  obtain ⟨l2, ws, rfl, f2, n2, hl2, r2⟩ := e₃.isList
  have g₃ := ((g.ks k₁ t₁).ks k₂ t₂).ks k₃ t₃
  have k13 := (k₁.trans k₂).trans k₃
  refine call_zip_2 hl1 hl2 fun h' b0 b1 b2 b3 b4 b5 b6 => ?_
  refine wpAny_pyIter_zip (s := { s₃ with heap := h' }) b0 ?_
  have kz : Ks s { s₃ with heap := h' } := k13.trans (Ks.mk (tk := s₃.toks) (Kp.of b6))
  have hx1 : ∃ o, s₃.heap.get? l1 = some o := by obtain ⟨o, e, _⟩ := hl1; exact ⟨o, e⟩
  have hx2 : ∃ o, s₃.heap.get? l2 = some o := by obtain ⟨o, e, _⟩ := hl2; exact ⟨o, e⟩
  have lt1 : l1 < s₃.heap.objs.size := by obtain ⟨o, e⟩ := hx1; exact Heap.lt_size e
  have lt2 : l2 < s₃.heap.objs.size := by obtain ⟨o, e⟩ := hx2; exact Heap.lt_size e
  have htb : tab0 < s₃.heap.objs.size := by obtain ⟨o, e⟩ := g₃.tab.ex; exact Heap.lt_size e
  have fr : ∀ a, s₃.heap.objs.size ≤ a → s.heap.get? a = none ∧ a ≠ tab0 := fun a ha => beyond k13 g₃ ha
  have fr3 : ∀ a, s₃.heap.objs.size ≤ a → s₃.heap.get? a = none := fun a ha => (beyond (Ks.refl s₃) g₃ ha).1
  generalize hN : s₃.heap.objs.size = N at *
  have ne : ∀ {a b : Nat}, a < b → (a : Addr) ≠ b := fun h => Nat.ne_of_lt h
  have D : ZipApart (N + 4) (N + 2) (N + 3) N (N + 1) l1 l2 := by
    constructor
    all_goals first | exact Nat.ne_of_lt (by omega) | exact Nat.ne_of_gt (by omega) | exact Nat.ne_of_lt (Nat.lt_of_lt_of_le lt1 (Nat.le_add_right _ _)) | exact Nat.ne_of_lt (Nat.lt_of_lt_of_le lt2 (Nat.le_add_right _ _)) | exact Nat.ne_of_lt lt1 | exact Nat.ne_of_lt lt2
  have nF : ∀ a, (∃ o, s₃.heap.get? a = some o) → a ∉ [N + 4, N + 3, N, N + 1] := fun a P m => by
    obtain ⟨o, e⟩ := P
    have : N ≤ a := by
      simp only [List.mem_cons, List.not_mem_nil, or_false] at m
      rcases m with rfl | rfl | rfl | rfl
      · exact Nat.le_add_right _ _
      · exact Nat.le_add_right _ _
      · exact Nat.le_refl _
      · exact Nat.le_add_right _ _
    rw [fr3 a this] at e; injection e
  have conv : ∀ {us : List Value} {bs : List PyData} {F' : Fz}, RepAll F' s₃.heap us bs → (∀ a, a ≠ tab0 → F' a → F.ext s.heap a) → RepAll (fun a => F.ext s.heap a ∧ a ∉ [N + 4, N + 3, N, N + 1] ∧ ∃ o, h'.get? a = some o) h' us bs := fun {us bs F'} r hF' => by
    have ra := r.alive
    exact ra.mono (fun a n q => ⟨hF' a n q.1, nF a q.2, (by obtain ⟨o, e⟩ := q.2; exact ⟨o, b6 _ _ e⟩)⟩) fun a o _ _ _ e => b6 a o e
  have mem : ∀ a ∈ [N + 4, N + 3, N, N + 1, N + 2], N ≤ a := fun a m => by
    simp only [List.mem_cons, List.not_mem_nil, or_false] at m
    rcases m with rfl | rfl | rfl | rfl | rfl <;> first | exact Nat.le_add_right _ _ | exact Nat.le_refl _
  refine ⟨kz, [N + 4, N + 3, N, N + 1], _, _, _, fun a ha => fr a (mem a (List.mem_append_left [N + 2] ha)), iterZip (l1 := l1) (l2 := l2) (vs := vs) (ws := ws) R.1 D (fun a m => ?nt) (fun a q => ?hg) (Nat.lt_of_lt_of_le htb (Nat.le_add_right _ _)) r1.length r2.length, ⟨b0, b1, ⟨_, _, b2⟩, b3, b4, hl1.at fun o e => b6 _ _ e, hl2.at fun o e => b6 _ _ e, conv r1 (fun a n f => Fz.ext_kp k₁.kp n f), conv r2 (fun a n f => Fz.ext_kp (k₁.trans k₂).kp n f)⟩, ?_⟩
  case nt =>
    simp only [List.mem_cons, List.not_mem_nil, or_false] at m
    rcases m with rfl | rfl | rfl | rfl | rfl | rfl | rfl
    · exact (fr _ (Nat.le_add_right _ _)).2
    · exact (fr _ (Nat.le_add_right _ _)).2
    · exact (fr _ (Nat.le_refl _)).2
    · exact (fr _ (Nat.le_add_right _ _)).2
    · exact (fr _ (Nat.le_add_right _ _)).2
    · exact n1
    · exact n2
  case hg => exact ne4 q.2.1
  · rintro b (m | q) nb
    · simp only [List.mem_cons, List.not_mem_nil, or_false] at m
      rcases m with rfl | rfl | rfl | rfl | rfl | rfl | rfl
      · exact ⟨⟨_, b0⟩, .inr (fr _ (Nat.le_add_right _ _)).1⟩
      · exact ⟨⟨_, b2⟩, .inr (fr _ (Nat.le_add_right _ _)).1⟩
      · exact ⟨(by obtain ⟨o, e, _⟩ := b3; exact ⟨o, e⟩), .inr (fr _ (Nat.le_refl _)).1⟩
      · exact ⟨(by obtain ⟨o, e, _⟩ := b4; exact ⟨o, e⟩), .inr (fr _ (Nat.le_add_right _ _)).1⟩
      · exact ⟨⟨_, b1⟩, .inr (fr _ (Nat.le_add_right _ _)).1⟩
      · exact ⟨(by obtain ⟨o, e⟩ := hx1; exact ⟨o, b6 _ _ e⟩), Fz.ext_kp k₁.kp nb f1⟩
      · exact ⟨(by obtain ⟨o, e⟩ := hx2; exact ⟨o, b6 _ _ e⟩), Fz.ext_kp (k₁.trans k₂).kp nb f2⟩
    · exact ⟨q.2.2, q.1⟩
end
end Mine
end
section
open PySem PySem.Calls PySem.W
namespace Mine
variable [iO : Old]
inductive Ents : List DictEntry → List (Str × Value) → Prop
  | nil : Ents [] []
  | cons {h n t v es kvs} : Ents es kvs → Ents (⟨h, .str n t, v⟩ :: es) ((n, v) :: kvs)
theorem isStr_eq (n x : Str) (t : Tok) : (Value.str n t).isStr x = (n == x) := by rfl
theorem Ents.find {x : Str} {es : List DictEntry} {kvs : List (Str × Value)} (r : Ents es kvs) : (es.find? fun e => e.key.isStr x).map (·.val) = kvs.lookup x := by
  induction r with
  | nil => rfl
  | @cons hh n t v es kvs r ih =>
    rw [List.find?_cons, List.lookup_cons]
    by_cases q : n = x
    · subst q
      have : (n == n) = true := beq_self_eq_true n
      simp only [isStr_eq, this, Option.map_some]
    · have h1 : (n == x) = false := beq_false_of_ne q
      have h2 : (x == n) = false := beq_false_of_ne (Ne.symm q)
      simp only [isStr_eq, h1, h2]
      exact ih
theorem Ents.keys {es : List DictEntry} {kvs : List (Str × Value)} (r : Ents es kvs) (e : DictEntry) (h : e ∈ es) : ∃ n t, e.key = .str n t := by
  induction r with
  | nil => cases h
  | cons r ih =>
    rcases List.mem_cons.mp h with rfl | h
    · exact ⟨_, _, rfl⟩
    · exact ih h
theorem Ents.noRef {es : List DictEntry} {kvs : List (Str × Value)} (r : Ents es kvs) : es.any (·.refKey) = false := by
  rw [List.any_eq_false]
  intro e he
  obtain ⟨n, t, h⟩ := r.keys e he
  simp [DictEntry.refKey, h]
theorem Ents.len {es : List DictEntry} {kvs : List (Str × Value)} (r : Ents es kvs) : es.length = kvs.length := by
  induction r with
  | nil => rfl
  | cons r ih => exact congrArg (· + 1) ih
noncomputable def setK : List (Str × Value) → Str → Value → List (Str × Value)
  | [], n, v => [(n, v)]
  | (m, u) :: r, n, v => if m == n then (m, v) :: r else (m, u) :: setK r n v
noncomputable def delK : List (Str × Value) → Str → List (Str × Value)
  | [], _ => []
  | (m, u) :: r, n => if m == n then r else (m, u) :: delK r n
theorem byCps (m n : Str) (t : Tok) : (Value.str m t).isStrByCps n.cps.size n.cps.toList = (m == n) := by rw [Value.isStrByCps_eq]; rfl
theorem Ents.put {n : Str} {hs : Int} {t : Tok} {v : Value} {es : List DictEntry} {kvs : List (Str × Value)} (r : Ents es kvs) :
    Ents (nsPutIn n.cps.size n.cps.toList (fun | some e => { e with val := v } | none => ⟨hs, .str n t, v⟩) es).1 (setK kvs n v) := by
  induction r with
  | nil => exact .cons .nil
  | @cons h m u w es kvs r ih =>
    unfold nsPutIn setK
    dsimp only
    rw [byCps]
    cases q : m == n with
    | true => exact .cons r
    | false =>
      rw [if_neg (by decide), if_neg (by decide)]
      generalize nsPutIn n.cps.size n.cps.toList (fun | some e => { e with val := v } | none => ⟨hs, .str n t, v⟩) es = z at ih ⊢
      exact .cons ih
theorem Ents.drop {n : Str} {es : List DictEntry} {kvs : List (Str × Value)} (r : Ents es kvs) : Ents ((nsDropIn n.cps.size n.cps.toList es).getD es) (delK kvs n) := by
  induction r with
  | nil => exact .nil
  | @cons h m u w es kvs r ih =>
    unfold nsDropIn delK
    rw [byCps]
    cases q : m == n with
    | true => exact r
    | false =>
      rw [if_neg (by decide), if_neg (by decide)]
      cases z : nsDropIn n.cps.size n.cps.toList es with
      | none => rw [z] at ih; exact .cons ih
      | some es' => rw [z] at ih; exact .cons ih
noncomputable def NsL (h : Heap) (a : Addr) (kvs : List (Str × Value)) : Prop := ∃ es ep, h.get? a = some { cls := .type "dict", data := .dict es ep } ∧ Ents es.toList kvs
theorem NsL.ns {h : Heap} {a : Addr} {kvs : List (Str × Value)} (x : NsL h a kvs) : h.Ns a (fun n => kvs.lookup n) := by
  obtain ⟨es, ep, e, r⟩ := x
  refine ⟨_, es, ep, e, rfl, fun en hen => r.keys en (by simpa using hen), fun n => ?_⟩
  have := r.find (x := n)
  show (es.find? fun e => e.key.isStr n).map (·.val) = kvs.lookup n
  rw [← this, ← Array.find?_toList]
theorem NsL.at {h h' : Heap} {a : Addr} {kvs : List (Str × Value)} (x : NsL h a kvs) (k : ∀ o, h.get? a = some o → h'.get? a = some o) : NsL h' a kvs := by obtain ⟨es, ep, e, r⟩ := x; exact ⟨es, ep, k _ e, r⟩
theorem NsL.soft {h : Heap} {a : Addr} {kvs : List (Str × Value)} (x : NsL h a kvs) : ∃ o, h.get? a = some o ∧ Soft o := ns_soft x.ns
section
variable {M : Model} {A : Around} {E : Value → Shared → Prop} {s : Shared}
theorem nsGetL {a : Addr} {kvs : List (Str × Value)} {n : Str} {Q : Option Value → Shared → Prop} (x : NsL s.heap a kvs) (h : Q (kvs.lookup n) s) : wpAny M A (nsGet a n) Q E s := wpAny_nsGet x.ns h
theorem nsSetL {a : Addr} {kvs : List (Str × Value)} {n : Str} {v : Value} {Q : Unit → Shared → Prop} (x : NsL s.heap a kvs)
    (h : ∀ h', NsL h' a (setK kvs n v) → Heap.SameBut a s.heap h' → Q () { s with heap := h', toks := s.toks + 1 }) : wpAny M A (nsSet a n v) Q E s := by
  obtain ⟨es, ep, e, r⟩ := x
  unfold nsSet strHash
  refine wpAny_bind (wpAny_bind (wpAny_askSetting (wpAny_pure (wpAny_bind (wpAny_mkText (wpAny_bind (wpAny_loadPart e ?_)))))))
  dsimp only
  have h1 : aRefKeyMayBeTheName n es = false := by
    rw [aRefKeyMayBeTheName_at]
    have : es.any (·.refKey) = false := by rw [← Array.any_toList]; exact r.noRef
    rw [this, Bool.and_false]
  rw [if_neg (by rw [h1]; decide)]
  refine wpAny_updatePart e ?_
  generalize (if n.cps.isEmpty = true then (0 : Int) else reduceHash (M.w.params.strHash n.cps)) = hs
  have ih := Ents.put (n := n) (hs := hs) (t := s.toks) (v := v) r
  obtain ⟨es', ep', e2, r2⟩ : ∃ es' ep', Obj.putName n hs (.str n s.toks) v { cls := .type "dict", data := .dict es ep } = { cls := .type "dict", data := .dict es' ep' } ∧ Ents es'.toList (setK kvs n v) := by
    unfold Obj.putName
    dsimp only
    generalize nsPutIn n.cps.size n.cps.toList (fun | some e => { e with val := v } | none => ⟨hs, .str n s.toks, v⟩) es.toList = z at ih ⊢
    obtain ⟨l, b⟩ := z
    cases b with
    | true => exact ⟨l.toArray, ep + 1, rfl, by simpa using ih⟩
    | false => exact ⟨l.toArray, ep, rfl, by simpa using ih⟩
  exact h _ ⟨es', ep', by rw [Heap.get?_update_self _ e (by rw [e2]; rfl), e2], r2⟩ (Heap.SameBut.update s.heap a _)
theorem nsDelL {a : Addr} {kvs : List (Str × Value)} {n : Str} {Q : Bool → Shared → Prop} (x : NsL s.heap a kvs) (hn : (kvs.lookup n).isSome = true)
    (h : ∀ h', NsL h' a (delK kvs n) → Heap.SameBut a s.heap h' → Q true { s with heap := h' }) : wpAny M A (nsDel a n) Q E s := by
  obtain ⟨es, ep, e, r⟩ := x
  unfold nsDel
  refine wpAny_bind (wpAny_loadPart e ?_)
  have hf := r.find (x := n)
  have hhas : nsHas n { cls := .type "dict", data := .dict es ep } = pure true := by
    rw [nsHas_eq]
    unfold nsHasByArray
    dsimp only
    have : es.any (·.key.isStr n) = true := by
      rw [← Array.any_toList, List.any_eq_true]
      cases q : es.toList.find? (fun e => e.key.isStr n) with
      | none => rw [q] at hf; rw [← hf] at hn; injection hn
      | some e => exact ⟨e, List.mem_of_find?_eq_some q, by simpa using List.find?_some q⟩
    rw [this]; rfl
  rw [hhas]
  refine wpAny_bind (wpAny_pure ?_)
  rw [if_pos rfl]
  refine wpAny_bind (wpAny_updatePart e (wpAny_pure ?_))
  have ih := Ents.drop (n := n) r
  obtain ⟨es', ep', e2, r2⟩ : ∃ es' ep', Obj.dropName n { cls := .type "dict", data := .dict es ep } = { cls := .type "dict", data := .dict es' ep' } ∧ Ents es'.toList (delK kvs n) := by
    unfold Obj.dropName
    dsimp only
    cases z : nsDropIn n.cps.size n.cps.toList es.toList with
    | none => rw [z] at ih; exact ⟨es, ep, rfl, ih⟩
    | some l => rw [z] at ih; exact ⟨l.toArray, ep + 1, rfl, by simpa using ih⟩
  exact h _ ⟨es', ep', by rw [Heap.get?_update_self _ e (by rw [e2]; rfl), e2], r2⟩ (Heap.SameBut.update s.heap a _)
theorem nsSetByValueL {a : Addr} {kvs : List (Str × Value)} {n : Str} {v : Value} {Q : Unit → Shared → Prop} (x : NsL s.heap a kvs) (hs : kvs.length ≤ 1000)
    (h : ∀ h', NsL h' a (setK kvs n v) → Heap.SameBut a s.heap h' → Q () { s with heap := h', toks := s.toks + 1 }) : wpAny M A (nsSetByValue a n v) Q E s := by
  obtain ⟨es, ep, e, r⟩ := id x
  unfold nsSetByValue
  refine wpAny_bind (wpAny_loadPart e ?_)
  have hl : es.size = kvs.length := by rw [← Array.length_toList]; exact r.len
  dsimp only
  have : ¬ (decide (es.size > sizeLine) && noSuchName n es) = true := by
    rw [sizeLine_eq]; rw [hl]
    have : decide (kvs.length > 2 ^ 24) = false := by simp; lia
    simp [this]
  first
    | rw [if_neg this]; exact nsSetL x h
    | exact wpAny_bind (by rw [if_neg this]; exact wpAny_pure (nsSetL x h))
end
end Mine
end
section
open PySem PySem.Calls PySem.W PyProof.Rows
namespace Mine
variable [iO : Old]
theorem t_ext : Builtin.extendedBase [.type "object"] = pure (.type "object") := by kernel_rfl
theorem t_turned : Builtin.notOverATurnedClass [.type "object"] = pure () := by kernel_rfl
theorem t_best : Builtin.Slots.bestBase [.type "object"] = pure (.type "object") := by kernel_rfl
theorem t_made : Bind.madeBy (.type "object") = pure (some "object.__new__") := by kernel_rfl
theorem t_madeT : Bind.madeBy (.type "type") = pure (some "type.__new__") := by kernel_rfl
theorem t_hook : Builtin.mroHook? (.type "type") = pure none := by kernel_rfl
theorem t_lin : Builtin.linearize [.type "object"] mroOf = pure [.type "object"] := by kernel_rfl
theorem t_weak : Builtin.Slots.givesWeak (.type "object") = pure false := by kernel_rfl
theorem t_dict : Builtin.Slots.givesDict (.type "object") = pure false := by kernel_rfl
theorem t_var : Builtin.Slots.varSize (.type "object") = pure false := by kernel_rfl
theorem t_names : Builtin.Slots.slotNamesOf (.type "object") = pure [] := by kernel_rfl
theorem t_subT : isSubtype (.type "type") (.type "type") = pure true := by kernel_rfl
theorem t_meta : (Manifest.find? "object").elim "type" (fun x => x.metatype) = "type" := by kernel_rfl
theorem t_iter : typeLookup (.type "dict") (Str.ofString "__iter__") = pure (some (.builtin "dict.__iter__")) := by rw [typeLookup_type, builtinLookup_eq_fast]; kernel_rfl
section
variable {M : Model} {A : Around} {E : Value → Shared → Prop} {s : Shared}
theorem r_turned {bs : List Value} {Q : Unit → Shared → Prop} (hb : bs = [.type "object"]) (h : Q () s) : wpAny M A (Builtin.notOverATurnedClass bs) Q E s := by subst hb; exact wpAny_of_eq t_turned h
theorem r_ext {bs : List Value} {Q : Value → Shared → Prop} (hb : bs = [.type "object"]) (h : Q (.type "object") s) : wpAny M A (Builtin.extendedBase bs) Q E s := by subst hb; exact wpAny_of_eq t_ext h
theorem r_best {bs : List Value} {Q : Value → Shared → Prop} (hb : bs = [.type "object"]) (h : Q (.type "object") s) : wpAny M A (Builtin.Slots.bestBase bs) Q E s := by subst hb; exact wpAny_of_eq t_best h
theorem nsGetS {a : Addr} {kvs : List (Str × Value)} {n : Str} {v : Value} {Q : Option Value → Shared → Prop} (x : NsL s.heap a kvs) (e : kvs.lookup n = some v) (h : Q (some v) s) : wpAny M A (nsGet a n) Q E s := nsGetL x (e ▸ h)
theorem nsGetN {a : Addr} {kvs : List (Str × Value)} {n : Str} {Q : Option Value → Shared → Prop} (x : NsL s.heap a kvs) (e : kvs.lookup n = none) (h : Q none s) : wpAny M A (nsGet a n) Q E s := nsGetL x (e ▸ h)
end
section
variable {prog : Program} {w : World} {A : Around} {E : Value → Shared → Prop}
theorem slots_read {s : Shared} {es : Array DictEntry} {L : Addr} {t : Tok} {en : DictEntry} {cls : Str} {Q : Builtin.Slots.Plan → Shared → Prop} {bs : List Value} (hb : bs = [.type "object"])
    (hf : es.find? (·.key.isStr "__slots__") = some en) (hv : en.val = .ref L) (hL : s.heap.IsList L #[.str "obj" t]) (hno : es.any (·.key.isStr (Builtin.Slots.mangle cls "obj")) = false) (hm : Builtin.Slots.mangle cls "obj" = "obj")
    (h : ∀ h', (∀ b o, s.heap.get? b = some o → h'.get? b = some o) → Q { names := [Str.ofString "obj"], dict := false, weak := false, inherited := [] } { s with heap := h' }) :
    wpAny (model prog w) A (Builtin.Slots.read cls bs es) Q E s := by
  subst hb
  unfold Builtin.Slots.read
  refine wpAny_bind (wpAny_of_eq t_best ?_)
  refine wpAny_bind (wpAny_of_eq t_names ?_)
  refine wpAny_bind (wpAny_of_eq t_dict ?_)
  refine wpAny_bind (wpAny_of_eq t_weak ?_)
  refine wpAny_bind (wpAny_of_eq t_var ?_)
  rw [hf]
  obtain ⟨⟨cc, dd, dt, sl⟩, ho, hcl, n, hd⟩ := id hL
  simp only at hcl hd
  subst hcl hd
  wp_delta
  refine wpAny_bind (wpAny_rule ?_)
  rw [hv]
  (repeat (first | (with_reducible first | refine wpAny_pure ?_ | refine wpAny_bind ?_ | refine wpAny_holding ?_ | refine wpAny_rule ?_ | refine wpAny_of_eq (by assumption) ?_ | refine wpAny_isInstance (by assumption) (by assumption) ?_ | refine wpAny_specialOf (by assumption) (by assumption) ?_ | refine wpAny_typeOf (by assumption) ?_ | refine wpAny_seqItems (by assumption) rfl ?_ | refine wpAny_load (by assumption) ?_) | ((with_reducible refine wpAny_ite_false ?hc ?_); (case hc => rfl)) | ((with_reducible refine wpAny_ite_true ?hc ?_); (case hc => rfl)) | ((with_reducible refine' collect_list ?hl ?_ ?hs); (case hl => assumption); (case hs => exact Nat.le_of_ble_eq_true rfl)) | wp_delta))
  generalize hH : (s.heap.push (PyProof.Rows.seqObj "list" #[] 0)).update s.heap.objs.size (Obj.mapSeq (· ++ #[Value.str (Str.ofString "obj") t])) = H
  rw [show Builtin.Slots.isIdentifier (Str.ofString "obj") = some true from by kernel_rfl]
  (repeat (first | (with_reducible first | refine wpAny_pure ?_ | refine wpAny_bind ?_ | refine wpAny_holding ?_ | refine wpAny_rule ?_ | refine wpAny_of_eq (by assumption) ?_ | refine wpAny_isInstance (by assumption) (by assumption) ?_ | refine wpAny_specialOf (by assumption) (by assumption) ?_ | refine wpAny_typeOf (by assumption) ?_ | refine wpAny_seqItems (by assumption) rfl ?_ | refine wpAny_load (by assumption) ?_) | ((with_reducible refine wpAny_ite_false ?hc ?_); (case hc => rfl)) | ((with_reducible refine wpAny_ite_true ?hc ?_); (case hc => rfl)) | ((with_reducible refine' collect_list ?hl ?_ ?hs); (case hl => assumption); (case hs => exact Nat.le_of_ble_eq_true rfl)) | wp_delta))
  refine wpAny_ite_false (show decide ((es.any (fun x => x.key.isStr (Builtin.Slots.mangle cls "obj")) && _) = true) = false by rw [hno]; rfl) ?_
  (repeat (first | (with_reducible first | refine wpAny_pure ?_ | refine wpAny_bind ?_ | refine wpAny_holding ?_ | refine wpAny_rule ?_ | refine wpAny_of_eq (by assumption) ?_ | refine wpAny_isInstance (by assumption) (by assumption) ?_ | refine wpAny_specialOf (by assumption) (by assumption) ?_ | refine wpAny_typeOf (by assumption) ?_ | refine wpAny_seqItems (by assumption) rfl ?_ | refine wpAny_load (by assumption) ?_) | ((with_reducible refine wpAny_ite_false ?hc ?_); (case hc => rfl)) | ((with_reducible refine wpAny_ite_true ?hc ?_); (case hc => rfl)) | ((with_reducible refine' collect_list ?hl ?_ ?hs); (case hl => assumption); (case hs => exact Nat.le_of_ble_eq_true rfl)) | wp_delta))
  show Q { names := [Builtin.Slots.mangle cls (Str.ofString "obj")], dict := false, weak := false, inherited := [] } { s with heap := H }
  rw [hm]
  refine h H fun b o e => ?_
  rw [← hH]
  have hb : b ≠ s.heap.objs.size := Nat.ne_of_lt (Heap.lt_size e)
  exact (Heap.get?_update_other _ _ (Ne.symm hb)).trans (Heap.get?_push_of_some _ e)
end
end Mine
end
section
open PySem PySem.Calls PySem.W PyProof.Rows
namespace Mine
variable [iO : Old]
inductive Stop : {α : Type} → Sem α → Prop
  | read (c : Str) (bs : List Value) (es : Array DictEntry) : Stop (Builtin.Slots.read c bs es)
  | newObj (c : Value) (d : Data) (o : Option Addr) : Stop (newObj c d o)
  | nsSet (a : Addr) (n : Str) (v : Value) : Stop (nsSet a n v)
  | nsSetV (a : Addr) (n : Str) (v : Value) : Stop (nsSetByValue a n v)
  | nsGet (a : Addr) (n : Str) : Stop (nsGet a n)
  | nsDel (a : Addr) (n : Str) : Stop (nsDel a n)
  | setSlot (a : Addr) (i : Nat) (v : Option Value) : Stop (setSlotAt a i v)
  | slotAt (a : Addr) (i : Nat) : Stop (slotAt a i)
  | updCls (a : Addr) (f : ClassData → ClassData) : Stop (updateCls a f)
  | install (v : Value) (a : Addr) (bs : List Value) (p : Builtin.Slots.Plan) : Stop (Builtin.Slots.install v a bs p)
  | madeBy (v : Value) : Stop (Bind.madeBy v)
  | refresh (a : Addr) : Stop (Bind.refreshMaker a)
  | weak (v : Value) : Stop (Builtin.Slots.givesWeak v)
  | entries (a : Addr) (p : Option Value) : Stop (dictEntries a p)
  | getAttr (v : Value) (n : Str) (b : Bool) : Stop (getAttr v n b)
  | special (v : Value) (n : Str) : Stop (specialOf v n)
  | note (n : String) (a : Addr) : Stop (Builtin.noteSubclassOfBuiltin n a)
  | lin (bs : List Value) (f : Value → Sem (List Value)) : Stop (Builtin.linearize bs f)
  | hook (v : Value) : Stop (Builtin.mroHook? v)
  | forInA {α β : Type} (l : Array α) (b : β) (f : α → β → Sem (ForInStep β)) : Stop (forIn l b f)
theorem stp {α : Type} {m : Sem α} {M : Model} {A : Around} {E : Value → Shared → Prop} {s : Shared} {Q : α → Shared → Prop} (_ : Stop m) (h : wpAny M A m Q E s) : wpAny M A m Q E s := h
section
variable {M : Model} {A : Around} {E : Value → Shared → Prop} {s : Shared}
end
noncomputable def kvs0 (m0 q v1 L f0 f1 f2 f3 f4 f5 st : Value) : List (Str × Value) :=
  [("__module__", m0), ("__qualname__", q), ("__firstlineno__", v1), ("__slots__", L), ("__init__", f0), ("__lt__", f1), ("__gt__", f2), ("__eq__", f3), ("__le__", f4), ("__ge__", f5), ("__hash__", .none), ("__static_attributes__", st)]
section
variable {M : Model} {A : Around} {E : Value → Shared → Prop} {s : Shared}
noncomputable abbrev clsO (cd : ClassData) (sl : Array (Option Value)) : Obj := { cls := .type "type", data := .cls cd, slots := sl }
noncomputable def setAt (sl : Array (Option Value)) (i : Nat) (v : Option Value) : Array (Option Value) := (sl ++ Array.replicate (i + 1 - sl.size) none).setIfInBounds i v
theorem r_setSlot {a : Addr} {i : Nat} {v : Option Value} {cd : ClassData} {sl : Array (Option Value)} {Q : Unit → Shared → Prop} (x : s.heap.get? a = some (clsO cd sl)) (hi : i < 100)
    (k : ∀ H, H.get? a = some (clsO cd (setAt sl i v)) → Heap.SameBut a s.heap H → Q () { s with heap := H }) : wpAny M A (setSlotAt a i v) Q E s := by
  unfold setSlotAt
  have hn : ¬ i ≥ sizeLine := by rw [sizeLine_eq]; lia
  have u : wpAny M A (updatePart a (some (slotPart i)) fun o => { o with slots := (o.slots ++ Array.replicate (i + 1 - o.slots.size) none).setIfInBounds i v }) Q E s :=
    wpAny_updatePart x (k _ (Heap.get?_update_self _ x rfl) (Heap.SameBut.update s.heap a _))
  first
    | rw [if_neg hn]; exact u
    | exact wpAny_bind (by rw [if_neg hn]; exact wpAny_pure u)
theorem r_updCls {a : Addr} {f : ClassData → ClassData} {cd : ClassData} {sl : Array (Option Value)} {Q : Unit → Shared → Prop} (x : s.heap.get? a = some (clsO cd sl)) (hp : (Data.cls (f cd)).pastItsLine = none)
    (k : ∀ H, H.get? a = some (clsO (f cd) sl) → Heap.SameBut a s.heap H → Q () { s with heap := H }) : wpAny M A (updateCls a f) Q E s := by
  unfold updateCls
  have e := Heap.get?_update_self (Obj.mapCls f) x rfl
  refine wpAny_bind (wpAny_load x (wpAny_bind (wpAny_update x ?_)))
  unfold lookBehind
  refine wpAny_bind (wpAny_loadPart e ?_)
  rw [show (Obj.mapCls f (clsO cd sl)).data.pastItsLine = none from hp]
  exact wpAny_pure (k _ e (Heap.SameBut.update s.heap a _))
structure TN (h₀ h : Heap) (ns a : Addr) (kvs : List (Str × Value)) (cd : ClassData) (sl : Array (Option Value)) : Prop where
  keep : ∀ b o, h₀.get? b = some o → h.get? b = some o
  nsL : NsL h ns kvs
  cls : h.get? a = some (clsO cd sl)
  ns0 : h₀.get? ns = none
  a0 : h₀.get? a = none
  ne : ns ≠ a
section
variable {h₀ h' : Heap} {ns a : Addr} {kvs kvs' : List (Str × Value)} {cd cd' : ClassData} {sl sl' : Array (Option Value)}
theorem TN.atA (T : TN h₀ s.heap ns a kvs cd sl) (hs : Heap.SameBut a s.heap h') (hc : h'.get? a = some (clsO cd' sl')) : TN h₀ h' ns a kvs cd' sl' :=
  ⟨fun b o e => hs.extBut b o (fun z => by rw [z, T.a0] at e; injection e) (T.keep b o e), T.nsL.at fun o e => hs.extBut ns o T.ne e, hc, T.ns0, T.a0, T.ne⟩
theorem TN.atN (T : TN h₀ s.heap ns a kvs cd sl) (hs : Heap.SameBut ns s.heap h') (hc : NsL h' ns kvs') : TN h₀ h' ns a kvs' cd sl :=
  ⟨fun b o e => hs.extBut b o (fun z => by rw [z, T.ns0] at e; injection e) (T.keep b o e), hc, hs.extBut a _ (Ne.symm T.ne) T.cls, T.ns0, T.a0, T.ne⟩
theorem TN.grow (T : TN h₀ s.heap ns a kvs cd sl) (k : ∀ b o, s.heap.get? b = some o → h'.get? b = some o) : TN h₀ h' ns a kvs cd sl :=
  ⟨fun b o e => k b o (T.keep b o e), T.nsL.at fun o e => k ns o e, k _ _ T.cls, T.ns0, T.a0, T.ne⟩
theorem tn_slot {i : Nat} {v : Option Value} {Q : Unit → Shared → Prop} (T : TN h₀ s.heap ns a kvs cd sl) (hi : i < 100) (k : ∀ H, TN h₀ H ns a kvs cd (setAt sl i v) → Q () { s with heap := H }) : wpAny M A (setSlotAt a i v) Q E s :=
  r_setSlot T.cls hi fun H e hs => k H (T.atA hs e)
theorem tn_slotTo {i : Nat} {v : Option Value} {Q : Unit → Shared → Prop} (sl' : Array (Option Value)) (T : TN h₀ s.heap ns a kvs cd sl) (hi : i < 100) (hsl : setAt sl i v = sl') (k : ∀ H, TN h₀ H ns a kvs cd sl' → Q () { s with heap := H }) : wpAny M A (setSlotAt a i v) Q E s :=
  tn_slot T hi (hsl ▸ k)
theorem tn_slotK {i : Nat} {v : Option Value} {Q : Unit → Shared → Prop} (sl' : Array (Option Value)) (T : TN h₀ s.heap ns a kvs cd sl) (hi : i < 100) (hsl : setAt sl i v = sl') (k : ∀ H, TN h₀ H ns a kvs cd sl' → Heap.SameBut a s.heap H → Q () { s with heap := H }) : wpAny M A (setSlotAt a i v) Q E s :=
  r_setSlot T.cls hi fun H e hs => k H (T.atA hs (hsl ▸ e)) hs
theorem tn_upd {f : ClassData → ClassData} {Q : Unit → Shared → Prop} (T : TN h₀ s.heap ns a kvs cd sl) (hp : (Data.cls (f cd)).pastItsLine = none) (k : ∀ H, TN h₀ H ns a kvs (f cd) sl → Q () { s with heap := H }) : wpAny M A (updateCls a f) Q E s :=
  r_updCls T.cls hp fun H e hs => k H (T.atA hs e)
theorem tn_getS {n : Str} {v : Value} {Q : Option Value → Shared → Prop} (T : TN h₀ s.heap ns a kvs cd sl) (e : kvs.lookup n = some v) (h : Q (some v) s) : wpAny M A (nsGet ns n) Q E s := nsGetS T.nsL e h
theorem tn_getN {n : Str} {Q : Option Value → Shared → Prop} (T : TN h₀ s.heap ns a kvs cd sl) (e : kvs.lookup n = none) (h : Q none s) : wpAny M A (nsGet ns n) Q E s := nsGetN T.nsL e h
theorem tn_setKeep {n : Str} {v : Value} {Q : Unit → Shared → Prop} (T : TN h₀ s.heap ns a kvs cd sl) (k : ∀ H tk, TN h₀ H ns a (setK kvs n v) cd sl → Heap.SameBut ns s.heap H → Q () { s with heap := H, toks := tk }) : wpAny M A (nsSet ns n v) Q E s :=
  nsSetL T.nsL fun H hn hs => k H _ (T.atN hs hn) hs
theorem tn_del {n : Str} {Q : Bool → Shared → Prop} (T : TN h₀ s.heap ns a kvs cd sl) (hn : (kvs.lookup n).isSome = true) (k : ∀ H, TN h₀ H ns a (delK kvs n) cd sl → Q true { s with heap := H }) : wpAny M A (nsDel ns n) Q E s :=
  nsDelL T.nsL hn fun H hn hs => k H (T.atN hs hn)
theorem tn_alloc {o : Obj} {Q : Addr → Shared → Prop} (ho : o = clsO cd #[]) (hN : NsL s.heap ns kvs) (keep : ∀ b o, h₀.get? b = some o → s.heap.get? b = some o) (n0 : h₀.get? ns = none)
    (k : ∀ H a, TN h₀ H ns a kvs cd #[] → Q a { s with heap := H }) : wpAny M A (alloc o) Q E s := by
  subst ho
  have n1 := size_none s.heap
  refine wpAny_alloc (k _ _ ⟨fun b o e => Heap.get?_push_of_some _ (keep b o e), hN.at fun o e => Heap.get?_push_of_some _ e, Heap.get?_push_size _ rfl, n0, ?_, fun z => ?_⟩)
  · cases e : h₀.get? s.heap.objs.size with
    | none => rfl
    | some o => rw [keep _ _ e] at n1; injection n1
  · obtain ⟨es, ep, e, _⟩ := hN
    rw [z, n1] at e; injection e
end
theorem ref_bne (a : Addr) : (Value.ref a != Value.ref a) = false := by simp
theorem r_lin {bs : List Value} {Q : List Value → Shared → Prop} (hb : bs = [.type "object"]) (h : Q [.type "object"] s) : wpAny M A (Builtin.linearize bs mroOf) Q E s := by subst hb; exact wpAny_of_eq t_lin h
theorem r_newDict {es : Array DictEntry} {kvs : List (Str × Value)} {Q : Value → Shared → Prop} (hE : Ents es.toList kvs) (hs : sizeOk (.dict es 0))
    (h : ∀ H a, NsL H a kvs → (∀ b o, s.heap.get? b = some o → H.get? b = some o) → s.heap.get? a = none → s.heap.objs.size = a → Q (.ref a) { s with heap := H }) : wpAny M A (newObj (.type "dict") (.dict es)) Q E s :=
  wpAny_newObj_type (h _ _ ⟨es, 0, Heap.get?_push_size _ rfl, hE⟩ (fun b o e => Heap.get?_push_of_some _ e) (size_none _) rfl) hs
end
section
variable {M : Model} {A : Around} {E : Value → Shared → Prop} {s : Shared} {a : Addr} {cd : ClassData} {sl : Array (Option Value)} {kvs : List (Str × Value)}
theorem mro_ref {Q : List Value → Shared → Prop} (hc : s.heap.get? a = some (clsO cd sl)) (h : Q cd.mro s) : wpAny M A (mroOf (.ref a)) Q E s := by
  unfold mroOf classData
  exact wpAny_bind (wpAny_bind (wpAny_load hc (wpAny_pure (wpAny_pure h))))
theorem tl_obj {n : Str} {r : Option Value} {Q : Option Value → Shared → Prop} (hc : s.heap.get? a = some (clsO cd sl)) (hm : cd.mro = [.ref a, .type "object"]) (hn : NsL s.heap cd.ns kvs) (e : kvs.lookup n = none) (ho : builtinOwn "object" n = r) (h : Q r s) : wpAny M A (typeLookup (.ref a) n) Q E s := by
  unfold typeLookup
  refine wpAny_bind (mro_ref hc ?_)
  rw [hm]
  show wpAny _ _ (forIn [Value.ref a, Value.type "object"] _ _ >>= _) _ _ _
  rw [List.forIn_cons]
  refine wpAny_bind (wpAny_bind ?_)
  unfold classOwn classData
  refine wpAny_bind (wpAny_bind (wpAny_bind (wpAny_load hc (wpAny_pure ?_))))
  refine nsGetN hn e ?_
  refine wpAny_pure ?_
  wp_delta
  rw [List.forIn_cons]
  refine wpAny_bind (wpAny_bind ?_)
  show wpAny _ _ (pure (builtinOwn "object" n)) _ _ _
  rw [ho]
  cases r with
  | none => exact wpAny_pure (wpAny_pure (by wp_delta; rw [List.forIn_nil]; exact wpAny_pure (wpAny_pure h)))
  | some v => repeat (first | exact h | refine wpAny_pure ?_ | wp_delta)
end
theorem r_try {α : Type} {M : Model} {A : Around} {E : Value → Shared → Prop} {s : Shared} {m : Sem α} {k : Value → Sem α} {Q : α → Shared → Prop} (h : wpAny M A m Q (fun e s' => wpAny M A (k e) Q E s') s) : wpAny M A (Sem.tryCatch m k) Q E s := wpAny_tryCatch h
set_option hygiene false in
local macro_rules | `(tactic| ktr_rel) => `(tactic| repeat (first
  | (with_reducible first | refine r_try ?_ | refine wpAny_fresh ?_ | refine wpAny_mkText ?_ | refine wpAny_pure ?_ | refine wpAny_bind ?_ | refine wpAny_holding ?_ | refine wpAny_rule ?_ | refine wpAny_of_eq (by assumption) ?_ | refine wpAny_isInstance (by assumption) (by assumption) ?_ | refine wpAny_specialOf (by assumption) (by assumption) ?_ | refine wpAny_typeOf (by assumption) ?_ | refine wpAny_seqItems (by assumption) rfl ?_ | refine wpAny_load (by assumption) ?_ | refine wpAny_loadPart (by assumption) ?_)
  | ((with_reducible refine wpAny_ite_false ?hc ?_); (case hc => rfl))
  | ((with_reducible refine wpAny_ite_true ?hc ?_); (case hc => rfl))
  | ((with_reducible refine' r_turned ?hl ?_); (case hl => rfl))
  | ((with_reducible refine' r_ext ?hl ?_); (case hl => rfl))
  | ((with_reducible refine' tn_getS ?hl ?he ?_); (case hl => assumption); (case he => rfl))
  | ((with_reducible refine' tn_getN ?hl ?he ?_); (case hl => assumption); (case he => rfl))
  | ((with_reducible refine' nsGetS ?hl ?he ?_); (case hl => assumption); (case he => rfl))
  | ((with_reducible refine' nsGetN ?hl ?he ?_); (case hl => assumption); (case he => rfl))
  | (with_reducible first | refine wpAny_ite_false (by assumption) ?_ | refine wpAny_ite_true (by assumption) ?_)
  | ((fail_if_success (with_reducible refine' stp (by constructor) ?_)); wp_delta)))
section
variable {M : Model} {A : Around} {E : Value → Shared → Prop} {s : Shared} {h₀ : Heap} {ns a : Addr} {kvs : List (Str × Value)} {cd : ClassData} {sl : Array (Option Value)}
theorem r_refresh {v : Value} {Q : Unit → Shared → Prop} (T : TN h₀ s.heap ns a kvs cd sl) (hm : cd.mro = [.ref a, .type "object"]) (hns : cd.ns = ns) (hs : (sl[4]?).join = some v) (hk : kvs.lookup ("__new__" : Str) = none) (h : Q () s) : wpAny M A (Bind.refreshMaker a) Q E s := by
  have c9 := T.cls
  have n9 : NsL s.heap cd.ns kvs := by rw [hns]; exact T.nsL
  unfold Bind.refreshMaker slotAt
  ktr_rel
  rw [hs]
  ktr_rel
  refine tl_obj (r := some (.builtin "object.__new__")) c9 hm n9 hk (by kernel_rfl) ?_
  ktr_rel
  refine wpAny_ite_false (by kernel_rfl) ?_
  exact wpAny_pure h
theorem r_install {Q : Unit → Shared → Prop} {p : Builtin.Slots.Plan} {bs : List Value} (hb : bs = [.type "object"]) (hp : p = { names := [Str.ofString "obj"], dict := false, weak := false, inherited := [] }) (T : TN h₀ s.heap ns a kvs cd sl) (hk : kvs.lookup ("obj" : Str) = none) (hl : kvs.length ≤ 1000)
    (hcp : (Data.cls { cd with hasDict := false, slotNames := ["obj"] }).pastItsLine = none)
    (h : ∀ H tk d t, TN h₀ H ns a (setK kvs "obj" (.ref d)) { cd with hasDict := false, slotNames := ["obj"] } sl → h₀.get? d = none → H.get? d = some { cls := .type "member_descriptor", data := .fields #[.str "obj" t, .ref a, .builtin "proto.slot", .builtin "proto.slot#set", rawInt 0] } → Q () { s with heap := H, toks := tk }) :
    wpAny M A (Builtin.Slots.install (.ref a) ns bs p) Q E s := by
  subst hb hp
  unfold Builtin.Slots.install
  ktr_rel
  refine tn_getN T hk ?_
  ktr_rel
  refine wpAny_newObj_type ?_ (by exact Nat.le_of_ble_eq_true rfl)
  have T2 := T.grow (h' := s.heap.push { cls := .type "member_descriptor", data := .fields #[.str "obj" s.toks, .ref a, .builtin "proto.slot", .builtin "proto.slot#set", rawInt 0] }) fun b o e => Heap.get?_push_of_some _ e
  have hd := Heap.get?_push_size s.heap (o := { cls := .type "member_descriptor", data := .fields #[.str "obj" s.toks, .ref a, .builtin "proto.slot", .builtin "proto.slot#set", rawInt 0] }) rfl
  have h0 : h₀.get? s.heap.objs.size = none := by
    cases e : h₀.get? s.heap.objs.size with
    | none => rfl
    | some o => exact absurd (Heap.lt_size (T.keep _ _ e)) (Nat.lt_irrefl _)
  have hne : s.heap.objs.size ≠ ns ∧ s.heap.objs.size ≠ a := by
    refine ⟨fun z => ?_, fun z => ?_⟩
    · obtain ⟨es, ep, e, _⟩ := T.nsL
      rw [← z] at e; exact absurd (Heap.lt_size e) (Nat.lt_irrefl _)
    · have e := T.cls
      rw [← z] at e; exact absurd (Heap.lt_size e) (Nat.lt_irrefl _)
  ktr_rel
  refine nsSetByValueL (s := { s with heap := _, toks := s.toks + 1 }) T2.nsL hl fun H hn hs => ?_
  have T3 := T2.atN (s := { s with heap := _ }) hs hn
  have hd3 := hs.extBut _ _ hne.1 hd
  ktr_rel
  wp_delta
  refine r_updCls T3.cls hcp fun H2 e2 hs2 => ?_
  exact h H2 _ _ _ (T3.atA (s := { s with heap := H }) hs2 e2) h0 (hs2.extBut _ _ hne.2 hd3)
end
section
variable {M : Model} {A : Around} {E : Value → Shared → Prop} {s : Shared} {a : Addr} {cd : ClassData} {sl : Array (Option Value)}
theorem st_forIn {α β : Type} {l : List α} {b : β} {f : α → β → Sem (ForInStep β)} {Q : β → Shared → Prop} (h : wpAny M A (forIn l b f) Q E s) : wpAny M A (forIn l b f) Q E s := h
theorem looks_self {h : Heap} (hc : h.get? a = some (clsO cd sl)) (hm : cd.mro = [.ref a, .type "object"]) : Looks M h (isSubtype (.ref a) (.ref a)) true := by
  intro A Q E s k q
  unfold isSubtype
  refine wpAny_bind (mro_ref (k _ _ hc) ?_)
  rw [hm]
  dsimp only
  rw [if_neg (by simp)]
  have : [Value.ref a, Value.type "object"].contains (Value.ref a) = true := by simp
  rw [this]
  exact wpAny_pure q
theorem looks_top {h : Heap} (hc : h.get? a = some (clsO cd sl)) (hm : cd.mro = [.ref a, .type "object"]) : Looks M h (isSubtype (.ref a) (.type "object")) true := by
  intro A Q E s k q
  unfold isSubtype
  refine wpAny_bind (mro_ref (k _ _ hc) ?_)
  rw [hm]
  dsimp only
  rw [if_neg (by simp)]
  have : [Value.ref a, Value.type "object"].contains (Value.type "object") = true := by simp
  rw [this]
  exact wpAny_pure q
theorem looks_isType {h : Heap} (hc : h.get? a = some (clsO cd sl)) : Looks M h (isType (.ref a)) true := fun A Q E s k q => by
  obtain ⟨hp, g, d, t, os⟩ := s
  exact ks_wpAny_isType_cls (k _ _ hc) rfl q
theorem looks_mro {h : Heap} (hc : h.get? a = some (clsO cd sl)) : Looks M h (mroOf (.ref a)) cd.mro := fun A Q E s k q => mro_ref (k _ _ hc) q
end
section
variable {prog : Program} {w : World} {A : Around} {E : Value → Shared → Prop} {h : Heap} {g : Array GenState} {d : Drawn} {t : Nat} {os : OsState} {D : Addr} {cd : ClassData} {sl : Array (Option Value)}
theorem call_super_cls {Q : Value → Shared → Prop} (hD : h.get? D = some (clsO cd sl)) (hm : cd.mro = [.ref D, .type "object"])
    (hq : ∀ h' so, h'.get? so = some { cls := .type "super", dict := none, data := .fields #[.ref D, .ref D, .ref D], slots := #[] } → (∀ y o, h.get? y = some o → h'.get? y = some o) → Q (.ref so) ⟨h', g, d, t, os⟩) :
    wpAny (model prog w) A (call (.type "super") [.ref D, .ref D]) Q E ⟨h, g, d, t, os⟩ := by
  refine ks_callType_codesW (Q₁ := fun obj s₁ => obj = .ref h.objs.size ∧ s₁ = ⟨h.push { cls := .type "super", data := .fields #[.none, .none, .none] }, g, d, t, os⟩) PySem.F.ks_called_super (ks_wpAny_checkTypeCall_super hD rfl) PySem.F.ks_entry_super_init
    (ks_code_super_new _ _ ⟨rfl, rfl⟩) fun obj s₁ h₁ => ?_
  obtain ⟨rfl, rfl⟩ := h₁
  have up : ∀ y o, h.get? y = some o → (h.push { cls := .type "super", data := .fields #[.none, .none, .none] }).get? y = some o := fun y o e => Heap.get?_push_of_some _ e
  have hso : (h.push { cls := .type "super", data := .fields #[.none, .none, .none] }).get? h.objs.size = some { cls := .type "super", dict := none, data := .fields #[.none, .none, .none], slots := #[] } := Heap.get?_push_at rfl rfl
  have hD' := up _ _ hD
  have hsub' := (looks_self (M := model prog w) hD hm).keeps up
  refine ⟨⟨_, hso, rfl⟩, PySem.F.ks_initArgs_super _ _ _, ?_⟩
  unfold Builtin.«super.__init__» noKeywords
  repeat (first | (with_reducible refine ks_wpAny_isType_cls hD' rfl ?_) | (with_reducible refine Looks.at hsub' ?_) | (with_reducible refine ks_wpAny_super_set3 hso ?_) | wp_step)
  all_goals first
    | (intro h' e k; exact ⟨rfl, hq h' _ e fun y o ey => k y o (Nat.ne_of_lt (Heap.lt_size ey)) (up y o ey)⟩)
    | (refine ks_wpAny_super_set3 hso ?_; intro h' e k; exact ⟨rfl, hq h' _ e fun y o ey => k y o (Nat.ne_of_lt (Heap.lt_size ey)) (up y o ey)⟩)

theorem owner_is : (kfb_private% "ownerAndName") "object.__init_subclass__" = ("object", "__init_subclass__") := by first | decide +kernel | kernel_rfl
theorem type_is : typeOf (.builtin "object.__init_subclass__") = pure (.type "classmethod_descriptor") := by show builtinType _ = _; rw [builtinType_eq_fast]; kernel_rfl
noncomputable abbrev initSub (D : Addr) : Obj := { cls := .type "builtin_function_or_method", data := .fields #[.builtin "object.__init_subclass__", .ref D] }
theorem run_get_is {P : Fin → Shared → Prop} {s : Shared} (hD : s.heap.get? D = some (clsO cd sl)) (hm : cd.mro = [.ref D, .type "object"]) (h : P (.done (.ret (.ref s.heap.objs.size))) { s with heap := s.heap.push (initSub D) }) :
    wpAny (model prog w) A (Builtin.«classmethod_descriptor.__get__» ⟨[.builtin "object.__init_subclass__", .none, .ref D], []⟩) P E s := by
  unfold Builtin.«classmethod_descriptor.__get__»
  refine wpAny_bind (wpAny_of_eq (a := (.builtin "object.__init_subclass__", none, some (.ref D))) (by first | rfl | kernel_rfl) ?_)
  simp only [owner_is]
  refine wpAny_bind (wpAny_of_eq (a := .ref D) rfl ?_)
  refine wpAny_bind (looks_isType (M := model prog w) hD A _ E s (fun _ _ e => e) ?_)
  refine KFB.if_not rfl ?_
  refine wpAny_bind (looks_top (M := model prog w) hD hm A _ E s (fun _ _ e => e) ?_)
  refine KFB.if_not rfl ?_
  exact wpAny_bind (wpAny_newObj_type (wpAny_pure h))
theorem super_init_sub {so : Addr} {Q : Value → Shared → Prop} {K : Frag} (X : K.In h) (hop : nsIn K cStatics "thirdparty.any" = some none) (hD : h.get? D = some (clsO cd sl)) (hm : cd.mro = [.ref D, .type "object"])
    (hso : h.get? so = some { cls := .type "super", dict := none, data := .fields #[.ref D, .ref D, .ref D], slots := #[] })
    (hq : ∀ h' f tk, h'.get? f = some { cls := .type "builtin_function_or_method", data := .fields #[.builtin "object.__init_subclass__", .ref D] } → (∀ y o, h.get? y = some o → h'.get? y = some o) → Q (.ref f) ⟨h', g, d, tk, os⟩) :
    wpAny (model prog w) A (getAttr (.ref so) (Str.ofString "__init_subclass__")) Q E ⟨h, g, d, t, os⟩ := by
  have hlk := PySem.F.ks_slot_super_ga.lookup
  have hT : ∀ t', (⟨h, g, d, t', os⟩ : Shared).TypeIs (.ref so) "super" := fun _ => ⟨_, hso, rfl⟩
  unfold getAttr getAttrBy
  refine wpAny_bind (wpAny_mkText (wpAny_holding (wpAny_bind (wpAny_typeOf (hT _) (wpAny_bind (wpAny_of_eq hlk ?_))))))
  show wpAny _ _ (getAttrByItsOwn (.ref so) (.str (Str.ofString "__init_subclass__") t) (.type "super") (.builtin "super.__getattribute__") true false) _ _ _
  unfold getAttrByItsOwn hookBefore callGetattribute boundAndCalled
  refine wpAny_bind (wpAny_of_eq (show (if onTheHeap (.type "super") then typeLookup (.type "super") "__getattr__" else pure none) = pure none from rfl) ?_)
  refine wpAny_bind (wpAny_attempt (wpAny_holding ?_))
  show wpAny _ _ (bindSpecial (.builtin "super.__getattribute__") (.ref so) >>= _) _ _ _
  refine wpAny_bind (wpAny_of_eq (PySem.F.ks_slot_super_ga.bind _) ?_)
  refine wpAny_call_entry PySem.F.ks_slot_super_ga (hT _) PySem.F.ks_entry_super_ga ?_ (PySem.F.ks_gaArgs_super _ _)
  have hno : Looks (model prog w) h (opaqueClassAbove (.ref D)) none := looks_opaque X hop
  have hmr : Looks (model prog w) h (mroOf (.ref D)) [.ref D, .type "object"] := hm ▸ looks_mro (M := model prog w) hD
  have hdt : ({ cls := .type "super", dict := none, data := .fields #[.ref D, .ref D, .ref D], slots := #[] } : Obj).data = .fields #[.ref D, .ref D, .ref D] := rfl
  have f0 : (#[.ref D, .ref D, .ref D] : Array Value)[0]? = some (.ref D) := rfl
  have f1 : (#[.ref D, .ref D, .ref D] : Array Value)[1]? = some (.ref D) := rfl
  have f2 : (#[.ref D, .ref D, .ref D] : Array Value)[2]? = some (.ref D) := rfl
  unfold Builtin.«super.__getattribute__»
  repeat (first
    | (with_reducible refine wpAny_field hso hdt f0 ?_) | (with_reducible refine wpAny_field hso hdt f1 ?_) | (with_reducible refine wpAny_field hso hdt f2 ?_)
    | (with_reducible refine ks_wpAny_notOpaque hno ?_)
    | (with_reducible refine Looks.at hmr ?_)
    | ((fail_if_success (with_reducible refine' st_forIn ?_)); wp_step))
  rw [show List.drop 1 (List.dropWhile (fun x => x != Value.ref D) [Value.ref D, Value.type "object"]) = [Value.type "object"] by simp]
  rw [List.forIn_cons]
  have q1 : builtinOwn "object" (Str.ofString "__init_subclass__") = some (.builtin "object.__init_subclass__") := by kernel_rfl
  have q2 : typeOf (.builtin "object.__init_subclass__") = pure (.type "classmethod_descriptor") := by kernel_rfl
  have q3 : typeLookup (.type "classmethod_descriptor") (Str.ofString "__get__") = pure (some (.builtin "classmethod_descriptor.__get__")) := by rw [typeLookup_type, builtinLookup_eq_fast]; kernel_rfl
  refine wpAny_bind (wpAny_bind ?_)
  show wpAny _ _ (pure (builtinOwn "object" (Str.ofString "__init_subclass__"))) _ _ _
  rw [q1]
  refine wpAny_pure (wpAny_bind (wpAny_of_eq q2 (wpAny_bind (wpAny_of_eq q3 (wpAny_bind (wpAny_holding ?_))))))
  rw [if_pos (by simp)]
  refine wpAny_call_entry KFB.slot_get type_is KFB.entry_get (run_get_is (s := { heap := h, gens := g, drawn := d, toks := t + 1, os := os }) hD hm ⟨_, rfl, ?_⟩) (KFB.args_get _ _ _)
  repeat (first | with_reducible refine wpAny_pure ?_ | with_reducible refine wpAny_bind ?_ | wp_delta)
  refine ⟨_, rfl, ?_⟩
  show wpAny _ _ (handedOut (.ref _)) _ _ _
  exact wpAny_pure (hq _ _ _ (Heap.get?_push_size _ rfl) fun y o e => Heap.get?_push_of_some _ e)

theorem entry_is : entryFor table "object.__init_subclass__" = some Builtin.«object.__init_subclass__» := entryFor_of_tree (by kernel_rfl)
theorem check_is (D : Addr) (full : String) (hf : full = "cmp_to_key.<locals>.K.__init_subclass__") : ∀ sig, Manifest.signature? "object.__init_subclass__" = some sig → Bind.checkArgs "object.__init_subclass__" { sig with full := full } ⟨[.ref D], []⟩ = pure () := by
  subst hf
  intro sig h
  have : (Manifest.signature? "object.__init_subclass__").map (fun sig => Bind.checkArgs "object.__init_subclass__" { sig with full := "cmp_to_key.<locals>.K.__init_subclass__" } ⟨[.ref D], []⟩) = some (pure ()) := by kernel_rfl
  rw [h] at this
  exact Option.some.inj this
theorem call_init_sub {f : Addr} {Q : Value → Shared → Prop} {s : Shared} (hf : s.heap.get? f = some (initSub D)) (hD : s.heap.get? D = some (clsO cd sl)) (hm : cd.mro = [.ref D, .type "object"]) (hqn : cd.qualname = "cmp_to_key.<locals>.K") (h : Q .none s) : wpAny (model prog w) A (call (.ref f) []) Q E s := by
  obtain ⟨hh, g, dr, t, os⟩ := s
  refine wpAny_call (codeAny_of_tree ?_)
  show wpAny _ _ (callAny (.ref f) _) _ _ _
  dsimp only at hf hD
  refine nd_load hf ?_
  show wpAny _ _ (checkBoundCall "object.__init_subclass__" ⟨[.ref D], []⟩ >>= fun _ => again (.builtin "object.__init_subclass__" ⟨[.ref D], []⟩)) _ _ _
  refine wpAny_bind ?_
  have run : wpAny (model prog w) (A.under (.call (.ref f) ⟨[], []⟩)) (checkBoundCall "object.__init_subclass__" ⟨[.ref D], []⟩) (fun _ s' => s' = ⟨hh, g, dr, t, os⟩) (fun _ _ => False) ⟨hh, g, dr, t, os⟩ := by
    unfold checkBoundCall
    cases hs : Manifest.signature? "object.__init_subclass__" with
    | none => exact absurd hs (by decide +kernel)
    | some sig =>
      dsimp only
      rw [show builtinKind "object.__init_subclass__" = some .classMethod by decide +kernel]
      dsimp only
      have L2 : Looks (model prog w) hh (typeOf (.ref D)) (.type "type") := (Looks.ld hD).andThen .now
      have L4 : Looks (model prog w) hh (isInstance (.ref D) (.type "module")) false := L2.andThen (Looks.of_pure (by kernel_rfl))
      rw [if_neg (by decide)]
      refine wpAny_bind (L4.at ?_)
      rw [if_neg (by decide +kernel)]
      refine wpAny_bind ((looks_isType (M := model prog w) hD).at ?_)
      rw [if_pos rfl]
      refine wpAny_bind (wpAny_pure ?_)
      have L5 : Looks (model prog w) hh (classData D) cd := (Looks.ld hD).andThen .now
      refine wpAny_bind (L5.at (wpAny_bind (L2.at ?_)))
      rw [if_pos (by rfl)]
      exact wpAny_of_eq (check_is D _ (by rw [hqn]; decide +kernel) sig hs) rfl
  refine wpAny_mono run (fun _ s' e => ?_) fun _ _ x => x.elim
  subst e
  refine wpAny_pure ⟨Code.quiet_builtin _ (by decide +kernel), codeAny_builtin entry_is ?_⟩
  exact wpAny_pure h
end
theorem t_note (a : Addr) : Builtin.noteSubclassOfBuiltin "object" a = pure () := by kernel_rfl
theorem loop_stay {α β : Type} {M : Model} {A : Around} {E : Value → Shared → Prop} {s : Shared} {l : List α} {b : β} {f : α → β → Sem (ForInStep β)} {Q : β → Shared → Prop} (h : ∀ e ∈ l, ∀ Q' : ForInStep β → Shared → Prop, Q' (.yield b) s → wpAny M A (f e b) Q' E s) (hq : Q b s) : wpAny M A (forIn (⟨l⟩ : Array α) b f) Q E s := by
  rw [← Array.forIn_toList]
  show wpAny M A (forIn l b f) Q E s
  induction l with
  | nil => rw [List.forIn_nil]; exact wpAny_pure hq
  | cons e l ih =>
    rw [List.forIn_cons]
    exact wpAny_bind (h e (.head _) _ (ih fun e' he => h e' (.tail _ he)))
theorem Ents.mem {e : DictEntry} {es : List DictEntry} {kvs : List (Str × Value)} (r : Ents es kvs) (h : e ∈ es) : ∃ n t v, (n, v) ∈ kvs ∧ e.key = .str n t ∧ e.val = v := by
  induction r with
  | nil => cases h
  | cons r ih =>
    rcases List.mem_cons.mp h with rfl | h
    · exact ⟨_, _, _, .head _, rfl, rfl⟩
    · obtain ⟨n, t, v, m, q⟩ := ih h
      exact ⟨n, t, v, .tail _ m, q⟩
theorem Ents.has {es : List DictEntry} {kvs : List (Str × Value)} (r : Ents es kvs) (x : Str) : (Array.any ⟨es⟩ fun e : DictEntry => e.key.isStr x) = (kvs.lookup x).isSome := by
  rw [← Array.any_toList, ← r.find, Option.isSome_map, Bool.eq_iff_iff, List.any_eq_true, List.find?_isSome]
theorem Ents.at {es : List DictEntry} {kvs : List (Str × Value)} (r : Ents es kvs) {x : Str} {v : Value} (e : kvs.lookup x = some v) : ∃ en, Array.find? (fun e : DictEntry => e.key.isStr x) ⟨es⟩ = some en ∧ en.val = v := by
  rw [← r.find] at e
  obtain ⟨en, h1, h2⟩ := Option.map_eq_some_iff.mp e
  exact ⟨en, by rw [← Array.find?_toList]; exact h1, h2⟩
noncomputable def quietTypes : List String := ["str", "int", "list", "function", "NoneType", "tuple", "member_descriptor"]
noncomputable def Qt (s : Shared) (v : Value) : Prop := ∃ T ∈ quietTypes, s.TypeIs v T ∧ ∀ id, v ≠ .builtin id
theorem noSet : ∀ T ∈ quietTypes, typeLookup (.type T) (Str.ofString "__set_name__") = pure none := by
  intro T h
  simp only [quietTypes, List.mem_cons, List.not_mem_nil, or_false] at h
  rcases h with rfl | rfl | rfl | rfl | rfl | rfl | rfl <;> (rw [typeLookup_type, builtinLookup_eq_fast]; kernel_rfl)
inductive Qts (s : Shared) : List (Str × Value) → Prop
  | nil : Qts s []
  | cons {x : Str} {v : Value} {l : List (Str × Value)} : Qt s v → Qts s l → Qts s ((x, v) :: l)
theorem qts {s : Shared} {l : List (Str × Value)} (h : Qts s l) {n : Str} {v : Value} (m : (n, v) ∈ l) : Qt s v := by
  induction h with
  | nil => cases m
  | cons h t ih =>
    rcases List.mem_cons.mp m with e | e
    · cases e; exact h
    · exact ih e
theorem Qt.keeps {s s' : Shared} {v : Value} (x : Qt s v) (k : ∀ b o, s.heap.get? b = some o → s'.heap.get? b = some o) : Qt s' v := by
  obtain ⟨T, hm, ht, hb⟩ := x
  refine ⟨T, hm, ?_, hb⟩
  cases v with
  | ref a => obtain ⟨o, e, c⟩ := ht; exact ⟨o, k _ _ e, c⟩
  | _ => exact ht
noncomputable def kvsK (m0 v1 L f0 f1 f2 f3 f4 f5 st d : Value) : List (Str × Value) :=
  [("__module__", m0), ("__firstlineno__", v1), ("__slots__", L), ("__init__", f0), ("__lt__", f1), ("__gt__", f2), ("__eq__", f3), ("__le__", f4), ("__ge__", f5), ("__hash__", .none), ("__static_attributes__", st), ("obj", d), ("__doc__", .none)]
noncomputable def cdK (a ns : Addr) : ClassData := { name := "K", bases := [.type "object"], mro := [.ref a, .type "object"], ns := ns, qualname := "cmp_to_key.<locals>.K", hasDict := false, slotNames := ["obj"] }
noncomputable def slK (T : Addr) (tt tq : Tok) : Array (Option Value) := #[some (.ref T), none, some (.str "K" tt), some (.str "cmp_to_key.<locals>.K" tq), some (.builtin "object.__new__"), some (.bool false)]
noncomputable abbrev memO (td : Tok) (a : Addr) : Obj := { cls := .type "member_descriptor", data := .fields #[.str "obj" td, .ref a, .builtin "proto.slot", .builtin "proto.slot#set", rawInt 0] }
section
variable {prog : Program} {w : World} {A : Around} {E : Value → Shared → Prop}
set_option maxHeartbeats 8000000 in
theorem type_new {K : Frag} {s : Shared} {T nsA L : Addr} {tt t : Tok} {tq : Tok} {m0 v1 f0 f1 f2 f3 f4 f5 st : Value} {Q : Fin → Shared → Prop}
   (X : K.In s.heap) (hop : nsIn K cStatics "thirdparty.any" = some none) (hT : s.heap.get? T = some { cls := .type "tuple", data := .seq #[.type "object"] 0 }) (hns : NsL s.heap nsA (kvs0 m0 (.str "cmp_to_key.<locals>.K" tq) v1 (.ref L) f0 f1 f2 f3 f4 f5 st)) (hne : (nsA == sysModules) = false) (hL : s.heap.IsList L #[.str "obj" t]) (hqt : ∀ v ∈ [m0, v1, .ref L, f0, f1, f2, f3, f4, f5, st], Qt s v)
   (h : ∀ H a ns d td tk, TN s.heap H ns a (kvsK m0 v1 (.ref L) f0 f1 f2 f3 f4 f5 st (.ref d)) (cdK a ns) (slK T tt tq) → s.heap.get? d = none → H.get? d = some (memO td a) → Q (.done (.ret (.ref a))) { s with heap := H, toks := tk }) :
   wpAny (model prog w) A (Builtin.«type.__new__» ⟨[.type "type", .str "K" tt, .ref T, .ref nsA], []⟩) Q E s := by
  obtain ⟨⟨el⟩, ep, hn, hE⟩ := hns
  replace hE : Ents el (kvs0 m0 (.str "cmp_to_key.<locals>.K" tq) v1 (.ref L) f0 f1 f2 f3 f4 f5 st) := hE
  have hne' : decide ((nsA == sysModules) = true) = false := by rw [hne]; rfl
  have hTt : s.TypeIs (.ref T) "tuple" := ⟨_, hT, rfl⟩
  have hNt : s.TypeIs (.ref nsA) "dict" := ⟨_, hn, rfl⟩
  have q1 : isSubtype (.type "tuple") (.type "tuple") = pure true := by kernel_rfl
  have q2 : isSubtype (.type "dict") (.type "dict") = pure true := by kernel_rfl
  have q4 : isSubtype (.type "type") (Value.type ((Manifest.find? "object").elim "type" fun x => x.metatype)) = pure true := by rw [t_meta]; exact t_subT
  have q5 := t_iter
  unfold Builtin.«type.__new__»
  ktr_rel
  unfold dictEntries
  ktr_rel
  obtain ⟨en, hen1, hen2⟩ := hE.at (x := "__slots__") (v := .ref L) rfl
  have hmg : Builtin.Slots.mangle "K" "obj" = "obj" := by kernel_rfl
  refine wpAny_ite_true (decide_eq_true (Bool.or_eq_true_iff.mpr (.inr (by kernel_rfl)))) ?_
  ktr_rel
  refine' slots_read (en := en) ?a1 hen1 hen2 hL ?a5 hmg fun H1 k1 => ?a7
  case a1 => rfl
  case a5 => rw [hmg]; exact hE.has _
  case a7 =>
  refine wpAny_bind (r_newDict hE (show el.length ≤ _ by rw [hE.len]; exact Nat.le_of_ble_eq_true rfl) fun H2 ns hN k2 hnew hnsz => ?_)
  ktr_rel
  refine wpAny_ite_false (show decide ((!(Array.any _ fun x : DictEntry => x.key.isStr (Str.ofString "__module__"))) = true) = false by rw [hE.has]; rfl) ?_
  ktr_rel
  refine wpAny_ite_false (by kernel_rfl) ?_
  ktr_rel
  refine wpAny_ite_false (by kernel_rfl) ?_
  ktr_rel
  refine tn_alloc (h₀ := s.heap) (cd := { name := "K", bases := [.type "object"], mro := [], ns := ns, qualname := "cmp_to_key.<locals>.K" }) rfl hN (fun b o e => k2 b o (k1 b o e)) ?_ fun H3 a T3 => ?_
  · cases e : s.heap.get? ns with
    | none => rfl
    | some o => rw [k1 _ _ e] at hnew; cases hnew
  ktr_rel
  refine tn_slotTo #[some (.ref T)] T3 (by decide) rfl fun H4 T4 => ?_
  ktr_rel
  refine tn_slotTo #[some (.ref T), none, some (.str "K" tt)] T4 (by decide) rfl fun H5 T5 => ?_
  ktr_rel
  refine tn_slotTo #[some (.ref T), none, some (.str "K" tt), some (.str "cmp_to_key.<locals>.K" tq)] T5 (by decide) rfl fun H6 T6 => ?_
  ktr_rel
  refine tn_del T6 rfl fun H7 T7 => ?_
  ktr_rel
  refine wpAny_of_eq t_hook ?_
  ktr_rel
  refine r_lin rfl ?_
  ktr_rel
  rw [show List.filter (fun x => x != Value.ref a) [Value.ref a, Value.type "object"] = [Value.type "object"] by rw [List.filter_cons_of_neg (by rw [ref_bne]; decide), List.filter_cons_of_pos (by rfl)]; rfl]
  ktr_rel
  refine tn_upd T7 rfl fun H8 T8 => ?_
  obtain ⟨b, hb, T8⟩ : ∃ b, b = false ∧ TN s.heap H8 ns a _ { name := "K", bases := [.type "object"], mro := [.ref a, .type "object"], ns := ns, qualname := "cmp_to_key.<locals>.K", hasDel := b } _ := ⟨_, (by rw [Bool.or_false]; exact hE.has _), T8⟩
  subst hb
  ktr_rel
  refine wpAny_of_eq t_made ?_
  ktr_rel
  refine tn_slotTo #[some (.ref T), none, some (.str "K" tt), some (.str "cmp_to_key.<locals>.K" tq), some (.builtin "object.__new__")] T8 (by decide) rfl fun H9 T9 => ?_
  ktr_rel
  refine r_refresh T9 rfl rfl rfl rfl ?_
  ktr_rel
  refine r_install rfl rfl T9 rfl (Nat.le_of_ble_eq_true rfl) rfl fun H10 tk10 d td T10 hd0 hd10 => ?_
  ktr_rel
  refine wpAny_of_eq t_weak ?_
  ktr_rel
  refine tn_slotK #[some (.ref T), none, some (.str "K" tt), some (.str "cmp_to_key.<locals>.K" tq), some (.builtin "object.__new__"), some (.bool false)] T10 (by decide) rfl fun H11 T11 hs11 => ?_
  ktr_rel
  refine tn_setKeep T11 fun H12 tk12 T12 hs12 => ?_
  ktr_rel
  refine wpAny_of_eq (t_note a) ?_
  have d12 : H12.get? d = some (memO td a) := by
    have n1 : d ≠ a := fun z => by have := T10.cls; rw [← z, hd10] at this; exact absurd (congrArg Obj.cls (Option.some.inj this)) (by show Value.type "member_descriptor" ≠ Value.type "type"; decide)
    have n2 : d ≠ ns := fun z => by obtain ⟨_, _, e, _⟩ := T10.nsL; rw [← z, hd10] at e; exact absurd (congrArg Obj.cls (Option.some.inj e)) (by show Value.type "member_descriptor" ≠ Value.type "dict"; decide)
    exact hs12.extBut _ _ n2 (hs11.extBut _ _ n1 hd10)
  ktr_rel
  obtain ⟨⟨el12⟩, ep12, he12, hE12⟩ := T12.nsL
  refine wpAny_loadPart he12 ?_
  ktr_rel
  refine loop_stay (fun e he Q' hQ' => ?_) ?_
  · obtain ⟨n, t', v, _, hk, _⟩ := hE12.mem he
    rw [hk]
    refine wpAny_bind (wpAny_pure ?_)
    repeat (first | exact hQ' | with_reducible refine wpAny_pure ?_ | refine wpAny_ite_false rfl ?_ | wp_delta)
  ktr_rel
  refine loop_stay (fun e he Q' hQ' => ?_) ?_
  · obtain ⟨n, t', v, hm, hk, hv⟩ := hE12.mem he
    have hq : Qt { s with heap := H12, toks := tk12 } v := by
      have old : ∀ v, Qt s v → Qt { s with heap := H12, toks := tk12 } v := fun v x => x.keeps T12.keep
      obtain ⟨q0, g⟩ := List.forall_mem_cons.mp hqt
      obtain ⟨q1, g⟩ := List.forall_mem_cons.mp g
      obtain ⟨q2, g⟩ := List.forall_mem_cons.mp g
      obtain ⟨q3, g⟩ := List.forall_mem_cons.mp g
      obtain ⟨q4, g⟩ := List.forall_mem_cons.mp g
      obtain ⟨q5, g⟩ := List.forall_mem_cons.mp g
      obtain ⟨q6, g⟩ := List.forall_mem_cons.mp g
      obtain ⟨q7, g⟩ := List.forall_mem_cons.mp g
      obtain ⟨q8, g⟩ := List.forall_mem_cons.mp g
      obtain ⟨q9, _⟩ := List.forall_mem_cons.mp g
      have nn : Qt { s with heap := H12, toks := tk12 } .none := ⟨"NoneType", by decide, rfl, fun _ z => nomatch z⟩
      have md : Qt { s with heap := H12, toks := tk12 } (.ref d) := ⟨"member_descriptor", by decide, ⟨_, d12, rfl⟩, fun _ z => nomatch z⟩
      exact qts (.cons (old _ q0) (.cons (old _ q1) (.cons (old _ q2) (.cons (old _ q3) (.cons (old _ q4) (.cons (old _ q5) (.cons (old _ q6) (.cons (old _ q7) (.cons (old _ q8) (.cons nn (.cons (old _ q9) (.cons md (.cons nn .nil))))))))))))) hm
    obtain ⟨T', hT', hty, hnb⟩ := hq
    rw [hk, hv]
    refine wpAny_ite_false ?_ ?_
    · cases v <;> first | rfl | exact absurd rfl (hnb _)
    refine wpAny_bind (wpAny_specialOf hty (noSet T' hT') ?_)
    exact wpAny_pure hQ'
  ktr_rel
  refine call_super_cls T12.cls rfl fun H13 so hso k13 => ?_
  have T13 := T12.grow (s := { s with heap := H12 }) k13
  ktr_rel
  refine super_init_sub (K := K) (Frag.In.keeps X T13.keep) hop T13.cls rfl hso fun H14 f tk14 hf k14 => ?_
  have T14 := T13.grow (s := { s with heap := H13 }) k14
  ktr_rel
  refine call_init_sub (D := a) hf T14.cls rfl rfl ?_
  ktr_rel
  exact h _ _ _ _ td _ T14 hd0 (k14 _ _ (k13 _ _ d12))
end
end Mine
end
section
namespace Mine
end Mine
end
section
namespace Mine
end Mine
end
section
open PySem PySem.Calls PySem.W PyProof.Rows
namespace Mine
variable [iO : Old]
namespace TF
theorem slot_init : Slot "type" "__init__" "type.__init__" :=
  .of (owner := "type") (n := "__init__") (by rw [typeLookup_type, builtinLookup_eq_fast]; kernel_rfl) (by decide +kernel) (by decide +kernel) (by decide +kernel)
    (by first | exact .inl (by decide +kernel) | exact .inr (by decide +kernel)) (by rw [isSubtype_type]; kernel_rfl)
theorem entry_init : entryFor table "type.__init__" = some Builtin.«type.__init__» := entryFor_of_tree (by kernel_rfl)
theorem entry_new : entryFor table "type.__new__" = some Builtin.«type.__new__» := entryFor_of_tree (by kernel_rfl)
theorem args_init (o : Addr) (n : Str) (t : Tok) (b ns : Addr) : argsOk "type.__init__" ⟨[.ref o, .str n t, .ref b, .ref ns], []⟩ := by unfold argsOk; kernel_rfl
theorem newCall (n : Str) (t : Tok) (b ns : Addr) : checkBuiltinCall "type.__new__" ⟨[.type "type", .str n t, .ref b, .ref ns], []⟩ = pure () := by kernel_rfl
theorem typeCall (n : Str) (t : Tok) (b ns : Addr) : checkTypeCall "type" ⟨[.str n t, .ref b, .ref ns], []⟩ = pure () := by kernel_rfl
theorem canCreate : ((Manifest.find? "type").bind (·.mro.findSome? fun t => (Manifest.find? t).bind fun b => if b.noNew then some true else if b.attrs.any (·.1 == "__new__") then some false else none)).getD false = false := by kernel_rfl
theorem plain_new : plainId "type.__new__" = true := by decide +kernel
theorem mro : mroOf (.type "type") = pure [.type "type", .type "object"] := by rw [mroOf_type]; kernel_rfl
end TF
section
variable {prog : Program} {w : World} {A : Around} {E : Value → Shared → Prop} {s : Shared}
set_option maxHeartbeats 2000000 in
theorem call_type3 {n : Str} {t : Tok} {b ns : Addr} {Q : Value → Shared → Prop}
    (hnew : wpAny (model prog w) A.in1.in1 (Builtin.«type.__new__» ⟨[.type "type", .str n t, .ref b, .ref ns], []⟩) (fun fin s' => ∃ a cd sl, fin = .done (.ret (.ref a)) ∧ s'.heap.get? a = some (clsO cd sl) ∧ Q (.ref a) s') (fun _ _ => False) s) :
    wpAny (model prog w) A (call (.type "type") [.str n t, .ref b, .ref ns]) Q E s := by
  refine wpAny_call (codeAny_of_tree ?_)
  show wpAny _ _ (callAny (.type "type") _) _ _ _
  refine wpAny_pure ⟨Code.quiet_builtin _ (by decide +kernel), codeAny_builtin PySem.F.entry_type_call ?_⟩
  rw [Around.under_plain (weight_type_call_type "type" _ _) rfl]
  have h2 := TF.canCreate
  have hct := TF.typeCall n t b ns
  have hmro := TF.mro
  have hmade := t_madeT
  have hsub := t_subT
  repeat (any_goals (first | assumption | (with_reducible refine wpAny_of_eq hct ?_) | wp_step))
  have new : codeAny (model prog w) A.in1 (.call (.builtin "type.__new__") ⟨[.type "type", .str n t, .ref b, .ref ns], []⟩) (fun r s' => ∃ a cd sl, r = .ok (.ret (.ref a)) ∧ s'.heap.get? a = some (clsO cd sl) ∧ Q (.ref a) s') s := by
    refine codeAny_of_tree ?_
    show wpAny _ _ (do checkBuiltinCall "type.__new__" ⟨[.type "type", .str n t, .ref b, .ref ns], []⟩; again (.builtin "type.__new__" ⟨[.type "type", .str n t, .ref b, .ref ns], []⟩)) _ _ s
    refine wpAny_bind (wpAny_of_eq (TF.newCall _ _ _ _) (wpAny_pure ⟨plainId_quiet TF.plain_new _, codeAny_builtin TF.entry_new ?_⟩))
    rw [Around.under_plainId TF.plain_new _]
    refine wpAny_mono hnew (fun fin s' q => ?_) fun _ _ x => x.elim
    obtain ⟨a, cd, sl, rfl, ha, hq⟩ := q
    exact ⟨a, cd, sl, rfl, ha, hq⟩
  refine codeAny_mono new fun r s₁ q => ?_
  obtain ⟨a, cd, sl, rfl, ha, hq⟩ := q
  have hT : s₁.TypeIs (.ref a) "type" := ⟨_, ha, rfl⟩
  have hli := TF.slot_init.lookup
  have hbi := TF.slot_init.bind (.ref a)
  repeat (any_goals (first | assumption | wp_step))
  have ini : codeAny (model prog w) A.in1 (.call (.builtin "type.__init__") ⟨[.ref a, .str n t, .ref b, .ref ns], []⟩) (fun r s' => r = .ok (.ret .none) ∧ Q (.ref a) s') s₁ := by
    refine codeAny_call_builtin TF.slot_init.plain TF.entry_init (TF.slot_init.check _ _ _ _ _ _ _ _ hT (TF.args_init _ _ _ _ _) ?_)
    unfold Builtin.«type.__init__»
    repeat wp_step
    exact ⟨rfl, hq⟩
  refine codeAny_mono ini fun r₂ s₂ hr₂ => ?_
  obtain ⟨rfl, hq⟩ := hr₂
  refine wpAny_pure ?_
  wp_delta
  refine wpAny_ite_false rfl ?_
  exact wpAny_pure hq
end
end Mine
end
section
open PySem PySem.Calls PySem.W PyProof.Rows
namespace Mine
variable [iO : Old]
theorem type_prep : typeOf (.builtin "type.__prepare__") = pure (.type "classmethod_descriptor") := by show builtinType _ = _; rw [builtinType_eq_fast]; kernel_rfl
theorem owner_prep : (kfb_private% "ownerAndName") "type.__prepare__" = ("type", "__prepare__") := by first | decide +kernel | kernel_rfl
noncomputable abbrev prepO : Obj := { cls := .type "builtin_function_or_method", data := .fields #[.builtin "type.__prepare__", .type "type"] }
theorem entry_prep : entryFor table "type.__prepare__" = some Builtin.«type.__prepare__» := entryFor_of_tree (by kernel_rfl)
theorem check_prep (n : Str) (t : Tok) (T : Addr) : checkBoundCall "type.__prepare__" ⟨[.type "type", .str n t, .ref T], []⟩ = pure () := by first | kernel_rfl | rfl
theorem find_prep : findCls [] (.type "type") (.type "type") (Str.ofString "__prepare__") = some (.get (.builtin "classmethod_descriptor.__get__") (.builtin "type.__prepare__") .none (.type "type")) := by kernel_rfl
theorem type_type : typeOf (.type "type") = pure (.type "type") := by first | rfl | kernel_rfl
section
variable {prog : Program} {w : World} {A : Around} {E : Value → Shared → Prop} {s : Shared}
theorem run_get_prep {M : Model} {A : Around} {E : Value → Shared → Prop} {P : Fin → Shared → Prop} {s : Shared} (h : P (.done (.ret (.ref s.heap.objs.size))) { s with heap := s.heap.push prepO }) :
    wpAny M A (Builtin.«classmethod_descriptor.__get__» ⟨[.builtin "type.__prepare__", .none, .type "type"], []⟩) P E s := by
  unfold Builtin.«classmethod_descriptor.__get__»
  refine wpAny_bind (wpAny_of_eq (a := (.builtin "type.__prepare__", none, some (.type "type"))) (by first | rfl | kernel_rfl) ?_)
  simp only [owner_prep]
  refine wpAny_bind (wpAny_of_eq (a := .type "type") rfl ?_)
  refine wpAny_bind (wpAny_of_eq (a := true) rfl ?_)
  refine KFB.if_not rfl ?_
  refine wpAny_bind (wpAny_of_eq (a := true) t_subT ?_)
  refine KFB.if_not rfl ?_
  exact wpAny_bind (wpAny_newObj_type (wpAny_pure h))
set_option maxHeartbeats 2000000 in
set_option profiler true in
theorem get_prep {Q : Option Value → Shared → Prop} (h : Q (some (.ref s.heap.objs.size)) { s with heap := s.heap.push prepO, toks := s.toks + 1 }) : wpAny (model prog w) A (getAttr? (.type "type") (Str.ofString "__prepare__")) Q E s := by
  have X : ∀ h : Heap, Frag.In [] h := fun h a o e => by injection e
  have hga : typeLookup (.type "type") (Str.ofString "__getattribute__") = pure (some (.builtin "type.__getattribute__")) := KF.slot_tga.lookup
  have hstub : opaqueClassAbove (.type "type") = pure none := by unfold opaqueClassAbove; dsimp only; rw [show Manifest.isStub "type" = false by decide +kernel]; rfl
  unfold getAttr? getAttrBy? getAttrBy
  refine wpAny_bind (wpAny_mkText (wpAny_bind (wpAny_attempt (wpAny_holding (wpAny_bind (wpAny_of_eq type_type (wpAny_bind (wpAny_of_eq hga ?_))))))))
  show wpAny _ _ (getAttrByItsOwn (.type "type") (.str (Str.ofString "__prepare__") s.toks) (.type "type") (.builtin "type.__getattribute__") false false) _ _ _
  unfold getAttrByItsOwn hookBefore callGetattribute boundAndCalled
  refine wpAny_bind (wpAny_of_eq (show (if onTheHeap (.type "type") then typeLookup (.type "type") "__getattr__" else pure none) = pure none from rfl) ?_)
  refine wpAny_bind (wpAny_attempt (wpAny_holding ?_))
  show wpAny _ _ (bindSpecial (.builtin "type.__getattribute__") (.type "type") >>= _) _ _ _
  refine wpAny_bind (wpAny_of_eq (KF.slot_tga.bind _) ?_)
  refine wpAny_call_entry KF.slot_tga (T := "type") type_type KF.entry_tga ?_ (KF.args_tga _ _)
  show wpAny _ _ (Builtin.«type.__getattribute__» ⟨[.type "type", .str (Str.ofString "__prepare__") s.toks], []⟩) _ _ _
  refine @tga_run prog w _ _ _ [] (.type "type") (.type "type") (Str.ofString "__prepare__") s.toks _ _ (X _) (Looks.of_pure hstub) (Looks.of_pure type_type) find_prep ?_
  show wpAny _ _ (holding [.builtin "type.__prepare__"] (call (.builtin "classmethod_descriptor.__get__") [.builtin "type.__prepare__", .none, .type "type"]) >>= fun v => ret v) _ _ _
  refine wpAny_bind (wpAny_holding (wpAny_call_entry KFB.slot_get type_prep KFB.entry_get (run_get_prep ⟨_, rfl, ?_⟩) (KFB.args_get _ _ _)))
  refine wpAny_pure ⟨_, rfl, ?_⟩
  show wpAny _ _ (handedOut (.ref _)) _ _ _
  refine wpAny_pure ?_
  exact wpAny_pure h
theorem call_prep {f T : Addr} {n : Str} {t : Tok} {Q : Value → Shared → Prop} (hf : s.heap.get? f = some prepO) (h : Q (.ref s.heap.objs.size) { s with heap := s.heap.push { cls := .type "dict", data := .dict #[] } }) : wpAny (model prog w) A (call (.ref f) [.str n t, .ref T]) Q E s := by
  obtain ⟨hh, g, dr, tk, os⟩ := s
  refine wpAny_call (codeAny_of_tree ?_)
  show wpAny _ _ (callAny (.ref f) _) _ _ _
  dsimp only at hf
  refine nd_load hf ?_
  show wpAny _ _ (checkBoundCall "type.__prepare__" ⟨[.type "type", .str n t, .ref T], []⟩ >>= fun _ => again (.builtin "type.__prepare__" ⟨[.type "type", .str n t, .ref T], []⟩)) _ _ _
  refine wpAny_bind (wpAny_of_eq (check_prep _ _ _) ?_)
  refine wpAny_pure ⟨Code.quiet_builtin _ (by decide +kernel), codeAny_builtin entry_prep ?_⟩
  unfold Builtin.«type.__prepare__» newDict
  exact wpAny_bind (wpAny_newObj_type (wpAny_pure h) (Nat.zero_le _))
end
end Mine
end
section
open PySem PySem.Calls PySem.W PyProof.Rows
namespace Mine
variable [iO : Old]
theorem codeAmong_more {p : Pos} {c : Value} : ∀ (l r : List Value), TriplesOk l → codeAmong p l = some c → codeAmong p (l ++ r) = some c := by
  intro l r h hn
  fun_induction TriplesOk l with
  | case1 => simp [codeAmong] at hn
  | case2 a t b u x rest ih =>
    simp only [List.cons_append, codeAmong] at hn ⊢
    split at hn
    · rename_i hc; rw [if_pos hc]; exact hn
    · rename_i hc; rw [if_neg hc]; exact ih h hn
  | case3 l h1 h2 => exact h.elim
theorem codeAmong_other {p q : Pos} {c : Value} : ∀ (l : List Value), TriplesOk l → codeAmong p l = none → ((q.line : Int) == p.line && (q.col : Int) == p.col) = false → codeAmong p (l ++ [rawInt q.line, rawInt q.col, c]) = none := by
  intro l h hn hq
  fun_induction TriplesOk l with
  | case1 =>
    show (if ((q.line : Int) == p.line && (q.col : Int) == p.col) = true then some c else codeAmong p []) = none
    rw [hq, if_neg (by decide)]; rfl
  | case2 a t b u x rest ih =>
    simp only [List.cons_append, codeAmong] at hn ⊢
    split at hn
    · injection hn
    · rename_i hc; rw [if_neg hc]; exact ih h hn
  | case3 l h1 h2 => exact h.elim
theorem DefAt.mono {h h' : Heap} {ps ps' : Array Value} {d : Pos × Str} (x : DefAt h ps d) (hp : ∀ c, codeAmong d.1 ps.toList = some c → codeAmong d.1 ps'.toList = some c)
    (k : ∀ b o vs, h.get? b = some o → o.cls = .type "code" → o.data = .fields vs → h'.get? b = some o) : DefAt h' ps' d := by
  obtain ⟨ci, oi, vi, t, a1, a2, a3, a4, a5⟩ := x
  exact ⟨ci, oi, vi, t, hp _ a1, k _ _ _ a2 a3 a4, a3, a4, a5⟩
theorem CodeHd.keepC {h h' : Heap} {c P : Addr} (x : CodeHd h c P) (k : ∀ b o vs, h.get? b = some o → o.cls = .type "code" → o.data = .fields vs → h'.get? b = some o) : CodeHd h' c P := by
  obtain ⟨o, vs, file, tf, flags, tg, inF, text, tt, a1, a2, a3, r⟩ := x
  exact ⟨o, vs, file, tf, flags, tg, inF, text, tt, k _ _ _ a1 a2 a3, a2, a3, r⟩
structure CM (h₀ h : Heap) (c P : Addr) (todo : List (Pos × Str)) : Prop where
  hd : CodeHd h c P
  tb : ∃ ps, h.get? P = some (tabO ps) ∧ TriplesOk ps.toList ∧ ((h₀.get? P = none ∧ (∀ d ∈ todo, codeAmong d.1 ps.toList = none) ∧ ∀ d ∈ kDefs, d ∉ todo → DefAt h ps d) ∨ ∀ d ∈ kDefs, DefAt h ps d)
noncomputable def KeepP (h₀ : Heap) (P : Addr) (h h' : Heap) : Prop := ∀ b o, (b = P → h₀.get? P ≠ none) → h.get? b = some o → h'.get? b = some o
theorem KeepP.of {h₀ a b : Heap} {P : Addr} (k : ∀ i o, a.get? i = some o → b.get? i = some o) : KeepP h₀ P a b := fun i o _ e => k i o e
theorem CM.keep {h₀ h h' : Heap} {c P : Addr} {todo : List (Pos × Str)} (x : CM h₀ h c P todo) (k : ∀ b o, h.get? b = some o → Soft o ∨ h'.get? b = some o) : CM h₀ h' c P todo := by
  have kc : ∀ b o vs, h.get? b = some o → o.cls = .type "code" → o.data = .fields vs → h'.get? b = some o := fun b o vs e hc hd => by
    rcases k b o e with (z | ⟨z, _⟩) | z
    · exact absurd hd (z vs)
    · exact absurd hc z
    · exact z
  obtain ⟨ps, a1, a2, a3⟩ := x.tb
  refine ⟨CodeHd.keepC x.hd kc, ps, ?_, a2, ?_⟩
  · rcases k _ _ a1 with (z | ⟨_, z⟩) | z
    · exact absurd rfl (z ps)
    · exact absurd rfl z
    · exact z
  · rcases a3 with ⟨b1, b2, b3⟩ | b3
    · exact .inl ⟨b1, b2, fun d m n => (b3 d m n).mono (fun _ q => q) kc⟩
    · exact .inr fun d m => (b3 d m).mono (fun _ q => q) kc
noncomputable def GoodFn (h : Heap) (f : Addr) (name qual : Str) (params : Arguments) (body : List Stmt) (scope : Scope) (clos : List (Str × Addr)) : Prop :=
  ∃ doc pm ci ctv oi vi t, h.get? f = some (fnMade name qual params body scope clos doc pm ci ctv) ∧ h.get? ci = some oi ∧ oi.cls = .type "code" ∧ oi.data = .fields vi ∧ vi[1]? = some (.str qual t)
theorem GoodFn.keep {h h' : Heap} {f : Addr} {name qual : Str} {params : Arguments} {body : List Stmt} {scope : Scope} {clos : List (Str × Addr)} (x : GoodFn h f name qual params body scope clos) (k : ∀ b o, h.get? b = some o → (o.cls = .type "function" ∨ o.cls = .type "code") → h'.get? b = some o) : GoodFn h' f name qual params body scope clos := by
  obtain ⟨doc, pm, ci, ctv, oi, vi, t, a1, a2, a3, r⟩ := x
  exact ⟨doc, pm, ci, ctv, oi, vi, t, k _ _ a1 (.inl rfl), k _ _ a2 (.inr a3), a3, r⟩
section
variable {M : Model} {A : Around} {E : Value → Shared → Prop} {s : Shared} {name qual : Str} {params : Arguments} {body : List Stmt} {scope : Scope} {env : Env} {c P : Addr} {pos : Pos} {mg : Str → Option Value}
  {clos : List (Str × Addr)} {Q : Value → Shared → Prop} {h₀ : Heap} {rest : List (Pos × Str)}
theorem make_fresh {ps : Array Value} (hcl : closureFor scope env = pure clos) (hge0 : env.globals = mainGlobals) (hg : s.heap.Ns mainGlobals mg) (hcode : env.code = .ref c) (C : CodeHd s.heap c P) (hP : s.heap.get? P = some (tabO ps)) (ht : TriplesOk ps.toList)
    (hnf : codeAmong pos ps.toList = none) (hgP : mainGlobals ≠ P) (hb : s.heap.BuiltinsAt mg P)
    (h : ∀ c' ctv doc h' tk oi vi t, Heap.ExtBut P s.heap h' → s.heap.objs.size ≤ c' → c' < h'.objs.size → h'.get? c' = some oi → oi.cls = .type "code" → oi.data = .fields vi → vi[1]? = some (.str qual t) → h'.get? P = some (tabO (ps ++ #[rawInt pos.line, rawInt pos.col, .ref c'])) →
      Q (.ref h'.objs.size) { s with heap := h'.push (fnMade name qual params body scope clos doc ((mg "__name__").getD .none) c' ctv), toks := tk }) :
    wpAny M A (makeFunction name qual params (.stmts body) scope env [] [] [] pos pos.line) Q E s := by
  rw [makeFunction_eq]
  simp only [List.zip_nil_right, List.filterMap_nil, List.isEmpty_nil, if_true, pure_bind]
  obtain ⟨bm, ob, hbm, hne0, _, hneP, hbo, hcls, hdict, hdata⟩ := hb
  unfold makeTail
  rw [hcl, hge0]
  refine wpAny_bind (wpAny_pure ?_)
  have unrec : ∀ {h' : Heap} {c' : Addr}, h'.CodeRec (.ref c') qual → (∃ P', s.heap.objs.size ≤ P' ∧ h'.IsCode c' P' #[] ∧ h'.TableAt c' P' #[]) → ∃ oi vi t, h'.get? c' = some oi ∧ oi.cls = .type "code" ∧ oi.data = .fields vi ∧ vi[1]? = some (.str qual t) := by
    rintro h' c' ⟨c2, o2, v2, t2, e2, g2, d2, q2⟩ ⟨P', _, _, ⟨o3, v3, g3, k3, _⟩, _⟩
    cases e2
    rw [g2] at g3; obtain rfl := Option.some.inj g3
    exact ⟨o2, v2, t2, g2, k3, d2, q2⟩
  cases clos with
  | nil =>
    simp only [List.isEmpty_nil, if_true]
    refine wpAny_bind (wpAny_pure ?_)
    refine wpAny_bind (wpAny_functionCodeX hcode (C.code hP ht) (C.tab hP) hnf fun c' h' tk hx hge hlt _ hrec htb hpp => ?_)
    obtain ⟨oi, vi, t, r1, r2, r3, r4⟩ := unrec hrec hpp
    have hg' := hg.extBut hx hgP
    refine wpAny_bind (wpAny_builtinsFor hg' hbm hne0 (hx _ _ hneP hbo) hcls hdict hdata ?_)
    refine wpAny_bind (wpAny_nsGet hg' ?_)
    cases hdoc : docOf body with
    | none => exact wpAny_bind (wpAny_pure (wpAny_newObj_type (h c' .none .none h' tk oi vi t hx hge hlt r1 r2 r3 r4 htb.2) (by size_fits)))
    | some t' => exact wpAny_bind (wpAny_mkText (wpAny_newObj_type (h c' .none _ h' _ oi vi t hx hge hlt r1 r2 r3 r4 htb.2) (by size_fits)))
  | cons q r =>
    simp only [List.isEmpty_cons, Bool.false_eq_true, if_false]
    refine wpAny_bind (wpAny_newTextTuple ?_)
    refine wpAny_bind (wpAny_functionCodeX hcode ((C.keeps fun b o e => Heap.get?_push_of_some _ e).code (Heap.get?_push_of_some _ hP) ht) ((C.keeps fun b o e => Heap.get?_push_of_some _ e).tab (Heap.get?_push_of_some _ hP)) hnf fun c' h' tk hx hge hlt _ hrec htb hpp => ?_)
    have hg' := (hg.push _).extBut hx hgP
    have hx' : Heap.ExtBut P s.heap h' := fun b o hb' e => hx b o hb' (Heap.get?_push_of_some _ e)
    have hz : s.heap.objs.size ≤ (s.heap.push { cls := .type "tuple", data := .seq ((((q :: r).mergeSort fun a b => a.1.cps.toList ≤ b.1.cps.toList).map (Value.ref ·.2))).toArray }).objs.size := by rw [Heap.size_push]; lia
    have hge' : s.heap.objs.size ≤ c' := Nat.le_trans (by rw [Heap.size_push]; lia) hge
    obtain ⟨oi, vi, t, r1, r2, r3, r4⟩ := unrec hrec ((by obtain ⟨P', a, b, d⟩ := hpp; exact ⟨P', Nat.le_trans (by rw [Heap.size_push]; lia) a, b, d⟩))
    refine wpAny_bind (wpAny_builtinsFor hg' hbm hne0 (hx' _ _ hneP hbo) hcls hdict hdata ?_)
    refine wpAny_bind (wpAny_nsGet hg' ?_)
    cases hdoc : docOf body with
    | none => exact wpAny_bind (wpAny_pure (wpAny_newObj_type (h c' _ .none h' tk oi vi t hx' hge' hlt r1 r2 r3 r4 htb.2) (by size_fits)))
    | some t' => exact wpAny_bind (wpAny_mkText (wpAny_newObj_type (h c' _ _ h' _ oi vi t hx' hge' hlt r1 r2 r3 r4 htb.2) (by size_fits)))
theorem make_def (C : CM h₀ s.heap c P ((pos, qual) :: rest)) (hm : (pos, qual) ∈ kDefs) (hnr : (pos, qual) ∉ rest) (hnd : ∀ d ∈ rest, ((pos.line : Int) == d.1.line && (pos.col : Int) == d.1.col) = false)
    (hcl : closureFor scope env = pure clos) (hge0 : env.globals = mainGlobals) (hcode : env.code = .ref c) (hg : s.heap.Ns mainGlobals mg) (hb : s.heap.BuiltinsAt mg P) (hgP : mainGlobals ≠ P)
    (k : ∀ f h' tk, CM h₀ h' c P rest → GoodFn h' f name qual params body scope clos → KeepP h₀ P s.heap h' → s.heap.get? f = none → Q (.ref f) { s with heap := h', toks := tk }) :
    wpAny M A (makeFunction name qual params (.stmts body) scope env [] [] [] pos pos.line) Q E s := by
  obtain ⟨ps, hP, ht, hmode⟩ := C.tb
  have full : (∀ d ∈ kDefs, DefAt s.heap ps d) → wpAny M A (makeFunction name qual params (.stmts body) scope env [] [] [] pos pos.line) Q E s := fun hall => by
    obtain ⟨ci, oi, vi, t, a1, a2, a3, a4, a5⟩ := hall _ hm
    refine makeFunction_hit hcl hge0 hg hcode C.hd hP ht a1 hb fun ctv doc h' tk kk hsz => ?_
    have kk2 : ∀ b o, s.heap.get? b = some o → (h'.push (fnMade name qual params body scope clos doc ((mg "__name__").getD .none) ci ctv)).get? b = some o := fun b o e => Heap.get?_push_of_some _ (kk b o e)
    refine k _ _ _ ⟨C.hd.keeps kk2, ps, kk2 _ _ hP, ht, .inr fun d m => (hall d m).mono (fun _ q => q) fun b o _ e _ _ => kk2 b o e⟩ ⟨doc, _, ci, ctv, oi, vi, t, Heap.get?_push_size _ rfl, kk2 _ _ a2, a3, a4, a5⟩ (.of kk2) ?_
    cases e : s.heap.get? h'.objs.size with
    | none => rfl
    | some o => exact absurd (Heap.lt_size (kk _ _ e)) (Nat.lt_irrefl _)
  rcases hmode with ⟨m1, m2, m3⟩ | hall
  · refine make_fresh hcl hge0 hg hcode C.hd hP ht (m2 _ (.head _)) hgP hb fun c' ctv doc h' tk oi vi t hx hge hlt r1 r2 r3 r4 htb => ?_
    have kx : ∀ b o, b ≠ P → s.heap.get? b = some o → (h'.push (fnMade name qual params body scope clos doc ((mg "__name__").getD .none) c' ctv)).get? b = some o := fun b o n e => Heap.get?_push_of_some _ (hx b o n e)
    have kc : ∀ b o vs, s.heap.get? b = some o → o.cls = .type "code" → o.data = .fields vs → (h'.push (fnMade name qual params body scope clos doc ((mg "__name__").getD .none) c' ctv)).get? b = some o := fun b o vs e hc _ => kx b o (fun z => by rw [z, hP] at e; obtain rfl := Option.some.inj e; injection hc) e
    have hl : (ps ++ #[rawInt pos.line, rawInt pos.col, Value.ref c']).toList = ps.toList ++ [rawInt pos.line, rawInt pos.col, .ref c'] := by simp
    refine k _ _ _ ⟨CodeHd.keepC C.hd kc, _, Heap.get?_push_of_some _ htb, by rw [hl]; exact TriplesOk_snoc _ _ _ _ ht, .inl ⟨m1, fun d m => ?_, fun d m n => ?_⟩⟩ ⟨doc, _, c', ctv, oi, vi, t, Heap.get?_push_size _ rfl, Heap.get?_push_of_some _ r1, r2, r3, r4⟩ (fun b o n e => kx b o (fun z => n z m1) e) ?_
    · rw [hl]; exact codeAmong_other _ ht (m2 d (.tail _ m)) (hnd d m)
    · by_cases z : d = (pos, qual)
      · subst z
        exact ⟨c', oi, vi, t, by rw [hl]; exact codeAmong_snoc _ ht (m2 _ (.head _)), Heap.get?_push_of_some _ r1, r2, r3, r4⟩
      · refine (m3 d m (fun q => ?_)).mono (fun c q => by rw [hl]; exact codeAmong_more _ _ ht q) kc
        rcases List.mem_cons.mp q with q | q
        · exact z q
        · exact n q
    · cases e : s.heap.get? h'.objs.size with
      | none => rfl
      | some o =>
        by_cases z : h'.objs.size = P
        · rw [z] at hlt; have := C.hd; exact absurd (Heap.lt_size htb) (by rw [← z]; exact Nat.lt_irrefl _)
        · exact absurd (Heap.lt_size (hx _ _ z e)) (Nat.lt_irrefl _)
  · exact full hall
end
end Mine
end
section
open PySem PySem.Calls PySem.W PyProof.Rows
namespace Mine
variable [iO : Old]
structure CB (h₀ h : Heap) (c P ns : Addr) (kvs : List (Str × Value)) (todo : List (Pos × Str)) : Prop where
  kp : ∀ b o, b ≠ tab0 → h₀.get? b = some o → h.get? b = some o
  tab : h.get? tab0 = some (tabO #[.int 7 0, .int 4 0, .ref c])
  cm : CM h₀ h c P todo
  nsL : NsL h ns kvs
  n0 : h₀.get? ns = none
  nt : ns ≠ tab0
  t0 : h₀.get? tab0 ≠ none
structure CEnv (env : Env) (c ns cc : Addr) : Prop where
  kind : env.scope.kind = .class
  loc : env.locals = ns
  glob : env.globals = mainGlobals
  bi : env.builtins = builtinsNs
  code : env.code = .ref c
  cells : env.cells = [(("mycmp" : Str), cc)]
  qual : env.qual = "cmp_to_key.<locals>.K."
section
variable {M : Model} {A : Around} {E : Value → Shared → Prop} {s : Shared} {h₀ : Heap} {c P ns cc : Addr} {kvs : List (Str × Value)} {todo : List (Pos × Str)} {env : Env}
theorem NsL.notP {h : Heap} {ps : Array Value} {a P : Addr} (x : NsL h a kvs) (hP : h.get? P = some (tabO ps)) : a ≠ P := fun z => by
  obtain ⟨es, ep, e, _⟩ := x
  rw [z, hP] at e; cases e
theorem CB.atNs {h' : Heap} {kvs' : List (Str × Value)} (B : CB h₀ s.heap c P ns kvs todo) (hs : Heap.SameBut ns s.heap h') (hn : NsL h' ns kvs') : CB h₀ h' c P ns kvs' todo := by
  refine ⟨fun b o n e => hs.extBut b o (fun z => by rw [z, B.n0] at e; injection e) (B.kp b o n e), hs.extBut _ _ (Ne.symm B.nt) B.tab, B.cm.keep fun b o e => ?_, hn, B.n0, B.nt, B.t0⟩
  by_cases z : b = ns
  · obtain ⟨o', e', so⟩ := B.nsL.soft
    rw [z, e'] at e; obtain rfl := Option.some.inj e; exact .inl so
  · exact .inr (hs.extBut b o z e)
theorem CB.grow {h' : Heap} (B : CB h₀ s.heap c P ns kvs todo) (k : ∀ b o, s.heap.get? b = some o → h'.get? b = some o) : CB h₀ h' c P ns kvs todo :=
  ⟨fun b o n e => k b o (B.kp b o n e), k _ _ B.tab, B.cm.keep fun b o e => .inr (k b o e), B.nsL.at fun o e => k _ _ e, B.n0, B.nt, B.t0⟩
theorem CB.step {h' : Heap} {todo' : List (Pos × Str)} (B : CB h₀ s.heap c P ns kvs todo) (k : KeepP h₀ P s.heap h') (C : CM h₀ h' c P todo') : CB h₀ h' c P ns kvs todo' := by
  obtain ⟨ps, hP, _⟩ := B.cm.tb
  exact ⟨fun b o n e => k b o (fun z => by rw [← z, e]; exact Option.some_ne_none _) (B.kp b o n e), k _ _ (fun z => z ▸ B.t0) B.tab, C, B.nsL.at fun o e => k _ _ (fun z => absurd z (B.nsL.notP hP)) e, B.n0, B.nt, B.t0⟩
theorem cb_store {x : Str} {v : Value} {Q : Unit → Shared → Prop} (B : CB h₀ s.heap c P ns kvs todo) (G : CEnv env c ns cc) (hk : env.kindOf x = some .local ∨ (env.kindOf x = none ∧ compilersOwnNames.contains x = true))
    (k : ∀ h' tk, CB h₀ h' c P ns (setK kvs x v) todo → Heap.SameBut ns s.heap h' → Q () { s with heap := h', toks := tk }) : wpAny M A (storeName env x v) Q E s := by
  have hc : (env.scope.kind == .class) = true := by rw [G.kind]; rfl
  have st : wpAny M A (localSet env x v) Q E s := by
    obtain ⟨es, ep, e, r⟩ := B.nsL
    unfold localSet
    rw [G.loc]
    refine wpAny_bind (wpAny_load e ?_)
    rw [if_pos (by rfl)]
    exact nsSetL ⟨es, ep, e, r⟩ fun h' hn hs => k h' _ (B.atNs hs hn) hs
  unfold storeName
  rcases hk with hk | ⟨hk, hk2⟩
  · rw [hk]
    rw [if_neg (by rw [show (some NameKind.local == some NameKind.globalImplicit) = false from by decide, Bool.false_and]; decide)]
    dsimp only
    rw [hc]
    exact st
  · rw [hk]
    rw [if_neg (by rw [show ((none : Option NameKind) == some NameKind.globalImplicit) = false from by decide, Bool.false_and]; decide)]
    dsimp only
    have hb : (env.blockKind == .function) = false := by unfold Env.blockKind; rw [G.kind]; rfl
    rw [hb, hc, hk2]
    exact st

variable {name qual : Str} {params : Arguments} {body : List Stmt} {scope : Scope} {pos : Pos} {mg : Str → Option Value} {rest : List (Pos × Str)} {clos : List (Str × Addr)}
structure GB (h : Heap) (P : Addr) : Prop where
  ex : ∃ mg, h.Ns mainGlobals mg ∧ h.BuiltinsAt mg P ∧ mainGlobals ≠ P
structure GlobOk (h₀ : Heap) : Prop where
  ex : ∃ mg b o, h₀.Ns mainGlobals mg ∧ mg "__builtins__" = some (.ref b) ∧ b ≠ builtinsNs ∧ b ≠ tab0 ∧ h₀.get? b = some o ∧ o.cls = .type "module" ∧ o.dict = some builtinsNs ∧ o.data = .plain
theorem GlobOk.at (g : GlobOk h₀) (B : CB h₀ s.heap c P ns kvs todo) : ∃ mg, s.heap.Ns mainGlobals mg ∧ s.heap.BuiltinsAt mg P ∧ mainGlobals ≠ P := by
  obtain ⟨mg, b, o, hg, x1, x2, x3, x4, x5, x6, x7⟩ := g.ex
  obtain ⟨ps, hP, _⟩ := B.cm.tb
  have hg' : s.heap.Ns mainGlobals mg := by obtain ⟨o, es, ep, e, r⟩ := hg; exact ⟨o, es, ep, B.kp _ _ (by decide) e, r⟩
  refine ⟨mg, hg', ⟨b, o, x1, x2, fun z => ?_, fun z => ?_, B.kp _ _ x3 x4, x5, x6, x7⟩, fun z => ?_⟩
  · obtain ⟨o', es, ep, e, d, _⟩ := hg
    rw [z, e] at x4; obtain rfl := Option.some.inj x4; rw [d] at x7; injection x7
  · have e := B.kp _ _ x3 x4
    rw [z, hP] at e; obtain rfl := Option.some.inj e; injection x5
  · obtain ⟨o', es, ep, e, d, _⟩ := hg'
    rw [z, hP] at e; obtain rfl := Option.some.inj e; injection d
theorem cb_def {Q : Flow → Shared → Prop} (B : CB h₀ s.heap c P ns kvs ((pos, qual) :: rest)) (G : CEnv env c ns cc) (g : GlobOk h₀) (hm : (pos, qual) ∈ kDefs) (hnr : (pos, qual) ∉ rest) (hnd : ∀ d ∈ rest, ((pos.line : Int) == d.1.line && (pos.col : Int) == d.1.col) = false)
    (hd0 : params.defaults = []) (hk0 : params.kw_defaults = []) (ha : annTrees params none env = []) (hq : qualnameIn env name name = qual) (hcl : closureFor scope env = pure clos)
    (hk : env.kindOf name = some .local ∨ (env.kindOf name = none ∧ compilersOwnNames.contains name = true))
    (k : ∀ f h' tk, CB h₀ h' c P ns (setK kvs name (.ref f)) rest → GoodFn h' f name qual params body scope clos → (∀ b o, b ≠ ns → (b = P → h₀.get? P ≠ none) → s.heap.get? b = some o → h'.get? b = some o) → Q .next { s with heap := h', toks := tk }) :
    wpAny M A (exec (.FunctionDef name params body [] none [] scope none name pos) env) Q E s := by
  refine nestDef_K hd0 hk0 ha ?_
  rw [hq]
  obtain ⟨mg, hg, hb, hgP⟩ := g.at B
  refine make_def B.cm hm hnr hnd hcl G.glob G.code hg hb hgP fun f h' tk C hf kp hfn => ?_
  have B' := B.step kp C
  refine cb_store (s := { s with heap := h', toks := tk }) B' G hk fun h'' tk' B'' hs => ?_
  refine k f h'' tk' B'' (hf.keep fun b o e hT => hs.extBut b o (fun z => ?_) e) fun b o n1 n2 e => hs.extBut b o n1 (kp b o n2 e)
  obtain ⟨es, ep, e', _⟩ := B'.nsL
  rw [z, e'] at e; obtain rfl := Option.some.inj e
  rcases hT with hT | hT
  · exact absurd hT (show Value.type "dict" ≠ Value.type "function" by decide)
  · exact absurd hT (show Value.type "dict" ≠ Value.type "code" by decide)
theorem cb_assign {x : Str} {p1 p2 : Pos} {value : PySem.Expr} {Q : Flow → Shared → Prop} (G : CEnv env c ns cc) (hk : env.kindOf x = some .local ∨ (env.kindOf x = none ∧ compilersOwnNames.contains x = true))
    (hv : wpAny M A (eval value env) (fun v s' => ∃ kvs, CB h₀ s'.heap c P ns kvs todo ∧ ∀ h' tk, CB h₀ h' c P ns (setK kvs x v) todo → Heap.SameBut ns s'.heap h' → Q .next { s' with heap := h', toks := tk }) E s) (hs : swapsWith value (some (.Name x p1)) p2.line env = pure false := by rfl) :
    wpAny M A (exec (.Assign [.Name x p1] value p2) env) Q E s :=
  wpAny_Assign_Name (wpAny_mono hv (fun v s' ⟨kvs, B, k⟩ => cb_store B G hk fun h' tk B' hs => k h' tk B' hs) fun _ _ x => x) hs
end
end Mine
end
section
open PySem PySem.Calls PySem.W PyProof.Rows
namespace Mine
variable [iO : Old]
noncomputable abbrev fnSt (name : Str) (params : Arguments) (body : List Stmt) (scope : Scope) (pos : Pos) : Stmt := .FunctionDef name params body [] none [] scope none name pos
section
variable {prog : Program} {w : World} {A : Around} {E : Value → Shared → Prop} {s : Shared} {h₀ : Heap} {c P ns cc : Addr} {m0 q0 v1 : Value} {env : Env}
variable {p1 p2 p3 p4 p5 p6 p7 p8 p9 p10 : Pos} {n1 n2 n3 : Nat} {mm : Str} {a0 a1 a2 a3 a4 a5 : Arguments} {b0 b1 b2 b3 b4 b5 : List Stmt} {s0 s1 s2 s3 s4 s5 : Scope}
theorem CB.kept {h h' : Heap} {kvs : List (Str × Value)} {todo : List (Pos × Str)} (B : CB h₀ h c P ns kvs todo) (kp : ∀ b o, b ≠ ns → (b = P → h₀.get? P ≠ none) → h.get? b = some o → h'.get? b = some o) :
    ∀ b o, h.get? b = some o → o.cls ≠ .type "dict" → o.cls ≠ .none → h'.get? b = some o := fun b o e c1 c2 => by
  refine kp b o (fun z => ?_) (fun z => ?_) e
  · obtain ⟨es, ep, e', _⟩ := B.nsL
    rw [z, e'] at e; obtain rfl := Option.some.inj e; exact absurd rfl c1
  · obtain ⟨ps, hP, _⟩ := B.cm.tb
    rw [z, hP] at e; obtain rfl := Option.some.inj e; exact absurd rfl c2
theorem goodUp {h h' : Heap} {f : Addr} {name qual : Str} {params : Arguments} {body : List Stmt} {scope : Scope} {clos : List (Str × Addr)} (x : GoodFn h f name qual params body scope clos) (k : ∀ b o, h.get? b = some o → o.cls ≠ .type "dict" → o.cls ≠ .none → h'.get? b = some o) : GoodFn h' f name qual params body scope clos :=
  x.keep fun b o e hT => k b o e (by rcases hT with hT | hT <;> rw [hT] <;> decide) (by rcases hT with hT | hT <;> rw [hT] <;> decide)
noncomputable def FnAt1 (h : Heap) (a : Addr) : Prop := ∃ o, h.get? a = some o ∧ o.cls = .type "function"
theorem GoodFn.fn {h : Heap} {f : Addr} {name qual : Str} {params : Arguments} {body : List Stmt} {scope : Scope} {clos : List (Str × Addr)} (x : GoodFn h f name qual params body scope clos) : FnAt1 h f := by
  obtain ⟨_, _, _, _, _, _, _, e, _⟩ := x; exact ⟨_, e, rfl⟩
theorem FnAt1.up {h h' : Heap} {a : Addr} (x : FnAt1 h a) (k : ∀ b o, h.get? b = some o → o.cls ≠ .type "dict" → o.cls ≠ .none → h'.get? b = some o) : FnAt1 h' a := by obtain ⟨o, e, c⟩ := x; exact ⟨o, k _ _ e (by rw [c]; decide) (by rw [c]; decide), c⟩
structure DefOk (env : Env) (cc : Addr) (name : Str) (params : Arguments) (scope : Scope) (clos : List (Str × Addr)) : Prop where
  d : params.defaults = []
  k : params.kw_defaults = []
  a : annTrees params none env = []
  c : closureFor scope env = pure clos
  n : env.kindOf name = some .local ∨ (env.kindOf name = none ∧ compilersOwnNames.contains name = true)
  q : env.kindOf name ≠ some .globalExplicit
theorem qual_of (G : CEnv env c ns cc) {name : Str} {params : Arguments} {scope : Scope} {clos : List (Str × Addr)} (D : DefOk env cc name params scope clos) : qualnameIn env name name = "cmp_to_key.<locals>.K." ++ name := by
  unfold qualnameIn
  rw [if_neg (by simpa using D.q), G.qual]
theorem class_body {Q : Flow → Shared → Prop} (G : CEnv env c ns cc) (g : GlobOk h₀) (B : CB h₀ s.heap c P ns [("__module__", m0), ("__qualname__", q0), ("__firstlineno__", v1)] kDefs)
    (k0 : env.kindOf "__module__" = some .local ∨ (env.kindOf "__module__" = none ∧ compilersOwnNames.contains "__module__" = true))
    (k1 : env.kindOf "__slots__" = some .local ∨ (env.kindOf "__slots__" = none ∧ compilersOwnNames.contains "__slots__" = true))
    (k2 : env.kindOf "__hash__" = some .local ∨ (env.kindOf "__hash__" = none ∧ compilersOwnNames.contains "__hash__" = true))
    (D0 : DefOk env cc "__init__" a0 s0 []) (D1 : DefOk env cc "__lt__" a1 s1 [(("mycmp" : Str), cc)]) (D2 : DefOk env cc "__gt__" a2 s2 [(("mycmp" : Str), cc)]) (D3 : DefOk env cc "__eq__" a3 s3 [(("mycmp" : Str), cc)])
    (D4 : DefOk env cc "__le__" a4 s4 [(("mycmp" : Str), cc)]) (D5 : DefOk env cc "__ge__" a5 s5 [(("mycmp" : Str), cc)])
    (k : ∀ h' tk mt L t f0 f1 f2 f3 f4 f5, CB h₀ h' c P ns [("__module__", .str mm mt), ("__qualname__", q0), ("__firstlineno__", v1), ("__slots__", .ref L), ("__init__", .ref f0), ("__lt__", .ref f1), ("__gt__", .ref f2), ("__eq__", .ref f3), ("__le__", .ref f4), ("__ge__", .ref f5), ("__hash__", .none)] [] →
      h'.IsList L #[.str "obj" t] → GoodFn h' f0 "__init__" "cmp_to_key.<locals>.K.__init__" a0 b0 s0 [] → GoodFn h' f1 "__lt__" "cmp_to_key.<locals>.K.__lt__" a1 b1 s1 [(("mycmp" : Str), cc)] →
      FnAt1 h' f2 → FnAt1 h' f3 → FnAt1 h' f4 → FnAt1 h' f5 → Q .next { s with heap := h', toks := tk }) :
    wpAny (model prog w) A (execs [.Assign [.Name "__module__" p1] (.Constant (.str mm) n1 p2) p3, .Assign [.Name "__slots__" p4] (.List [.Constant (.str "obj") n2 p5] p6) p7,
      fnSt "__init__" a0 b0 s0 ⟨11, 8, 12, 26⟩, fnSt "__lt__" a1 b1 s1 ⟨14, 8, 15, 49⟩, fnSt "__gt__" a2 b2 s2 ⟨17, 8, 18, 49⟩, fnSt "__eq__" a3 b3 s3 ⟨20, 8, 21, 50⟩, fnSt "__le__" a4 b4 s4 ⟨23, 8, 24, 50⟩, fnSt "__ge__" a5 b5 s5 ⟨26, 8, 27, 50⟩,
      .Assign [.Name "__hash__" p8] (.Constant .none n3 p9) p10] env) Q E s := by
  refine wpAny_execs_cons (cb_assign (todo := kDefs) G k0 (Constant_str ⟨_, B.grow (fun _ _ e => e), fun h' tk B1 _ => ?_⟩))
  refine wpAny_execs_cons (cb_assign (todo := kDefs) (h₀ := h₀) (P := P) G k1 ?_)
  refine PyProof.Rows.List_ (spliced_cons (Constant_str (pos := p5) (k := n2) (spliced_nil (wpAny_newObj_type ?_ (by exact Nat.le_of_ble_eq_true rfl)))))
  have hL1 := Heap.get?_push_size h' (o := { cls := .type "list", data := .seq [Value.str (Str.ofString "obj") tk].toArray }) rfl
  refine ⟨_, CB.grow (s := { s with heap := h' }) B1 (fun b o e => Heap.get?_push_of_some _ e), fun h2 tk2 B2 hs2 => ?_⟩
  have hLn : h'.objs.size ≠ ns := fun z => by obtain ⟨es, ep, e, _⟩ := B1.nsL; rw [← z] at e; exact absurd (Heap.lt_size e) (Nat.lt_irrefl _)
  have hL2 := hs2.extBut _ _ hLn hL1
  refine wpAny_execs_cons (cb_def (s := { s with heap := h2, toks := tk2 }) (rest := kDefs.drop 1) B2 G g (by decide) (by decide) (by decide) D0.d D0.k D0.a ((qual_of G D0).trans (by decide)) D0.c D0.n fun f0 h3 tk3 B3 g0 kp3 => ?_)
  have ku3 := CB.kept B2 kp3
  have hL3 := ku3 _ _ hL2 (show Value.type "list" ≠ Value.type "dict" by decide) (show Value.type "list" ≠ Value.none by decide)
  refine wpAny_execs_cons (cb_def (s := { s with heap := h3, toks := tk3 }) (rest := kDefs.drop 2) B3 G g (by decide) (by decide) (by decide) D1.d D1.k D1.a ((qual_of G D1).trans (by decide)) D1.c D1.n fun f1 h4 tk4 B4 g1 kp4 => ?_)
  have ku4 := CB.kept B3 kp4
  have hL4 := ku4 _ _ hL3 (show Value.type "list" ≠ Value.type "dict" by decide) (show Value.type "list" ≠ Value.none by decide)
  replace g0 := goodUp g0 ku4
  refine wpAny_execs_cons (cb_def (s := { s with heap := h4, toks := tk4 }) (rest := kDefs.drop 3) B4 G g (by decide) (by decide) (by decide) D2.d D2.k D2.a ((qual_of G D2).trans (by decide)) D2.c D2.n fun f2 h5 tk5 B5 g2 kp5 => ?_)
  have ku5 := CB.kept B4 kp5
  have hL5 := ku5 _ _ hL4 (show Value.type "list" ≠ Value.type "dict" by decide) (show Value.type "list" ≠ Value.none by decide)
  replace g0 := goodUp g0 ku5
  replace g1 := goodUp g1 ku5
  refine wpAny_execs_cons (cb_def (s := { s with heap := h5, toks := tk5 }) (rest := kDefs.drop 4) B5 G g (by decide) (by decide) (by decide) D3.d D3.k D3.a ((qual_of G D3).trans (by decide)) D3.c D3.n fun f3 h6 tk6 B6 g3 kp6 => ?_)
  have ku6 := CB.kept B5 kp6
  have hL6 := ku6 _ _ hL5 (show Value.type "list" ≠ Value.type "dict" by decide) (show Value.type "list" ≠ Value.none by decide)
  replace g0 := goodUp g0 ku6
  replace g1 := goodUp g1 ku6
  replace g2 := goodUp g2 ku6
  refine wpAny_execs_cons (cb_def (s := { s with heap := h6, toks := tk6 }) (rest := kDefs.drop 5) B6 G g (by decide) (by decide) (by decide) D4.d D4.k D4.a ((qual_of G D4).trans (by decide)) D4.c D4.n fun f4 h7 tk7 B7 g4 kp7 => ?_)
  have ku7 := CB.kept B6 kp7
  have hL7 := ku7 _ _ hL6 (show Value.type "list" ≠ Value.type "dict" by decide) (show Value.type "list" ≠ Value.none by decide)
  replace g0 := goodUp g0 ku7
  replace g1 := goodUp g1 ku7
  replace g2 := goodUp g2 ku7
  replace g3 := goodUp g3 ku7
  refine wpAny_execs_cons (cb_def (s := { s with heap := h7, toks := tk7 }) (rest := kDefs.drop 6) B7 G g (by decide) (by decide) (by decide) D5.d D5.k D5.a ((qual_of G D5).trans (by decide)) D5.c D5.n fun f5 h8 tk8 B8 g5 kp8 => ?_)
  have ku8 := CB.kept B7 kp8
  have hL8 := ku8 _ _ hL7 (show Value.type "list" ≠ Value.type "dict" by decide) (show Value.type "list" ≠ Value.none by decide)
  replace g0 := goodUp g0 ku8
  replace g1 := goodUp g1 ku8
  replace g2 := goodUp g2 ku8
  replace g3 := goodUp g3 ku8
  replace g4 := goodUp g4 ku8
  refine wpAny_execs_cons (cb_assign (s := { s with heap := h8, toks := tk8 }) (todo := []) (h₀ := h₀) (P := P) G k2 (PyProof.Rows.Constant_none ⟨_, B8, fun h9 tk9 B9 hs9 => ?_⟩))
  have ku9 : ∀ b o, h8.get? b = some o → o.cls ≠ .type "dict" → o.cls ≠ .none → h9.get? b = some o := CB.kept B8 fun b o n _ e => hs9.extBut b o n e
  have hL9 := ku9 _ _ hL8 (show Value.type "list" ≠ Value.type "dict" by decide) (show Value.type "list" ≠ Value.none by decide)
  refine wpAny_execs_nil ?_
  exact k h9 _ _ _ _ f0 f1 f2 f3 f4 f5 B9 ⟨_, hL9, rfl, 0, rfl⟩ (goodUp g0 ku9) (goodUp g1 ku9) (g2.fn.up ku9) (g3.fn.up ku9) (g4.fn.up ku9) (g5.fn.up ku9)
end
end Mine
end
section
open PySem PySem.Calls PySem.W PyProof.Rows
namespace Mine
variable [iO : Old]
section
variable {M : Model} {A : Around} {E : Value → Shared → Prop} {s : Shared} {env : Env} {pos : Pos} {fl : Nat} {name qual : Str} {scope : Scope}
theorem class_code {Q : Value → Shared → Prop} (T : Tab s.heap) (hc : env.code = .ref 27) (C : CodeHd s.heap 27 tab0) (hp : pos.line = 7 ∧ pos.col = 4)
    (k : ∀ c P h' tk, (∀ b o, b ≠ tab0 → s.heap.get? b = some o → h'.get? b = some o) → h'.get? tab0 = some (tabO #[.int 7 0, .int 4 0, .ref c]) → CM s.heap h' c P kDefs → Q (.ref c) { s with heap := h', toks := tk }) :
    wpAny M A (classCode env pos fl name qual scope) Q E s := by
  obtain ⟨p1, p2⟩ := hp
  unfold classCode codeAt
  rw [hc, if_neg (show ¬ ((Value.ref 27 == Value.none) = true) from Bool.false_ne_true)]
  rcases T with T | ⟨c, T, F⟩
  · obtain ⟨o, vs, file, tf, flags, tg, inF, text, tt, op, ho, hd, h11, h2, h7, h9, h10, hop, hpd, htr, hne⟩ := C.code T (by trivial)
    obtain rfl : op = tabO #[] := by rw [T] at hop; obtain rfl := Option.some.inj hop; rfl
    refine wpAny_bind (wpAny_fieldsOf ho hd ?_)
    rw [h11]
    refine wpAny_bind (wpAny_fieldsOf hop rfl ?_)
    rw [show codeAmong pos (#[] : Array Value).toList = none from rfl, h2, h7, h9, h10]
    refine wpAny_bind (wpAny_newCodeX fun c' P' h' tk hk hc' hP' hcode' htab' hrec' => ?_)
    have hop' := hk _ _ hop
    refine wpAny_bind (wpAny_updateFieldsOfTheText hop' rfl ?_)
    have hnew : (Obj.mapFields (fun vs => if (codeAmong pos vs.toList).isSome = true then vs else vs ++ #[rawInt pos.line, rawInt pos.col, .ref c']) (tabO #[])) = tabO #[.int 7 0, .int 4 0, .ref c'] := by
      show tabO (#[] ++ #[rawInt pos.line, rawInt pos.col, .ref c']) = _
      rw [p1, p2]; rfl
    have hget := Heap.get?_update_self (h := h') (fun o => Obj.mapFields (fun vs => if (codeAmong pos vs.toList).isSome = true then vs else vs ++ #[rawInt pos.line, rawInt pos.col, .ref c']) o) hop' (by rw [hnew]; rfl)
    rw [hnew] at hget
    refine wpAny_bind (wpAny_fieldsOf hget rfl ?_)
    rw [show codeAmong pos (#[.int 7 0, .int 4 0, .ref c'] : Array Value).toList = some (.ref c') from by
      show (if ((7 : Int) == pos.line && (4 : Int) == pos.col) = true then some (Value.ref c') else codeAmong pos []) = _
      rw [p1, p2]; rfl]
    have sb : Heap.SameBut tab0 h' (h'.update tab0 fun o => Obj.mapFields (fun vs => if (codeAmong pos vs.toList).isSome = true then vs else vs ++ #[rawInt pos.line, rawInt pos.col, .ref c']) o) := Heap.SameBut.update ..
    have htl := Heap.lt_size T
    have n1 : c' ≠ tab0 := fun z => by rw [z] at hc'; exact absurd htl (Nat.not_lt.mpr hc')
    have n2 : P' ≠ tab0 := fun z => by rw [z] at hP'; exact absurd htl (Nat.not_lt.mpr hP')
    have hd' := CodeHd.of hcode' htab'
    refine wpAny_pure (k c' P' _ _ (fun b o nb e => sb.extBut b o nb (hk b o e)) hget ⟨?_, #[], sb.extBut _ _ n2 htab'.2, trivial, .inl ⟨?_, fun d _ => rfl, fun d m n => absurd m n⟩⟩)
    · obtain ⟨o, vs, file, tf, flags, tg, inF, text, tt, a1, r⟩ := hd'
      exact ⟨o, vs, file, tf, flags, tg, inF, text, tt, sb.extBut _ _ n1 a1, r⟩
    · cases e : s.heap.get? P' with
      | none => rfl
      | some o => exact absurd (Heap.lt_size e) (Nat.not_lt.mpr hP')
  · obtain ⟨o, vs, file, tf, flags, tg, inF, text, tt, op, ho, hd, h11, h2, h7, h9, h10, hop, hpd, htr, hne⟩ := C.code T (by trivial)
    refine wpAny_bind (wpAny_fieldsOf ho hd ?_)
    rw [h11]
    refine wpAny_bind (wpAny_fieldsOf T rfl ?_)
    rw [show codeAmong pos (#[.int 7 0, .int 4 0, .ref c] : Array Value).toList = some (.ref c) from by
      show (if ((7 : Int) == pos.line && (4 : Int) == pos.col) = true then some (Value.ref c) else codeAmong pos []) = _
      rw [p1, p2]; rfl]
    obtain ⟨P, ps, q1, q2, q3, q4⟩ := F
    exact wpAny_pure (k c P s.heap s.toks (fun _ _ _ e => e) T ⟨q1, ps, q2, q3, .inr q4⟩)
end
end Mine
end
section
open PySem PySem.Calls PySem.W PyProof.Rows
namespace Mine
variable [iO : Old]
inductive StopB : {α : Type} → Sem α → Prop
  | getAttr (v : Value) (n : Str) : StopB (getAttr? v n)
  | mods (n : String) (a : Addr) : StopB (notTheModulesDict n a)
  | code (env : Env) (p : Pos) (n : Nat) (a b : Str) (sc : Scope) : StopB (classCode env p n a b sc)
  | bi (a b : Addr) : StopB (builtinsFor a b)
  | frame (c : Value) (a b d : Addr) : StopB (newBodyFrame c a b d)
  | clo (sc : Scope) (env : Env) : StopB (closureFor sc env)
  | enter (n : Nat) : StopB (enterFrame n)
  | store (env : Env) (n : Str) (v : Value) : StopB (storeName env n v)
  | load (env : Env) (n : Str) : StopB (loadName env n)
  | tuple (vs : List Value) : StopB (newTuple vs)
  | ttuple (vs : List Value) : StopB (newTextTuple vs)
  | mapM (l : List Str) : StopB (l.mapM mkText)
  | special (v : Value) (n : Str) : StopB (specialOf v n)
theorem stb {α : Type} {m : Sem α} {M : Model} {A : Around} {E : Value → Shared → Prop} {s : Shared} {Q : α → Shared → Prop} (_ : StopB m) (h : wpAny M A m Q E s) : wpAny M A m Q E s := h
section
variable {M : Model} {A : Around} {E : Value → Shared → Prop} {s : Shared}
theorem sb_onRaise {α : Type} {m : Sem α} {k : Value → Sem Unit} {Q : α → Shared → Prop} (h : wpAny M A m Q (fun e s' => wpAny M A (k e) (fun _ s'' => E e s'') E s') s) : wpAny M A (Sem.onRaise m k) Q E s := wpAny_onRaise h
end
section
variable {prog : Program} {w : World} {A : Around} {E : Value → Shared → Prop} {s : Shared} {env : Env} {pos : Pos} {fl : Nat} {scope : Scope} {cc : Addr}
variable {p1 p2 p3 p4 p5 p6 p7 p8 p9 p10 : Pos} {n1 n2 n3 : Nat} {mm : Str} {a0 a1 a2 a3 a4 a5 : Arguments} {b0 b1 b2 b3 b4 b5 : List Stmt} {s0 s1 s2 s3 s4 s5 : Scope}
structure KMade (h₀ H : Heap) (a ns d cc : Addr) (a0 : Arguments) (b0 : List Stmt) (s0 : Scope) (a1 : Arguments) (b1 : List Stmt) (s1 : Scope) : Prop where
  keep : ∀ b o, b ≠ tab0 → h₀.get? b = some o → H.get? b = some o
  tab : Tab H
  ns0 : h₀.get? ns = none
  rest : ∃ T tt tq td L m0 v1 f0 f1 f2 f3 f4 f5 st, H.get? a = some (clsO (cdK a ns) (slK T tt tq)) ∧ NsL H ns (kvsK m0 v1 (.ref L) (.ref f0) (.ref f1) f2 f3 f4 f5 st (.ref d)) ∧ H.get? d = some (memO td a) ∧
    GoodFn H f0 "__init__" "cmp_to_key.<locals>.K.__init__" a0 b0 s0 [] ∧ GoodFn H f1 "__lt__" "cmp_to_key.<locals>.K.__lt__" a1 b1 s1 [(("mycmp" : Str), cc)]
theorem load_name_cls {c ns : Addr} {kvs : List (Str × Value)} {v : Value} {Q : Value → Shared → Prop} {env : Env} {mg : Str → Option Value} (hg : s.heap.Ns mainGlobals mg) (G : CEnv env c ns cc) (hn : NsL s.heap ns kvs) (hk : env.kindOf "__name__" = none) (hl : kvs.lookup ("__name__" : Str) = none)
    (e : mg "__name__" = some v) (h : Q v s) : wpAny (model prog w) A (loadName env "__name__") Q E s := by
  unfold loadName
  have h1 : env.scope.kind.isAnnotationScope = false := by rw [G.kind]; rfl
  have h2 : env.blockKind = .class := by unfold Env.blockKind; rw [G.kind]; rfl
  rw [h1, if_neg (by rw [Bool.false_and, Bool.false_and]; decide), h2, hk]
  dsimp only
  rw [if_neg (show ¬ (!compilersOwnNames.contains ("__name__" : Str)) = true by decide)]
  unfold localGet
  rw [G.loc]
  have hn' := hn
  obtain ⟨es, ep, e1, _⟩ := hn
  refine wpAny_bind (wpAny_bind (wpAny_load e1 ?_))
  rw [if_pos (by rfl)]
  refine nsGetN hn' hl ?_
  exact loadGlobal_global (env := env) (by rw [G.glob]; exact hg) e h
theorem t_dget : typeLookup (.type "dict") (Str.ofString "__getitem__") = pure (some (.builtin "dict.__getitem__")) := by rw [typeLookup_type, builtinLookup_eq_fast]; kernel_rfl
theorem b_mods {M : Model} {n : String} {a : Addr} {Q : Unit → Shared → Prop} (hn : (a == sysModules) = false) (h : Q () s) : wpAny M A (notTheModulesDict n a) Q E s := by
  unfold notTheModulesDict
  rw [hn]
  exact wpAny_pure h
theorem CM.low {h₀ h₁ h : Heap} {c P : Addr} {todo : List (Pos × Str)} (x : CM h₁ h c P todo) (k : ∀ b o, h₀.get? b = some o → h₁.get? b = some o) : CM h₀ h c P todo := by
  obtain ⟨ps, a1, a2, a3⟩ := x.tb
  refine ⟨x.hd, ps, a1, a2, ?_⟩
  rcases a3 with ⟨b1, b2⟩ | b
  · refine .inl ⟨?_, b2⟩
    cases e : h₀.get? P with
    | none => rfl
    | some o => rw [k _ _ e] at b1; injection b1
  · exact .inr b
theorem b_frame {M : Model} {c : Value} {a b d : Addr} {mg : Str → Option Value} {Q : Addr → Shared → Prop} (hg : s.heap.Ns a mg) (k : ∀ H F, (∀ b o, s.heap.get? b = some o → H.get? b = some o) → Q F { s with heap := H }) : wpAny M A (newBodyFrame c a b d) Q E s := by
  unfold newBodyFrame
  exact wpAny_bind (wpAny_nsGet hg (wpAny_alloc (k _ _ (fun _ _ e => Heap.get?_push_of_some _ e))))
theorem push_new {h : Heap} : h.get? h.objs.size = none := by
  cases e : h.get? h.objs.size with
  | none => rfl
  | some o => exact absurd (Heap.lt_size e) (Nat.lt_irrefl _)
theorem b_tuple {M : Model} {Q : Value → Shared → Prop} {vs : List Value} (k : ∀ H T, (∀ b o, s.heap.get? b = some o → H.get? b = some o) → H.get? T = some { cls := .type "tuple", data := .seq vs.toArray } → s.heap.get? T = none → Q (.ref T) { s with heap := H })
    (hsz : vs.length ≤ sizeLine := by size_fits) : wpAny M A (newTuple vs) Q E s := wpAny_newTuple (k _ _ (fun _ _ e => Heap.get?_push_of_some _ e) (Heap.get?_push_size _ rfl) push_new) hsz
theorem b_ttuple {M : Model} {Q : Value → Shared → Prop} {vs : List Value} (k : ∀ H T, (∀ b o, s.heap.get? b = some o → H.get? b = some o) → H.get? T = some { cls := .type "tuple", data := .seq vs.toArray } → Q (.ref T) { s with heap := H }) : wpAny M A (newTextTuple vs) Q E s :=
  wpAny_newTextTuple (k _ _ (fun _ _ e => Heap.get?_push_of_some _ e) (Heap.get?_push_size _ rfl))
theorem b_getPrep {Q : Option Value → Shared → Prop} (k : ∀ H tk f, (∀ b o, s.heap.get? b = some o → H.get? b = some o) → H.get? f = some prepO → Q (some (.ref f)) { s with heap := H, toks := tk }) : wpAny (model prog w) A (getAttr? (.type "type") (Str.ofString "__prepare__")) Q E s :=
  get_prep (k _ _ _ (fun _ _ e => Heap.get?_push_of_some _ e) (Heap.get?_push_size _ rfl))
theorem b_callPrep {f T : Addr} {n : Str} {t : Tok} {Q : Value → Shared → Prop} (hf : s.heap.get? f = some prepO) (k : ∀ H ns, (∀ b o, s.heap.get? b = some o → H.get? b = some o) → H.get? ns = some { cls := .type "dict", data := .dict #[] } → s.heap.get? ns = none → s.heap.objs.size ≤ ns → Q (.ref ns) { s with heap := H }) :
    wpAny (model prog w) A (call (.ref f) [.str n t, .ref T]) Q E s := call_prep hf (k _ _ (fun _ _ e => Heap.get?_push_of_some _ e) (Heap.get?_push_size _ rfl) push_new (Nat.le_refl _))
set_option maxHeartbeats 4000000 in
theorem build_class {K : Frag} {Q : Value → Shared → Prop} {nm : Str} {nt : Tok} {body : List Stmt} (g : Gd K A.frames s) (hop : nsIn K cStatics "thirdparty.any" = some none) (hnm : nsIn K mainGlobals "__name__" = some (some (.str nm nt))) (hc : env.code = .ref 27) (hgl : env.globals = mainGlobals) (C : CodeHd s.heap 27 tab0) (hp : pos.line = 7 ∧ pos.col = 4) (hsc : scope.kind = .class)
    (hcl : (scope.names.lookup ("__class__" : Str) == some NameKind.cell) = false) (hcd : (scope.names.lookup ("__classdict__" : Str) == some NameKind.cell) = false) (hclo : closureFor scope env = pure [(("mycmp" : Str), cc)]) (hdp : A.depth < recursionLimit)
    (hkn : scope.names.lookup ("__name__" : Str) = none)
    (hk : ∀ x ∈ ([("__module__" : Str), "__qualname__", "__firstlineno__", "__static_attributes__", "__slots__", "__hash__"] : List Str), scope.names.lookup x = some .local ∨ (scope.names.lookup x = none ∧ compilersOwnNames.contains x = true))
    (hD : ∀ e : Env, e.scope = scope → e.cells = [(("mycmp" : Str), cc)] → DefOk e cc "__init__" a0 s0 [] ∧ DefOk e cc "__lt__" a1 s1 [(("mycmp" : Str), cc)] ∧ DefOk e cc "__gt__" a2 s2 [(("mycmp" : Str), cc)] ∧ DefOk e cc "__eq__" a3 s3 [(("mycmp" : Str), cc)] ∧ DefOk e cc "__le__" a4 s4 [(("mycmp" : Str), cc)] ∧ DefOk e cc "__ge__" a5 s5 [(("mycmp" : Str), cc)])
    (hbody : body = [.Assign [.Name "__module__" p1] (.Constant (.str mm) n1 p2) p3, .Assign [.Name "__slots__" p4] (.List [.Constant (.str "obj") n2 p5] p6) p7,
      fnSt "__init__" a0 b0 s0 ⟨11, 8, 12, 26⟩, fnSt "__lt__" a1 b1 s1 ⟨14, 8, 15, 49⟩, fnSt "__gt__" a2 b2 s2 ⟨17, 8, 18, 49⟩, fnSt "__eq__" a3 b3 s3 ⟨20, 8, 21, 50⟩, fnSt "__le__" a4 b4 s4 ⟨23, 8, 24, 50⟩, fnSt "__ge__" a5 b5 s5 ⟨26, 8, 27, 50⟩,
      .Assign [.Name "__hash__" p8] (.Constant .none n3 p9) p10])
    (k : ∀ H tk' a ns d, KMade s.heap H a ns d cc a0 b0 s0 a1 b1 s1 → Q (.ref a) { s with heap := H, toks := tk' }) :
    wpAny (model prog w) A (buildClass "K" "cmp_to_key.<locals>.K" [.type "object"] [] body scope ["obj"] fl env pos none) Q E s := by
  have e1 := t_meta
  have e2 : isSubtype (.type "type") (Value.type ((Manifest.find? "object").elim "type" fun x => x.metatype)) = pure true := by rw [t_meta]; exact t_subT
  have e3 : isSubtype (Value.type ((Manifest.find? "object").elim "type" fun x => x.metatype)) (Value.type ((Manifest.find? "object").elim "type" fun x => x.metatype)) = pure true := by rw [t_meta]; exact t_subT
  obtain ⟨h, gg, dr, tk, os⟩ := s
  unfold buildClass
  (repeat (first | (with_reducible first | refine sb_onRaise ?_ | refine wpAny_fresh ?_ | refine wpAny_mkText ?_ | refine wpAny_mkInt ?_ | refine wpAny_pure ?_ | refine wpAny_bind ?_ | refine wpAny_holding ?_ | refine wpAny_rule ?_ | refine wpAny_of_eq (by assumption) ?_) | ((with_reducible refine wpAny_ite_false ?hc ?_); (case hc => rfl)) | ((with_reducible refine wpAny_ite_true ?hc ?_); (case hc => rfl)) | (with_reducible first | refine wpAny_ite_false (by assumption) ?_ | refine wpAny_ite_true (by assumption) ?_) | ((fail_if_success (with_reducible refine' stb (by constructor) ?_)); wp_delta)))
  refine b_tuple fun H1 T k1 e1T nT => ?_
  (repeat (first | (with_reducible first | refine sb_onRaise ?_ | refine wpAny_fresh ?_ | refine wpAny_mkText ?_ | refine wpAny_mkInt ?_ | refine wpAny_pure ?_ | refine wpAny_bind ?_ | refine wpAny_holding ?_ | refine wpAny_rule ?_ | refine wpAny_of_eq (by assumption) ?_) | ((with_reducible refine wpAny_ite_false ?hc ?_); (case hc => rfl)) | ((with_reducible refine wpAny_ite_true ?hc ?_); (case hc => rfl)) | (with_reducible first | refine wpAny_ite_false (by assumption) ?_ | refine wpAny_ite_true (by assumption) ?_) | ((fail_if_success (with_reducible refine' stb (by constructor) ?_)); wp_delta)))
  rw [t_meta]
  refine b_getPrep fun H2 tk2 f k2 e2f => ?_
  (repeat (first | (with_reducible first | refine sb_onRaise ?_ | refine wpAny_fresh ?_ | refine wpAny_mkText ?_ | refine wpAny_mkInt ?_ | refine wpAny_pure ?_ | refine wpAny_bind ?_ | refine wpAny_holding ?_ | refine wpAny_rule ?_ | refine wpAny_of_eq (by assumption) ?_) | ((with_reducible refine wpAny_ite_false ?hc ?_); (case hc => rfl)) | ((with_reducible refine wpAny_ite_true ?hc ?_); (case hc => rfl)) | (with_reducible first | refine wpAny_ite_false (by assumption) ?_ | refine wpAny_ite_true (by assumption) ?_) | ((fail_if_success (with_reducible refine' stb (by constructor) ?_)); wp_delta)))
  refine b_callPrep e2f fun H3 ns k3 e3n nN nS => ?_
  dsimp only at k1 k2 k3 e1T e2f e3n nT nN nS g C
  have nsne : (ns == sysModules) = false := by
    obtain ⟨o, e⟩ := g.tab.ex
    have := Heap.lt_size (k2 _ _ (k1 _ _ e))
    have h2 : 23 < ns := Nat.lt_of_lt_of_le this nS
    exact beq_false_of_ne fun z => by rw [z] at h2; exact absurd h2 (by decide)
  (repeat (first | (with_reducible first | refine sb_onRaise ?_ | refine wpAny_fresh ?_ | refine wpAny_mkText ?_ | refine wpAny_mkInt ?_ | refine wpAny_pure ?_ | refine wpAny_bind ?_ | refine wpAny_holding ?_ | refine wpAny_rule ?_ | refine wpAny_of_eq (by assumption) ?_) | ((with_reducible refine wpAny_ite_false ?hc ?_); (case hc => rfl)) | ((with_reducible refine wpAny_ite_true ?hc ?_); (case hc => rfl)) | (with_reducible first | refine wpAny_ite_false (by assumption) ?_ | refine wpAny_ite_true (by assumption) ?_) | ((fail_if_success (with_reducible refine' stb (by constructor) ?_)); wp_delta)))
  refine b_mods nsne ?_
  (repeat (first | (with_reducible first | refine sb_onRaise ?_ | refine wpAny_fresh ?_ | refine wpAny_mkText ?_ | refine wpAny_mkInt ?_ | refine wpAny_pure ?_ | refine wpAny_bind ?_ | refine wpAny_holding ?_ | refine wpAny_rule ?_ | refine wpAny_of_eq (by assumption) ?_) | ((with_reducible refine wpAny_ite_false ?hc ?_); (case hc => rfl)) | ((with_reducible refine wpAny_ite_true ?hc ?_); (case hc => rfl)) | (with_reducible first | refine wpAny_ite_false (by assumption) ?_ | refine wpAny_ite_true (by assumption) ?_) | ((fail_if_success (with_reducible refine' stb (by constructor) ?_)); wp_delta)))
  refine wpAny_specialOf (T := "dict") ⟨_, e3n, rfl⟩ t_dget ?_
  (repeat (first | (with_reducible first | refine sb_onRaise ?_ | refine wpAny_fresh ?_ | refine wpAny_mkText ?_ | refine wpAny_mkInt ?_ | refine wpAny_pure ?_ | refine wpAny_bind ?_ | refine wpAny_holding ?_ | refine wpAny_rule ?_ | refine wpAny_of_eq (by assumption) ?_) | ((with_reducible refine wpAny_ite_false ?hc ?_); (case hc => rfl)) | ((with_reducible refine wpAny_ite_true ?hc ?_); (case hc => rfl)) | (with_reducible first | refine wpAny_ite_false (by assumption) ?_ | refine wpAny_ite_true (by assumption) ?_) | ((fail_if_success (with_reducible refine' stb (by constructor) ?_)); wp_delta)))
  refine KFB.if_not hcl ?_
  (repeat (first | (with_reducible first | refine sb_onRaise ?_ | refine wpAny_fresh ?_ | refine wpAny_mkText ?_ | refine wpAny_mkInt ?_ | refine wpAny_pure ?_ | refine wpAny_bind ?_ | refine wpAny_holding ?_ | refine wpAny_rule ?_ | refine wpAny_of_eq (by assumption) ?_) | ((with_reducible refine wpAny_ite_false ?hc ?_); (case hc => rfl)) | ((with_reducible refine wpAny_ite_true ?hc ?_); (case hc => rfl)) | (with_reducible first | refine wpAny_ite_false (by assumption) ?_ | refine wpAny_ite_true (by assumption) ?_) | ((fail_if_success (with_reducible refine' stb (by constructor) ?_)); wp_delta)))
  refine KFB.if_not hcd ?_
  (repeat (first | (with_reducible first | refine sb_onRaise ?_ | refine wpAny_fresh ?_ | refine wpAny_mkText ?_ | refine wpAny_mkInt ?_ | refine wpAny_pure ?_ | refine wpAny_bind ?_ | refine wpAny_holding ?_ | refine wpAny_rule ?_ | refine wpAny_of_eq (by assumption) ?_) | ((with_reducible refine wpAny_ite_false ?hc ?_); (case hc => rfl)) | ((with_reducible refine wpAny_ite_true ?hc ?_); (case hc => rfl)) | (with_reducible first | refine wpAny_ite_false (by assumption) ?_ | refine wpAny_ite_true (by assumption) ?_) | ((fail_if_success (with_reducible refine' stb (by constructor) ?_)); wp_delta)))
  have K3 : ∀ b o, h.get? b = some o → H3.get? b = some o := fun b o e => k3 b o (k2 b o (k1 b o e))
  have g3 : GdH K H3 := g.toGdH.kp (Kp.of K3)
  have C3 : CodeHd H3 27 tab0 := CodeHd.keepC C fun b o vs e _ _ => K3 b o e
  have K2 : ∀ b o, h.get? b = some o → H2.get? b = some o := fun b o e => k2 b o (k1 b o e)
  have g2 : GdH K H2 := g.toGdH.kp (Kp.of K2)
  have nst : ns ≠ tab0 := fun z => by
    obtain ⟨o, e⟩ := g2.tab.ex
    rw [z, e] at nN; injection nN
  have Tt : T ≠ tab0 := fun z => by
    obtain ⟨o, e⟩ := g.tab.ex
    rw [z, e] at nT; injection nT
  refine class_code g3.tab hc C3 hp fun c P H4 tk4 k4 ht4 cm4 => ?_
  dsimp only at k4 ht4 cm4
  have B4 : CB H2 H4 c P ns [] kDefs := ⟨fun b o n e => k4 b o n (k3 b o e), ht4, cm4.low k3, ⟨⟨[]⟩, 0, k4 _ _ nst e3n, .nil⟩, nN, nst, fun z => by obtain ⟨o, e⟩ := g2.tab.ex; rw [e] at z; injection z⟩
  have GK : GlobOk H2 := ⟨g2.bm⟩
  obtain ⟨mg, bm, bo, x0, x1, x2, x3, x4, x5, x6, x7⟩ := g2.bm
  have hg4 : H4.Ns mainGlobals mg := by obtain ⟨o, es, ep, e, r⟩ := x0; exact ⟨o, es, ep, B4.kp _ _ (by decide) e, r⟩
  (repeat (first | (with_reducible first | refine sb_onRaise ?_ | refine wpAny_fresh ?_ | refine wpAny_mkText ?_ | refine wpAny_mkInt ?_ | refine wpAny_pure ?_ | refine wpAny_bind ?_ | refine wpAny_holding ?_ | refine wpAny_rule ?_ | refine wpAny_of_eq (by assumption) ?_) | ((with_reducible refine wpAny_ite_false ?hc ?_); (case hc => rfl)) | ((with_reducible refine wpAny_ite_true ?hc ?_); (case hc => rfl)) | (with_reducible first | refine wpAny_ite_false (by assumption) ?_ | refine wpAny_ite_true (by assumption) ?_) | ((fail_if_success (with_reducible refine' stb (by constructor) ?_)); wp_delta)))
  refine wpAny_builtinsFor (by rw [hgl]; exact hg4) x1 x2 (B4.kp _ _ x3 x4) x5 x6 x7 ?_
  (repeat (first | (with_reducible first | refine sb_onRaise ?_ | refine wpAny_fresh ?_ | refine wpAny_mkText ?_ | refine wpAny_mkInt ?_ | refine wpAny_pure ?_ | refine wpAny_bind ?_ | refine wpAny_holding ?_ | refine wpAny_rule ?_ | refine wpAny_of_eq (by assumption) ?_) | ((with_reducible refine wpAny_ite_false ?hc ?_); (case hc => rfl)) | ((with_reducible refine wpAny_ite_true ?hc ?_); (case hc => rfl)) | (with_reducible first | refine wpAny_ite_false (by assumption) ?_ | refine wpAny_ite_true (by assumption) ?_) | ((fail_if_success (with_reducible refine' stb (by constructor) ?_)); wp_delta)))
  refine b_frame (by rw [hgl]; exact hg4) fun H5 F k5 => ?_
  (repeat (first | (with_reducible first | refine sb_onRaise ?_ | refine wpAny_fresh ?_ | refine wpAny_mkText ?_ | refine wpAny_mkInt ?_ | refine wpAny_pure ?_ | refine wpAny_bind ?_ | refine wpAny_holding ?_ | refine wpAny_rule ?_ | refine wpAny_of_eq (by assumption) ?_) | ((with_reducible refine wpAny_ite_false ?hc ?_); (case hc => rfl)) | ((with_reducible refine wpAny_ite_true ?hc ?_); (case hc => rfl)) | (with_reducible first | refine wpAny_ite_false (by assumption) ?_ | refine wpAny_ite_true (by assumption) ?_) | ((fail_if_success (with_reducible refine' stb (by constructor) ?_)); wp_delta)))
  dsimp only at k5
  have B5 : CB H2 H5 c P ns [] kDefs := CB.grow (s := ⟨H4, gg, dr, tk, os⟩) B4 k5
  have hg5 : H5.Ns mainGlobals mg := by obtain ⟨o, es, ep, e, r⟩ := x0; exact ⟨o, es, ep, B5.kp _ _ (by decide) e, r⟩
  have lim5 : H5.NoLimit := by obtain ⟨mc, ⟨o, es, ep, e, r⟩, f2⟩ := g2.lim; exact ⟨mc, ⟨o, es, ep, B5.kp _ _ (by decide) e, r⟩, f2⟩
  refine wpAny_enterFrame lim5 hdp ?_
  generalize hce : ({ scope := scope, locals := ns, globals := env.globals, cells := (Option.map (fun x => (Str.ofString "__class__", x)) (none : Option Addr)).toList ++ (Option.map (fun x => (Str.ofString "__classdict__", x)) (none : Option Addr)).toList ++ [(Str.ofString "mycmp", cc)], qual := Str.ofString "cmp_to_key.<locals>.K" ++ Str.ofString ".", code := Value.ref c, frame := some F, builtins := builtinsNs } : Env) = ce
  have G : CEnv ce c ns cc := by subst hce; exact ⟨hsc, rfl, hgl, rfl, rfl, rfl, show Str.ofString "cmp_to_key.<locals>.K" ++ Str.ofString "." = Str.ofString "cmp_to_key.<locals>.K." by decide⟩
  have hes : ce.scope = scope := by subst hce; rfl
  clear hce
  have hek : ∀ x ∈ ([("__module__" : Str), "__qualname__", "__firstlineno__", "__static_attributes__", "__slots__", "__hash__"] : List Str), ce.kindOf x = some .local ∨ (ce.kindOf x = none ∧ compilersOwnNames.contains x = true) := fun x m => by
    have := hk x m
    rw [← hes] at this; exact this
  have hkn' : ce.kindOf "__name__" = none := by rw [← hes] at hkn; exact hkn
  obtain ⟨D0, D1, D2, D3, D4, D5⟩ := hD ce hes G.cells
  (repeat (first | (with_reducible first | refine sb_onRaise ?_ | refine wpAny_fresh ?_ | refine wpAny_mkText ?_ | refine wpAny_mkInt ?_ | refine wpAny_pure ?_ | refine wpAny_bind ?_ | refine wpAny_holding ?_ | refine wpAny_rule ?_ | refine wpAny_of_eq (by assumption) ?_) | ((with_reducible refine wpAny_ite_false ?hc ?_); (case hc => rfl)) | ((with_reducible refine wpAny_ite_true ?hc ?_); (case hc => rfl)) | (with_reducible first | refine wpAny_ite_false (by assumption) ?_ | refine wpAny_ite_true (by assumption) ?_) | ((fail_if_success (with_reducible refine' stb (by constructor) ?_)); wp_delta)))
  refine load_name_cls hg5 G B5.nsL hkn' rfl (mg_of g2.inK x0 hnm) ?_
  (repeat (first | (with_reducible first | refine sb_onRaise ?_ | refine wpAny_fresh ?_ | refine wpAny_mkText ?_ | refine wpAny_mkInt ?_ | refine wpAny_pure ?_ | refine wpAny_bind ?_ | refine wpAny_holding ?_ | refine wpAny_rule ?_ | refine wpAny_of_eq (by assumption) ?_) | ((with_reducible refine wpAny_ite_false ?hc ?_); (case hc => rfl)) | ((with_reducible refine wpAny_ite_true ?hc ?_); (case hc => rfl)) | (with_reducible first | refine wpAny_ite_false (by assumption) ?_ | refine wpAny_ite_true (by assumption) ?_) | ((fail_if_success (with_reducible refine' stb (by constructor) ?_)); wp_delta)))
  refine cb_store B5 G (hek "__module__" (.head _)) fun H6 tk6 B6 _ => ?_
  (repeat (first | (with_reducible first | refine sb_onRaise ?_ | refine wpAny_fresh ?_ | refine wpAny_mkText ?_ | refine wpAny_mkInt ?_ | refine wpAny_pure ?_ | refine wpAny_bind ?_ | refine wpAny_holding ?_ | refine wpAny_rule ?_ | refine wpAny_of_eq (by assumption) ?_) | ((with_reducible refine wpAny_ite_false ?hc ?_); (case hc => rfl)) | ((with_reducible refine wpAny_ite_true ?hc ?_); (case hc => rfl)) | (with_reducible first | refine wpAny_ite_false (by assumption) ?_ | refine wpAny_ite_true (by assumption) ?_) | ((fail_if_success (with_reducible refine' stb (by constructor) ?_)); wp_delta)))
  refine cb_store B6 G (hek "__qualname__" (.tail _ (.head _))) fun H7 tk7 B7 _ => ?_
  (repeat (first | (with_reducible first | refine sb_onRaise ?_ | refine wpAny_fresh ?_ | refine wpAny_mkText ?_ | refine wpAny_mkInt ?_ | refine wpAny_pure ?_ | refine wpAny_bind ?_ | refine wpAny_holding ?_ | refine wpAny_rule ?_ | refine wpAny_of_eq (by assumption) ?_) | ((with_reducible refine wpAny_ite_false ?hc ?_); (case hc => rfl)) | ((with_reducible refine wpAny_ite_true ?hc ?_); (case hc => rfl)) | (with_reducible first | refine wpAny_ite_false (by assumption) ?_ | refine wpAny_ite_true (by assumption) ?_) | ((fail_if_success (with_reducible refine' stb (by constructor) ?_)); wp_delta)))
  refine cb_store B7 G (hek "__firstlineno__" (.tail _ (.tail _ (.head _)))) fun H8 tk8 B8 _ => ?_
  (repeat (first | (with_reducible first | refine sb_onRaise ?_ | refine wpAny_fresh ?_ | refine wpAny_mkText ?_ | refine wpAny_mkInt ?_ | refine wpAny_pure ?_ | refine wpAny_bind ?_ | refine wpAny_holding ?_ | refine wpAny_rule ?_ | refine wpAny_of_eq (by assumption) ?_) | ((with_reducible refine wpAny_ite_false ?hc ?_); (case hc => rfl)) | ((with_reducible refine wpAny_ite_true ?hc ?_); (case hc => rfl)) | (with_reducible first | refine wpAny_ite_false (by assumption) ?_ | refine wpAny_ite_true (by assumption) ?_) | ((fail_if_success (with_reducible refine' stb (by constructor) ?_)); wp_delta)))
  refine wpAny_run (codeAny_body (by rw [hbody]; rfl) (by rw [hbody]; rfl) ?_)
  rw [hbody]
  refine class_body G GK B8 (hek "__module__" (.head _)) (hek "__slots__" (.tail _ (.tail _ (.tail _ (.tail _ (.head _)))))) (hek "__hash__" (.tail _ (.tail _ (.tail _ (.tail _ (.tail _ (.head _))))))) D0 D1 D2 D3 D4 D5 fun H9 tk9 mt L lt f0 f1 f2 f3 f4 f5 B9 hL9 gf0 gf1 q2 q3 q4 q5 => ?_
  dsimp only
  (repeat (first | (with_reducible first | refine sb_onRaise ?_ | refine wpAny_fresh ?_ | refine wpAny_mkText ?_ | refine wpAny_mkInt ?_ | refine wpAny_pure ?_ | refine wpAny_bind ?_ | refine wpAny_holding ?_ | refine wpAny_rule ?_ | refine wpAny_of_eq (by assumption) ?_) | ((with_reducible refine wpAny_ite_false ?hc ?_); (case hc => rfl)) | ((with_reducible refine wpAny_ite_true ?hc ?_); (case hc => rfl)) | (with_reducible first | refine wpAny_ite_false (by assumption) ?_ | refine wpAny_ite_true (by assumption) ?_) | ((fail_if_success (with_reducible refine' stb (by constructor) ?_)); wp_delta)))
  refine wpAny_mkStrs fun vs => ?_
  (repeat (first | (with_reducible first | refine sb_onRaise ?_ | refine wpAny_fresh ?_ | refine wpAny_mkText ?_ | refine wpAny_mkInt ?_ | refine wpAny_pure ?_ | refine wpAny_bind ?_ | refine wpAny_holding ?_ | refine wpAny_rule ?_ | refine wpAny_of_eq (by assumption) ?_) | ((with_reducible refine wpAny_ite_false ?hc ?_); (case hc => rfl)) | ((with_reducible refine wpAny_ite_true ?hc ?_); (case hc => rfl)) | (with_reducible first | refine wpAny_ite_false (by assumption) ?_ | refine wpAny_ite_true (by assumption) ?_) | ((fail_if_success (with_reducible refine' stb (by constructor) ?_)); wp_delta)))
  refine b_ttuple fun H10 st k10 e10 => ?_
  have B10 : CB H2 H10 c P ns _ [] := CB.grow (s := ⟨H9, gg, dr, tk, os⟩) B9 k10
  (repeat (first | (with_reducible first | refine sb_onRaise ?_ | refine wpAny_fresh ?_ | refine wpAny_mkText ?_ | refine wpAny_mkInt ?_ | refine wpAny_pure ?_ | refine wpAny_bind ?_ | refine wpAny_holding ?_ | refine wpAny_rule ?_ | refine wpAny_of_eq (by assumption) ?_) | ((with_reducible refine wpAny_ite_false ?hc ?_); (case hc => rfl)) | ((with_reducible refine wpAny_ite_true ?hc ?_); (case hc => rfl)) | (with_reducible first | refine wpAny_ite_false (by assumption) ?_ | refine wpAny_ite_true (by assumption) ?_) | ((fail_if_success (with_reducible refine' stb (by constructor) ?_)); wp_delta)))
  refine cb_store B10 G (hek "__static_attributes__" (.tail _ (.tail _ (.tail _ (.head _))))) fun H11 tk11 B11 sb11 => ?_
  (repeat (first | (with_reducible first | refine sb_onRaise ?_ | refine wpAny_fresh ?_ | refine wpAny_mkText ?_ | refine wpAny_mkInt ?_ | refine wpAny_pure ?_ | refine wpAny_bind ?_ | refine wpAny_holding ?_ | refine wpAny_rule ?_ | refine wpAny_of_eq (by assumption) ?_) | ((with_reducible refine wpAny_ite_false ?hc ?_); (case hc => rfl)) | ((with_reducible refine wpAny_ite_true ?hc ?_); (case hc => rfl)) | (with_reducible first | refine wpAny_ite_false (by assumption) ?_ | refine wpAny_ite_true (by assumption) ?_) | ((fail_if_success (with_reducible refine' stb (by constructor) ?_)); wp_delta)))
  dsimp only at B11 sb11 e10 k10
  have ku : ∀ b o, H9.get? b = some o → o.cls ≠ .type "dict" → H11.get? b = some o := fun b o e hc => sb11.extBut b o (fun z => by
    obtain ⟨es, ep, e', _⟩ := B9.nsL
    rw [z, e'] at e; cases e; exact absurd rfl hc) (k10 b o e)
  have X11 : K.In H11 := fun i o q => B11.kp i o (fun z => by rw [z, g.no] at q; injection q) (g2.inK i o q)
  have hT11 : H11.get? T = some { cls := .type "tuple", data := .seq #[.type "object"] 0 } := B11.kp _ _ Tt (k2 _ _ e1T)
  have hL11 : H11.IsList L #[.str "obj" lt] := by
    obtain ⟨o, e, c1, n, d1⟩ := hL9
    exact ⟨o, ku _ _ e (by rw [c1]; decide), c1, n, d1⟩
  have hfn : ∀ f, FnAt1 H9 f → Qt ⟨H11, gg, dr, tk11, os⟩ (.ref f) := fun f x => by
    obtain ⟨o, e, c1⟩ := x
    exact ⟨"function", by decide, ⟨o, ku _ _ e (by rw [c1]; decide), c1⟩, fun id z => by injection z⟩
  have gf0' := goodUp (h' := H11) gf0 fun b o e c1 _ => ku b o e c1
  have gf1' := goodUp (h' := H11) gf1 fun b o e c1 _ => ku b o e c1
  show wpAny _ _ (call (.type "type") [.str "K" tk, .ref T, .ref ns]) _ _ ⟨H11, gg, dr, tk11, os⟩
  refine call_type3 (type_new X11 hop hT11 B11.nsL nsne hL11 ?_ fun H a nsN d td tkN TNr hd0 hd => ⟨a, _, _, rfl, TNr.cls, wpAny_pure (k _ _ a nsN d ⟨?_, ?_, ?_, ⟨_, _, _, _, _, _, _, _, _, _, _, _, _, _, TNr.cls, TNr.nsL, hd, goodUp gf0' fun b o e _ _ => TNr.keep b o e, goodUp gf1' fun b o e _ _ => TNr.keep b o e⟩⟩)⟩)
  · refine List.forall_mem_cons.mpr ⟨⟨"str", by decide, rfl, fun id z => by injection z⟩, List.forall_mem_cons.mpr ⟨⟨"int", by decide, rfl, fun id z => by injection z⟩, List.forall_mem_cons.mpr ⟨?_, List.forall_mem_cons.mpr ⟨hfn _ gf0.fn, List.forall_mem_cons.mpr ⟨hfn _ gf1.fn, List.forall_mem_cons.mpr ⟨hfn _ q2, List.forall_mem_cons.mpr ⟨hfn _ q3, List.forall_mem_cons.mpr ⟨hfn _ q4, List.forall_mem_cons.mpr ⟨hfn _ q5, List.forall_mem_cons.mpr ⟨?_, fun _ z => nomatch z⟩⟩⟩⟩⟩⟩⟩⟩⟩⟩
    · obtain ⟨o, e, c1, n, d1⟩ := hL11
      exact ⟨"list", by decide, ⟨o, e, c1⟩, fun id z => by injection z⟩
    · refine ⟨"tuple", by decide, ⟨_, sb11.extBut _ _ (fun z => ?_) e10, rfl⟩, fun id z => by injection z⟩
      obtain ⟨es, ep, e', _⟩ := B10.nsL
      rw [z, e'] at e10
      exact absurd (congrArg Obj.cls (Option.some.inj e10)) (show Value.type "dict" ≠ Value.type "tuple" by decide)
  · intro b o n e
    exact TNr.keep b o (B11.kp b o n (K2 b o e))
  · have cf : CodeFull H11 c := by
      obtain ⟨ps, a1, a2, a3⟩ := B11.cm.tb
      refine ⟨P, ps, B11.cm.hd, a1, a2, ?_⟩
      rcases a3 with ⟨_, _, a3⟩ | a3
      · exact fun d m => a3 d m (by intro z; cases z)
      · exact a3
    exact Tab.keeps (.inr ⟨c, B11.tab, cf⟩) TNr.keep
  · cases e : h.get? nsN with
    | none => rfl
    | some o =>
      have n0 : H11.get? nsN = none := TNr.ns0
      have e2 := B11.kp _ _ (fun z => by rw [z, B11.tab] at n0; injection n0) (K2 _ _ e)
      rw [n0] at e2; injection e2
end
end Mine
end
section
open PySem PySem.Calls PySem.W PyProof.Rows
namespace Mine
variable [iO : Old]
theorem bi_object : bootBuiltins "object" = some (.type "object") := by decide +kernel
section
variable {M : Model} {A : Around} {E : Value → Shared → Prop} {s : Shared}
theorem evalArgs_cls {f : Value} {x : Sem Value} {Q : Args → Shared → Prop} (h : wpAny M A x (fun v s' => Q ⟨[v], []⟩ s') E s) : wpAny M A (evalArgs f false [(false, x)] []) Q E s := by
  have key : wpAny M A (spliced [(false, x)]) (fun vs s' => Q ⟨vs, []⟩ s') E s := spliced_cons (wpAny_mono h (fun v s' q => spliced_nil q) fun _ _ z => z)
  unfold evalArgs
  show wpAny M A (spliced [(false, x)] >>= _) Q E s
  refine wpAny_bind (wpAny_mono key (fun vs s' h' => ?_) fun _ _ x => x)
  refine wpAny_holding ?_
  exact wpAny_bind (wpAny_pure (wpAny_bind (wpAny_pure (wpAny_pure h'))))
theorem guard_K {K : Frag} {env : Env} {Q : Unit → Shared → Prop} (g : Gd K A.frames s) (hb : env.builtins = builtinsNs) (h : Q () s) : wpAny M A (buildClassGuard env) Q E s := by
  obtain ⟨mb, h1, h2⟩ := g.bi
  unfold buildClassGuard
  rw [hb]
  refine wpAny_bind (wpAny_nsGet h1 ?_)
  rw [h2 _ (by decide), show bootBuiltins "__build_class__" = some (.builtin "__build_class__") by decide +kernel]
  exact wpAny_pure h
end
section
variable {A : Around} {E : Value → Shared → Prop} {s : Shared} {env : Env} {pos q1 q2 q3 : Pos} {scope : Scope} {cc : Addr} {c : Cx}
variable {p1 p2 p3 p4 p5 p6 p7 p8 p9 p10 : Pos} {n1 n2 n3 : Nat} {mm : Str} {a0 a1 a2 a3 a4 a5 : Arguments} {b0 b1 b2 b3 b4 b5 : List Stmt} {s0 s1 s2 s3 s4 s5 : Scope}
theorem exec_class {Q : Flow → Shared → Prop} {nm : Str} {nt : Tok} {body : List Stmt} (G : EnvG env) (hkO : env.kindOf "object" = some .globalImplicit) (hobj : nsIn c.K mainGlobals "object" = some none) (hq : qualnameIn env "K" "K" = "cmp_to_key.<locals>.K")
    (g : Gd c.K A.frames s) (hop : nsIn c.K cStatics "thirdparty.any" = some none) (hnm : nsIn c.K mainGlobals "__name__" = some (some (.str nm nt))) (hc : env.code = .ref 27) (C : CodeHd s.heap 27 tab0) (hp : pos.line = 7 ∧ pos.col = 4) (hsc : scope.kind = .class)
    (hcl : (scope.names.lookup ("__class__" : Str) == some NameKind.cell) = false) (hcd : (scope.names.lookup ("__classdict__" : Str) == some NameKind.cell) = false) (hclo : closureFor scope env = pure [(("mycmp" : Str), cc)]) (hdp : A.depth < recursionLimit)
    (hkn : scope.names.lookup ("__name__" : Str) = none)
    (hk : ∀ x ∈ ([("__module__" : Str), "__qualname__", "__firstlineno__", "__static_attributes__", "__slots__", "__hash__"] : List Str), scope.names.lookup x = some .local ∨ (scope.names.lookup x = none ∧ compilersOwnNames.contains x = true))
    (hD : ∀ e : Env, e.scope = scope → e.cells = [(("mycmp" : Str), cc)] → DefOk e cc "__init__" a0 s0 [] ∧ DefOk e cc "__lt__" a1 s1 [(("mycmp" : Str), cc)] ∧ DefOk e cc "__gt__" a2 s2 [(("mycmp" : Str), cc)] ∧ DefOk e cc "__eq__" a3 s3 [(("mycmp" : Str), cc)] ∧ DefOk e cc "__le__" a4 s4 [(("mycmp" : Str), cc)] ∧ DefOk e cc "__ge__" a5 s5 [(("mycmp" : Str), cc)])
    (hbody : body = [.Assign [.Name "__module__" p1] (.Constant (.str mm) n1 p2) p3, .Assign [.Name "__slots__" p4] (.List [.Constant (.str "obj") n2 p5] p6) p7,
      fnSt "__init__" a0 b0 s0 ⟨11, 8, 12, 26⟩, fnSt "__lt__" a1 b1 s1 ⟨14, 8, 15, 49⟩, fnSt "__gt__" a2 b2 s2 ⟨17, 8, 18, 49⟩, fnSt "__eq__" a3 b3 s3 ⟨20, 8, 21, 50⟩, fnSt "__le__" a4 b4 s4 ⟨23, 8, 24, 50⟩, fnSt "__ge__" a5 b5 s5 ⟨26, 8, 27, 50⟩,
      .Assign [.Name "__hash__" p8] (.Constant .none n3 p9) p10])
    (k : ∀ H tk' a ns d, KMade s.heap H a ns d cc a0 b0 s0 a1 b1 s1 → wpAny (model c.prog c.w) A (storeName env "K" (.ref a)) (fun _ s' => Q .next s') E { s with heap := H, toks := tk' }) :
    wpAny (model c.prog c.w) A (exec (.ClassDef "K" [.Name "object" q1] [] body [] [] scope none "K" ["obj"] pos) env) Q E s := by
  obtain ⟨mg, hg⟩ := g.gl
  obtain ⟨mb, hb1, hb2⟩ := g.bi
  rw [arm_exec_ClassDef]
  refine wpAny_bind (wpAny_pure ?_)
  refine wpAny_bind (wpAny_standAt ?_)
  refine wpAny_bind (guard_K g G.bi ?_)
  refine wpAny_bind (wpAny_holding ?_)
  refine wpAny_bind (evalArgs_cls (Name_function_global G.kind hkO (loadGlobal_builtin (env := env) (by rw [G.glob]; exact hg) (mg_none_of g.inK hg hobj) (by rw [G.bi]; exact hb1) ((hb2 "object" (by decide)).trans bi_object) ?_)))
  refine wpAny_bind (wpAny_standAt ?_)
  rw [hq]
  refine wpAny_holding ?_
  refine build_class g hop hnm hc G.glob C hp hsc hcl hcd hclo hdp hkn hk hD hbody fun H tk a ns d x => ?_
  refine wpAny_bind (wpAny_pure ?_)
  refine wpAny_bind (wpAny_standAt ?_)
  refine wpAny_bind ?_
  unfold bindName
  refine wpAny_bind (wpAny_holding (wpAny_point ?_))
  refine wpAny_bind (wpAny_mono (k H tk a ns d x) (fun _ s' q => wpAny_point (wpAny_pure q)) fun _ _ z => z)
end
end Mine
end
section
open PySem PySem.Calls PySem.W PyProof.Rows
namespace Mine
variable [iO : Old]
noncomputable def KRest (H : Heap) (a ns d cc : Addr) (a0 : Arguments) (b0 : List Stmt) (s0 : Scope) (a1 : Arguments) (b1 : List Stmt) (s1 : Scope) : Prop :=
  ∃ T tt tq td L m0 v1 f0 f1 f2 f3 f4 f5 st, H.get? a = some (clsO (cdK a ns) (slK T tt tq)) ∧ NsL H ns (kvsK m0 v1 (.ref L) (.ref f0) (.ref f1) f2 f3 f4 f5 st (.ref d)) ∧ H.get? d = some (memO td a) ∧
    GoodFn H f0 "__init__" "cmp_to_key.<locals>.K.__init__" a0 b0 s0 [] ∧ GoodFn H f1 "__lt__" "cmp_to_key.<locals>.K.__lt__" a1 b1 s1 [(("mycmp" : Str), cc)]
section
variable {a0 a1 : Arguments} {b0 b1 : List Stmt} {s0 s1 : Scope}
theorem GoodFn.keepD {H H' : Heap} {f : Addr} {name qual : Str} {params : Arguments} {body : List Stmt} {scope : Scope} {clos : List (Str × Addr)} (x : GoodFn H f name qual params body scope clos)
    (k : ∀ b o, (∀ es ep, o.data ≠ .dict es ep) → o.cls ≠ .none → H.get? b = some o → H'.get? b = some o) : GoodFn H' f name qual params body scope clos := by
  obtain ⟨doc, pm, ci, ctv, oi, vi, t, e1, e2, e3, e4, e5⟩ := x
  exact ⟨doc, pm, ci, ctv, oi, vi, t, k _ _ (fun _ _ z => by injection z) (show Value.type "function" ≠ Value.none by decide) e1, k _ _ (fun _ _ z => by rw [e4] at z; injection z) (by rw [e3]; decide) e2, e3, e4, e5⟩
theorem KRest.keep {H H' : Heap} {a ns d cc : Addr} (x : KRest H a ns d cc a0 b0 s0 a1 b1 s1) (k : ∀ b o, (b = ns ∨ ∀ es ep, o.data ≠ .dict es ep) → o.cls ≠ .none → H.get? b = some o → H'.get? b = some o) : KRest H' a ns d cc a0 b0 s0 a1 b1 s1 := by
  obtain ⟨T, tt, tq, td, L, m0, v1, f0, f1, f2, f3, f4, f5, st, x1, x2, x3, x4, x5⟩ := x
  exact ⟨T, tt, tq, td, L, m0, v1, f0, f1, f2, f3, f4, f5, st, k _ _ (.inr fun _ _ z => by injection z) (show Value.type "type" ≠ Value.none by decide) x1, (by obtain ⟨es, ep, e, r⟩ := x2; exact ⟨es, ep, k _ _ (.inl rfl) (show Value.type "dict" ≠ Value.none by decide) e, r⟩),
    k _ _ (.inr fun _ _ z => by injection z) (show Value.type "member_descriptor" ≠ Value.none by decide) x3, x4.keepD fun b o c1 => k b o (.inr c1), x5.keepD fun b o c1 => k b o (.inr c1)⟩
structure KCls (H : Heap) (a ns d cc : Addr) (f : Value) (a0 : Arguments) (b0 : List Stmt) (s0 : Scope) (a1 : Arguments) (b1 : List Stmt) (s1 : Scope) : Prop where
  cell : H.IsCell cc (some f)
  rest : KRest H a ns d cc a0 b0 s0 a1 b1 s1
end
section
variable {A : Around} {E : Value → Shared → Prop} {s : Shared} {pos q1 q2 q3 : Pos} {scope : Scope} {c : Cx}
variable {p1 p2 p3 p4 p5 p6 p7 p8 p9 p10 : Pos} {n1 n2 n3 : Nat} {mm : Str} {a0 a1 a2 a3 a4 a5 : Arguments} {b0 b1 b2 b3 b4 b5 : List Stmt} {s0 s1 s2 s3 s4 s5 : Scope}
theorem call_c2k {Q : Value → Shared → Prop} {k : Nat} {fd : FuncData} {nm : Str} {nt : Tok} {f : Value} {body : List Stmt}
    (H : FnOk c 28 fd [.ClassDef "K" [.Name "object" q1] [] body [] [] scope none "K" ["obj"] pos, .Return (some (.Name "K" q2)) q3] ["mycmp"])
    (hb : ∀ v, bindArgs fd ⟨[v], []⟩ = pure [(("mycmp" : Str), v)]) (hC : codeHdIn c.K 27 23 = true) (hfc : fd.code = .ref 27) (hfq : fd.qualname = "cmp_to_key")
    (hfn : fd.scope.names = [(("mycmp" : Str), .cell), (("K" : Str), .local), (("object" : Str), .globalImplicit)])
    (hobj : nsIn c.K mainGlobals "object" = some none) (hop : nsIn c.K cStatics "thirdparty.any" = some none) (hnm : nsIn c.K mainGlobals "__name__" = some (some (.str nm nt))) (hp : pos.line = 7 ∧ pos.col = 4) (hsc : scope.kind = .class)
    (hcl : (scope.names.lookup ("__class__" : Str) == some NameKind.cell) = false) (hcd : (scope.names.lookup ("__classdict__" : Str) == some NameKind.cell) = false) (hclo : ∀ (e : Env) cc, e.cells = [(("mycmp" : Str), cc)] → closureFor scope e = pure [(("mycmp" : Str), cc)])
    (hkn : scope.names.lookup ("__name__" : Str) = none)
    (hk : ∀ x ∈ ([("__module__" : Str), "__qualname__", "__firstlineno__", "__static_attributes__", "__slots__", "__hash__"] : List Str), scope.names.lookup x = some .local ∨ (scope.names.lookup x = none ∧ compilersOwnNames.contains x = true))
    (hD : ∀ cc (e : Env), e.scope = scope → e.cells = [(("mycmp" : Str), cc)] → DefOk e cc "__init__" a0 s0 [] ∧ DefOk e cc "__lt__" a1 s1 [(("mycmp" : Str), cc)] ∧ DefOk e cc "__gt__" a2 s2 [(("mycmp" : Str), cc)] ∧ DefOk e cc "__eq__" a3 s3 [(("mycmp" : Str), cc)] ∧ DefOk e cc "__le__" a4 s4 [(("mycmp" : Str), cc)] ∧ DefOk e cc "__ge__" a5 s5 [(("mycmp" : Str), cc)])
    (hbody : body = [.Assign [.Name "__module__" p1] (.Constant (.str mm) n1 p2) p3, .Assign [.Name "__slots__" p4] (.List [.Constant (.str "obj") n2 p5] p6) p7,
      fnSt "__init__" a0 b0 s0 ⟨11, 8, 12, 26⟩, fnSt "__lt__" a1 b1 s1 ⟨14, 8, 15, 49⟩, fnSt "__gt__" a2 b2 s2 ⟨17, 8, 18, 49⟩, fnSt "__eq__" a3 b3 s3 ⟨20, 8, 21, 50⟩, fnSt "__le__" a4 b4 s4 ⟨23, 8, 24, 50⟩, fnSt "__ge__" a5 b5 s5 ⟨26, 8, 27, 50⟩,
      .Assign [.Name "__hash__" p8] (.Constant .none n3 p9) p10])
    (R : Room (k + 1) A) (g : Gd c.K A.frames s)
    (kk : ∀ s' a ns d cc, Ks s s' → s.toks ≤ s'.toks → KCls s'.heap a ns d cc f a0 b0 s0 a1 b1 s1 → Q (.ref a) s') : wpAny (model c.prog c.w) A (call (.ref 28) [f]) Q E s := by
  obtain ⟨o, ho, hd⟩ := H.ho
  refine wpAny_mono (wpAny_toks_of (n := s.toks) (Nat.le_refl _) (E := fun _ _ => False) (Q := fun v s' => ∃ a ns d cc, v = .ref a ∧ Ks s s' ∧ KCls s'.heap a ns d cc f a0 b0 s0 a1 b1 s1) ?_) (fun v s' q => ?_) fun _ _ x => x.2.elim
  case refine_2 => obtain ⟨t, a, ns, d, cc, rfl, q1, q2⟩ := q; exact kk s' a ns d cc q1 t q2
  refine wpAny_call (codeAny_call_function R.depth (g.inK _ _ ho) hd H.hco H.hgen H.hbody (codeRec_of g.inK H.hcode) ?_)
  rw [hb, H.hclo]
  refine wpAny_pure ?_
  refine wpAny_mono (wpAny_toks_of (n := s.toks) (Nat.le_refl _) (newEnv_cells (Q := fun env s₂ => env = callEnvC fd s.heap.objs.size 28 ∧ FrameAt s₂.heap env.locals ∧ InCallC s env.locals (bindL env.kindOf [(("mycmp" : Str), f)] fun _ => none) env.cells (bindC env.kindOf [(("mycmp" : Str), f)] fun _ => none) s₂)
    (E := fun _ _ => False) H.hk (fun x hx => ?_) fun env he s' x f => ⟨he, f, x⟩)) (fun env s₂ q => ?_) fun _ _ x => x.2.elim
  · obtain rfl := List.mem_singleton.mp hx
    rw [hfn]
    exact .inr ⟨rfl, rfl⟩
  obtain ⟨t₂, rfl, X0, X⟩ := q
  generalize hL : s.heap.objs.size = L at X X0
  have hcells : (callEnvC fd L 28).cells = [(("mycmp" : Str), L + 1)] := by show cellsFrom (L + 1) fd.scope.names [] = _; rw [hfn]; rfl
  have hkind : ∀ x, (callEnvC fd L 28).kindOf x = ([(("mycmp" : Str), NameKind.cell), (("K" : Str), .local), (("object" : Str), .globalImplicit)] : List (Str × NameKind)).lookup x := fun x => by show fd.scope.names.lookup x = _; rw [hfn]
  have eL : (callEnvC fd L 28).locals = L := rfl
  obtain ⟨h₂, tk₂, rfl⟩ := X.toInCall.same
  have k₂ : Ks s { s with heap := h₂, toks := tk₂ } := Ks.mk (Kp.of X.toInCall.keep)
  have hLn : s.heap.get? L = none := by rw [← hL]; exact push_new
  have Lt : L ≠ tab0 := fun z => by
    obtain ⟨o, e⟩ := g.tab.ex
    rw [z, e] at hLn; injection hLn
  have g₁ : Gd c.K A.frames { s with heap := h₂, toks := tk₂ } := g.ks k₂ t₂
  have g₂ : Gd c.K (A.deeper (callEnvC fd L 28)).frames { s with heap := h₂, toks := tk₂ } := ⟨g₁.toGdH, g₁.tok, g₁.fr.deeper (by show fd.scope.kind ≠ _; rw [H.hk]; decide) rfl Lt (g.nold hLn) X0⟩
  have hcell : h₂.IsCell (L + 1) (some f) := by
    have := X.cell "mycmp" (L + 1) (by rw [hcells]; rfl)
    rw [show bindC (callEnvC fd L 28).kindOf [(("mycmp" : Str), f)] (fun _ => none) "mycmp" = some f by
      unfold bindC; rw [if_neg (by rw [hkind]; decide)]; rfl] at this
    exact this
  refine ⟨g₂.lim, codeAny_func ?_⟩
  have G : EnvG (callEnvC fd L 28) := ⟨H.hk, H.hgl, H.hbi⟩
  have hns := X.toInCall.ns
  rw [eL] at hns
  refine wpAny_execs_cons (exec_class (cc := L + 1) G (by rw [hkind]; rfl) hobj ?_ g₂ hop hnm hfc (codeHd_of_K g₂.inK hC) hp hsc hcl hcd (hclo _ _ hcells) (show (A.deeper _).depth < recursionLimit from (R.deeper _).depth) hkn hk (hD (L + 1)) hbody fun h₃ tk₃ a ns d M => ?_)
  · unfold qualnameIn
    rw [hkind, if_neg (by decide)]
    show fd.qualname ++ ".<locals>." ++ "K" = _
    rw [hfq]; decide
  obtain ⟨oL, esL, epL, hoL, rL⟩ := hns
  have hns3 : h₃.Ns L (bindL (callEnvC fd L 28).kindOf [(("mycmp" : Str), f)] fun _ => none) := ⟨oL, esL, epL, M.keep _ _ Lt hoL, rL⟩
  refine wpAny_storeName_local (by rw [hkind]; rfl) (by rw [eL]; exact hns3) (fun h₄ hn₄ sb => ?_) (by rw [G.kind]; rfl)
  have kb : ∀ b o, (b = ns ∨ ∀ es ep, o.data ≠ .dict es ep) → h₃.get? b = some o → h₄.get? b = some o := fun b o h1 e => sb.extBut b o (fun z => by
    rw [eL] at z
    rcases h1 with h1 | h1
    · rw [z] at h1
      have n0 : h₂.get? ns = none := M.ns0
      rw [← h1, hoL] at n0; injection n0
    · rw [z] at e
      have := M.keep _ _ Lt hoL
      rw [this] at e; obtain rfl := Option.some.inj e
      exact h1 _ _ rL.1) e
  refine wpAny_execs_cons ?_
  refine wpAny_Return_some (wpAny_Name (wpAny_loadName_local G.kind (by rw [hkind]; rfl) hn₄ (if_pos rfl) ?_) (by decide))
  have Cc : L + 1 ≠ tab0 := fun z => by
    obtain ⟨o, e⟩ := g.tab.ex
    have h1 := Heap.lt_size e
    rw [hL, ← z] at h1
    exact absurd (Nat.lt_of_succ_lt h1) (Nat.lt_irrefl _)
  refine ⟨a, ns, d, L + 1, rfl, ?_, ?_, KRest.keep M.rest fun b o h1 _ => kb b o h1⟩
  · refine ⟨h₄, _, rfl, Kp.ex (fun b o n e => ?_) (fun T => ?_)⟩
    · exact sb.extBut b o (fun z => by rw [eL] at z; rw [z, hLn] at e; injection e) (M.keep b o n (X.toInCall.keep b o e))
    · refine M.tab.one (M.keep _ _ Lt hoL) (.inl fun vs z => by rw [rL.1] at z; injection z) fun b o n e => sb.extBut b o n e
  · obtain ⟨oc, e', dc⟩ := hcell
    exact ⟨oc, kb _ _ (.inr fun _ _ z => by rw [dc] at z; injection z) (M.keep _ _ Cc e'), dc⟩
end
end Mine
end
section
open PySem PySem.Calls PySem.W PyProof.Rows
namespace Mine
noncomputable def krun {α : Type} (lt : Nat → Nat → Bool) : KasT α → α
  | .ret a => a
  | .ask i j k => krun lt (k (lt i j))
theorem krun_bind {α β : Type} {lt : Nat → Nat → Bool} {f : α → KasT β} (t : KasT α) : krun lt (t.bind f) = krun lt (f (krun lt t)) := by
  induction t with
  | ret a => rfl
  | ask i j k ih => exact ih _
section
variable (key : Nat → Int)
noncomputable abbrev kLt (i j : Nat) : Bool := decide (key i < key j)
noncomputable def SR (a b : Nat) : Prop := key a < key b ∨ (key a = key b ∧ a < b)
variable {key}
theorem SR.trans {a b c : Nat} (x : SR key a b) (y : SR key b c) : SR key a c := by
  rcases x with x | ⟨e, x⟩ <;> rcases y with y | ⟨e', y⟩
  · exact .inl (Int.lt_trans x y)
  · exact .inl (e' ▸ x)
  · exact .inl (e ▸ y)
  · exact .inr ⟨e.trans e', Nat.lt_trans x y⟩
theorem SR.le {a b : Nat} (x : SR key a b) : key a ≤ key b := by unfold SR at x; lia
theorem rev_get {p : Array Nat} {i j : Nat} (hj : j ≤ p.size) (k : Nat) : (kas_rev p i j).getD k 0 = if i ≤ k ∧ k < j then p.getD (i + j - 1 - k) 0 else p.getD k 0 := by
  have := getElem?_mirror_all (xs := p) (i := i) hj k
  rw [Array.getD_eq_getD_getElem?]
  unfold kas_rev
  rw [this]
  split <;> rw [Array.getD_eq_getD_getElem?]
theorem bub_get {p : Array Nat} {src d : Nat} (hs : src < p.size) (hd : d ≤ src) (k : Nat) : (bubble p src d).getD k 0 = if k = src - d then p.getD src 0 else if src - d < k ∧ k ≤ src then p.getD (k - 1) 0 else p.getD k 0 := by
  have := getElem?_bubble hs d hd k
  rw [Array.getD_eq_getD_getElem?, this]
  by_cases h1 : k = src - d
  · rw [if_pos h1, if_pos h1, Array.getD_eq_getD_getElem?]
  · rw [if_neg h1, if_neg h1]
    by_cases h2 : src - d < k ∧ k ≤ src
    · rw [if_pos h2, if_pos h2, Array.getD_eq_getD_getElem?]
    · rw [if_neg h2, if_neg h2, Array.getD_eq_getD_getElem?]
structure SP (key : Nat → Int) (N : Nat) (p : Array Nat) (n : Nat) (R : Nat → Nat → Prop) : Prop where
  sz : p.size = N
  le : n ≤ N
  pos : 1 ≤ n
  ord : ∀ i j, i < j → j < n → R (p.getD i 0) (p.getD j 0)
  low : ∀ i, i < n → p.getD i 0 < n
  rest : ∀ i, n ≤ i → i < N → p.getD i 0 = i
  perm : p.toList.Perm (List.range N)
variable {N : Nat} {p : Array Nat} {n : Nat}
theorem SP.rev (x : SP key N p n (SR key)) : SP key N (kas_rev p 0 n) n (fun a b => SR key b a) := by
  have hn : n ≤ p.size := by rw [x.sz]; exact x.le
  refine ⟨by rw [kas_rev_size]; exact x.sz, x.le, x.pos, fun i j hij hj => ?_, fun i hi => ?_, fun i h1 h2 => ?_, ?_⟩
  · rw [rev_get hn, rev_get hn, if_pos (by lia), if_pos (by lia)]
    exact x.ord _ _ (by lia) (by lia)
  · rw [rev_get hn, if_pos (by lia)]; exact x.low _ (by lia)
  · rw [rev_get hn, if_neg (by lia)]; exact x.rest _ h1 h2
  · exact (Array.perm_iff_toList_perm.mp (mirror_perm _ _ _ _)).trans x.perm
theorem SP.unrev (x : SP key N p n (fun a b => SR key b a)) : SP key N (kas_rev p 0 n) n (SR key) := by
  have hn : n ≤ p.size := by rw [x.sz]; exact x.le
  refine ⟨by rw [kas_rev_size]; exact x.sz, x.le, x.pos, fun i j hij hj => ?_, fun i hi => ?_, fun i h1 h2 => ?_, ?_⟩
  · rw [rev_get hn, rev_get hn, if_pos (by lia), if_pos (by lia)]
    exact x.ord _ _ (by lia) (by lia)
  · rw [rev_get hn, if_pos (by lia)]; exact x.low _ (by lia)
  · rw [rev_get hn, if_neg (by lia)]; exact x.rest _ h1 h2
  · exact (Array.perm_iff_toList_perm.mp (mirror_perm _ _ _ _)).trans x.perm
theorem SP.more (x : SP key N p n (SR key)) (h : n < N) (hk : ¬ key (p.getD n 0) < key (p.getD (n - 1) 0)) : SP key N p (n + 1) (SR key) := by
  refine ⟨x.sz, h, by lia, fun i j hij hj => ?_, fun i hi => ?_, fun i h1 h2 => x.rest i (by lia) h2, x.perm⟩
  · by_cases q : j < n
    · exact x.ord i j hij q
    · obtain rfl : j = n := by lia
      have hj := x.rest j (Nat.le_refl _) h
      have hp := x.pos
      have e : SR key (p.getD (j - 1) 0) (p.getD j 0) := by
        have := x.low (j - 1) (by lia)
        unfold SR
        rw [hj] at hk ⊢
        lia
      by_cases q2 : i = j - 1
      · rw [q2]; exact e
      · exact (x.ord i (j - 1) (by lia) (by lia)).trans e
  · by_cases q : i < n
    · have := x.low i q; lia
    · obtain rfl : i = n := by lia
      rw [x.rest i (Nat.le_refl _) h]; lia
theorem asc_run : ∀ (f n : Nat), SP key N p n (SR key) → n + f = N → ∃ m, krun (kLt key) (kas_asc p f n) = m ∧ n ≤ m ∧ SP key N p m (SR key) ∧ (m = N ∨ key (p.getD m 0) < key (p.getD (m - 1) 0)) := by
  intro xs
  induction xs with
  | zero =>
    intro n x h
    exact ⟨n, rfl, Nat.le_refl _, x, .inl (by lia)⟩
  | succ f ih =>
    intro n x h
    unfold kas_asc
    show ∃ m, krun _ (if decide (key (p.getD n 0) < key (p.getD (n - 1) 0)) = true then _ else _) = m ∧ _
    by_cases q : key (p.getD n 0) < key (p.getD (n - 1) 0)
    · rw [if_pos (decide_eq_true q)]
      exact ⟨n, rfl, Nat.le_refl _, x, .inr q⟩
    · rw [if_neg (by simpa using q)]
      obtain ⟨m, e, h1, h2⟩ := ih (n + 1) (x.more (by lia) q) (by lia)
      exact ⟨m, e, by lia, h2⟩
structure SD (key : Nat → Int) (N : Nat) (p : Array Nat) (n q : Nat) : Prop where
  sz : p.size = N
  le : n ≤ N
  qn : q + 1 ≤ n
  ord : ∀ i j, i < j → j < n - (q + 1) → SR key (p.getD j 0) (p.getD i 0)
  cut : ∀ i j, i < n - (q + 1) → n - (q + 1) ≤ j → j < n → key (p.getD j 0) < key (p.getD i 0)
  eq : ∀ i j, n - (q + 1) ≤ i → i < j → j < n → key (p.getD i 0) = key (p.getD j 0) ∧ p.getD i 0 < p.getD j 0
  low : ∀ i, i < n → p.getD i 0 < n
  rest : ∀ i, n ≤ i → i < N → p.getD i 0 = i
  perm : p.toList.Perm (List.range N)
theorem SD.turned {q : Nat} (x : SD key N p n q) : SP key N (kas_rev p (n - (q + 1)) n) n (fun a b => SR key b a) := by
  have hn : n ≤ p.size := by rw [x.sz]; exact x.le
  have hq := x.qn
  refine ⟨by rw [kas_rev_size]; exact x.sz, x.le, by lia, fun i j hij hj => ?_, fun i hi => ?_, fun i h1 h2 => ?_, ?_⟩
  · rw [rev_get hn, rev_get hn]
    by_cases hi : i < n - (q + 1)
    · rw [if_neg (c := n - (q + 1) ≤ i ∧ i < n) (by lia)]
      by_cases hj2 : j < n - (q + 1)
      · rw [if_neg (by lia)]; exact x.ord i j hij hj2
      · rw [if_pos (by lia)]; exact .inl (x.cut _ _ hi (by lia) (by lia))
    · rw [if_pos (by lia), if_pos (by lia)]
      have := x.eq (n - (q + 1) + n - 1 - j) (n - (q + 1) + n - 1 - i) (by lia) (by lia) (by lia)
      exact .inr this
  · rw [rev_get hn]
    split
    · exact x.low _ (by lia)
    · exact x.low _ hi
  · rw [rev_get hn, if_neg (by lia)]; exact x.rest _ h1 h2
  · exact (Array.perm_iff_toList_perm.mp (mirror_perm _ _ _ _)).trans x.perm
theorem SD.plain (x : SD key N p n 0) : SP key N p n (fun a b => SR key b a) := by
  have hq := x.qn
  refine ⟨x.sz, x.le, by lia, fun i j hij hj => ?_, x.low, x.rest, x.perm⟩
  by_cases hj2 : j < n - 1
  · exact x.ord i j hij hj2
  · exact .inl (x.cut i j (by lia) (by lia) hj)
theorem SP.fall (x : SP key N p n (fun a b => SR key b a)) (h : n < N) (hk : key (p.getD n 0) < key (p.getD (n - 1) 0)) : SD key N p (n + 1) 0 := by
  have hp := x.pos
  refine ⟨x.sz, h, by lia, fun i j hij hj => x.ord i j hij (by lia), fun i j hi h1 h2 => ?_, fun i j h1 h2 h3 => by lia, fun i hi => ?_, fun i h1 h2 => x.rest i (by lia) h2, x.perm⟩
  · obtain rfl : j = n := by lia
    by_cases q : i = j - 1
    · rw [q]; exact hk
    · have := (x.ord i (j - 1) (by lia) (by lia)).le
      lia
  · by_cases q : i < n
    · have := x.low i q; lia
    · obtain rfl : i = n := by lia
      rw [x.rest i (Nat.le_refl _) h]; lia
theorem SD.same {q : Nat} (x : SD key N p n q) (h : n < N) (hk : key (p.getD n 0) = key (p.getD (n - 1) 0)) : SD key N p (n + 1) (q + 1) := by
  have hq := x.qn
  have hn := x.rest n (Nat.le_refl _) h
  have e : n + 1 - (q + 1 + 1) = n - (q + 1) := by lia
  refine ⟨x.sz, h, by lia, fun i j hij hj => x.ord i j hij (by lia), fun i j hi h1 h2 => ?_, fun i j h1 h2 h3 => ?_, fun i hi => ?_, fun i h1 h2 => x.rest i (by lia) h2, x.perm⟩
  · by_cases q2 : j < n
    · exact x.cut i j (by lia) (by lia) q2
    · obtain rfl : j = n := by lia
      have := x.cut i (j - 1) (by lia) (by lia) (by lia)
      lia
  · by_cases q2 : j < n
    · exact x.eq i j (by lia) h2 q2
    · obtain rfl : j = n := by lia
      have h5 := x.low i (by lia)
      by_cases q3 : i = j - 1
      · rw [q3] at h5 ⊢; exact ⟨hk.symm, by rw [hn]; exact h5⟩
      · have := x.eq i (j - 1) (by lia) (by lia) (by lia)
        exact ⟨this.1.trans hk.symm, by rw [hn]; exact h5⟩
  · by_cases q2 : i < n
    · have := x.low i q2; lia
    · obtain rfl : i = n := by lia
      rw [hn]; lia
theorem desc_run : ∀ (f : Nat) (p : Array Nat) (n q : Nat), SD key N p n q → n + f = N → ∃ p' n' q', krun (kLt key) (kas_desc f p n q) = (p', n', q') ∧ SD key N p' n' q' := by
  intro xs
  induction xs with
  | zero =>
    intro p n q x h
    exact ⟨p, n, q, rfl, x⟩
  | succ f ih =>
    intro p n q x h
    unfold kas_desc
    show ∃ p' n' q', krun _ (if decide (key (p.getD n 0) < key (p.getD (n - 1) 0)) = true then _ else _) = (p', n', q') ∧ _
    have hq := x.qn
    have hn : n ≤ p.size := by rw [x.sz]; exact x.le
    by_cases c : key (p.getD n 0) < key (p.getD (n - 1) 0)
    · rw [if_pos (decide_eq_true c)]
      by_cases hq0 : q > 0
      · rw [if_pos hq0]
        refine ih _ (n + 1) 0 (x.turned.fall (by lia) ?_) (by lia)
        rw [rev_get hn, rev_get hn, if_neg (by lia), if_pos (by lia)]
        have := x.eq (n - (q + 1) + n - 1 - (n - 1)) (n - 1) (by lia) (by lia) (by lia)
        lia
      · obtain rfl : q = 0 := by lia
        rw [if_neg hq0]
        exact ih p (n + 1) 0 (x.plain.fall (by lia) c) (by lia)
    · rw [if_neg (by simpa using c)]
      show ∃ p' n' q', krun _ (if decide (key (p.getD (n - 1) 0) < key (p.getD n 0)) = true then _ else _) = (p', n', q') ∧ _
      by_cases d : key (p.getD (n - 1) 0) < key (p.getD n 0)
      · rw [if_pos (decide_eq_true d)]
        exact ⟨p, n, q, rfl, x⟩
      · rw [if_neg (by simpa using d)]
        exact ih p (n + 1) (q + 1) (x.same (by lia) (by lia)) (by lia)
theorem tail3_run (x : SP key N p n (fun a b => SR key b a)) : ∃ m p', krun (kLt key) (kas_tail3 n N p) = (m, p') ∧ SP key N p' m (SR key) := by
  unfold kas_tail3
  rw [krun_bind]
  have hle := x.le
  obtain ⟨m, e, _, h2, _⟩ := asc_run (N - n) n x.unrev (by lia)
  exact ⟨m, _, by rw [e]; rfl, h2⟩
theorem descPart_run (x : SP key N p n (fun a b => SR key b a)) (h : n < N) (hk : key (p.getD n 0) < key (p.getD (n - 1) 0)) : ∃ m p', krun (kLt key) (kas_descPart n N p) = (m, p') ∧ SP key N p' m (SR key) := by
  unfold kas_descPart
  rw [krun_bind]
  obtain ⟨p', n', q', e, D⟩ := desc_run (N - (n + 1)) p (n + 1) 0 (x.fall h hk) (by lia)
  rw [e]
  by_cases hq : q' > 0
  · rw [if_pos hq]; exact tail3_run D.turned
  · obtain rfl : q' = 0 := by lia
    rw [if_neg hq]; exact tail3_run D.plain
theorem count_run (x : SP key N p 1 (SR key)) : ∃ m p', krun (kLt key) (kas_count N p) = (m, p') ∧ SP key N p' m (SR key) := by
  unfold kas_count
  rw [krun_bind]
  have hle := x.le
  obtain ⟨m, e, h1, h2, h3⟩ := asc_run (N - 1) 1 x (by lia)
  rw [e]
  by_cases c : m = N
  · rw [if_pos (by simpa using c)]; exact ⟨m, p, rfl, h2⟩
  · rw [if_neg (by simpa using c)]
    have h4 := h3.resolve_left c
    have hm := h2.le
    by_cases c1 : m > 1
    · rw [if_pos c1]
      show ∃ m' p', krun _ (if decide (key (p.getD 0 0) < key (p.getD (m - 1) 0)) = true then _ else _) = (m', p') ∧ _
      by_cases c2 : key (p.getD 0 0) < key (p.getD (m - 1) 0)
      · rw [if_pos (decide_eq_true c2)]; exact ⟨m, p, rfl, h2⟩
      · rw [if_neg (by simpa using c2)]
        have hn : m ≤ p.size := by rw [h2.sz]; exact h2.le
        refine descPart_run h2.rev (by lia) ?_
        rw [rev_get hn, rev_get hn, if_neg (by lia), if_pos (by lia)]
        rw [show 0 + m - 1 - (m - 1) = 0 by lia]
        lia
    · obtain rfl : m = 1 := by lia
      rw [if_neg c1]
      refine descPart_run ?_ (by lia) h4
      exact ⟨h2.sz, h2.le, h2.pos, fun i j _ _ => by lia, h2.low, h2.rest, h2.perm⟩
theorem place_run {k : Nat} : ∀ (f l r : Nat), l ≤ r → r ≤ k → r - l ≤ f → (∀ i, i < l → ¬ key (p.getD k 0) < key (p.getD i 0)) → (∀ i, r ≤ i → i < k → key (p.getD k 0) < key (p.getD i 0)) → (∀ i j, i < j → j < k → key (p.getD i 0) ≤ key (p.getD j 0)) →
    ∃ m, krun (kLt key) (kas_place p k f l r) = m ∧ m ≤ k ∧ (∀ i, i < m → ¬ key (p.getD k 0) < key (p.getD i 0)) ∧ (∀ i, m ≤ i → i < k → key (p.getD k 0) < key (p.getD i 0)) := by
  intro xs
  induction xs with
  | zero =>
    intro l r h1 h2 h3 a b o
    exact ⟨l, rfl, by lia, a, fun i hi hk => b i (by lia) hk⟩
  | succ f ih =>
    intro l r h1 h2 h3 a b o
    unfold kas_place
    by_cases c : l ≥ r
    · rw [if_pos c]; exact ⟨l, rfl, by lia, a, fun i hi hk => b i (by lia) hk⟩
    · rw [if_neg c]
      show ∃ m, krun _ (if decide (key (p.getD k 0) < key (p.getD ((l + r) / 2) 0)) = true then _ else _) = m ∧ _
      by_cases d : key (p.getD k 0) < key (p.getD ((l + r) / 2) 0)
      · rw [if_pos (decide_eq_true d)]
        refine ih l ((l + r) / 2) (by lia) (by lia) (by lia) a (fun i hi hk => ?_) o
        by_cases q : i = (l + r) / 2
        · rw [q]; exact d
        · have := o ((l + r) / 2) i (by lia) hk; lia
      · rw [if_neg (by simpa using d)]
        refine ih ((l + r) / 2 + 1) r (by lia) h2 (by lia) (fun i hi => ?_) b o
        by_cases q : i = (l + r) / 2
        · rw [q]; exact d
        · have := o i ((l + r) / 2) (by lia) (by lia); lia
theorem bin_run : ∀ (f : Nat) (p : Array Nat) (k : Nat), SP key N p k (SR key) → k + f = N → SP key N (krun (kLt key) (kas_bin f p k)) N (SR key) := by
  intro xs
  induction xs with
  | zero =>
    intro p k x h
    obtain rfl : k = N := by lia
    exact x
  | succ f ih =>
    intro p k x h
    unfold kas_bin
    rw [krun_bind]
    obtain ⟨l, e, h1, h2, h3⟩ := place_run (key := key) (p := p) (k := k) k 0 k (by lia) (by lia) (by lia) (fun i hi => by lia) (fun i h1 h2 => by lia) (fun i j hij hj => (x.ord i j hij hj).le)
    rw [e]
    have hk : k < p.size := by rw [x.sz]; lia
    have hr := x.rest k (Nat.le_refl _) (by lia)
    refine ih _ (k + 1) ?_ (by lia)
    refine ⟨by rw [bubble_size]; exact x.sz, by lia, by lia, fun i j hij hj => ?_, fun i hi => ?_, fun i hi1 hi2 => ?_, (Array.perm_iff_toList_perm.mp (bubble_perm _ _ _)).trans x.perm⟩
    · rw [bub_get hk (Nat.sub_le k l), bub_get hk (Nat.sub_le k l)]
      rw [show k - (k - l) = l by lia]
      by_cases c1 : i = l
      · rw [if_pos c1, if_neg (by lia), if_pos (by lia)]
        exact .inl (h3 _ (by lia) (by lia))
      · rw [if_neg c1]
        by_cases c2 : j = l
        · rw [if_pos c2, if_neg (by lia)]
          have a1 := h2 i (by lia)
          have a2 := x.low i (by lia)
          unfold SR
          rw [hr] at a1 ⊢
          lia
        · rw [if_neg c2]
          by_cases c3 : l < i ∧ i ≤ k
          · rw [if_pos c3, if_pos (by lia)]; exact x.ord _ _ (by lia) (by lia)
          · rw [if_neg c3]
            by_cases c4 : l < j ∧ j ≤ k
            · rw [if_pos c4]; exact x.ord _ _ (by lia) (by lia)
            · rw [if_neg c4]; exact x.ord _ _ hij (by lia)
    · rw [bub_get hk (Nat.sub_le k l)]
      by_cases c1 : i = k - (k - l)
      · rw [if_pos c1, hr]; lia
      · rw [if_neg c1]
        by_cases c2 : k - (k - l) < i ∧ i ≤ k
        · rw [if_pos c2]; have := x.low (i - 1) (by lia); lia
        · rw [if_neg c2]; have := x.low i (by lia); lia
    · rw [bub_get hk (Nat.sub_le k l), if_neg (by lia), if_neg (by lia)]
      exact x.rest i (by lia) hi2
theorem range_getD {n i : Nat} (h : i < n) : (List.toArray (List.range n)).getD i 0 = i := by
  simp [Array.getD, h]
theorem sort_run (key : Nat → Int) {n : Nat} (h : 1 ≤ n) : (krun (kLt key) (kas_sort n)).toList.Perm (List.range n) ∧ (krun (kLt key) (kas_sort n)).toList.Pairwise (SR key) := by
  have x : SP key n (List.toArray (List.range n)) 1 (SR key) := by
    refine ⟨by simp, h, Nat.le_refl _, fun i j _ _ => by lia, fun i hi => ?_, fun i h1 h2 => range_getD h2, .refl _⟩
    obtain rfl : i = 0 := by lia
    rw [range_getD (by lia)]; lia
  have fin : ∀ p, SP key n p n (SR key) → p.toList.Perm (List.range n) ∧ p.toList.Pairwise (SR key) := fun p y => by
    refine ⟨y.perm, List.pairwise_iff_getElem.mpr fun i j hi hj hij => ?_⟩
    have e : p.toList.length = n := by rw [Array.length_toList]; exact y.sz
    have := y.ord i j hij (by lia)
    have a1 : p.getD i 0 = p.toList[i] := by simp [Array.getD, show i < p.size by rw [← Array.length_toList]; exact hi]
    have a2 : p.getD j 0 = p.toList[j] := by simp [Array.getD, show j < p.size by rw [← Array.length_toList]; exact hj]
    rw [a1, a2] at this
    exact this
  unfold kas_sort
  rw [krun_bind]
  obtain ⟨m, p', e, y⟩ := count_run x
  rw [e]
  have hp := y.pos
  have hm : max m 1 = m := by lia
  have hle := y.le
  by_cases c : m < n
  · rw [if_pos c]
    dsimp only
    rw [hm]
    exact fin _ (bin_run (n - m) p' m y (by lia))
  · rw [if_neg c]
    obtain rfl : m = n := by lia
    exact fin _ y
end
end Mine
end
section
open PySem PySem.Calls PySem.W PyProof.Rows
namespace Mine
noncomputable def KAll (P : Nat → Prop) {α : Type} (R : α → Prop) : KasT α → Prop
  | .ret a => R a
  | .ask i j k => P i ∧ P j ∧ ∀ b, KAll P R (k b)
theorem KAll.bind {P : Nat → Prop} {α β : Type} {R : β → Prop} {f : α → KasT β} {t : KasT α} (h : KAll P (fun a => KAll P R (f a)) t) : KAll P R (t.bind f) := by
  induction t with
  | ret a => exact h
  | ask i j k ih => exact ⟨h.1, h.2.1, fun b => ih b (h.2.2 b)⟩
theorem KAll.mono {P : Nat → Prop} {α : Type} {R R' : α → Prop} (q : ∀ a, R a → R' a) {t : KasT α} (h : KAll P R t) : KAll P R' t := by
  induction t with
  | ret a => exact q _ h
  | ask i j k ih => exact ⟨h.1, h.2.1, fun b => ih b (h.2.2 b)⟩
theorem krun_wp {α : Type} {cmp : Nat → Nat → (Bool → Shared → Prop) → Shared → Prop} {lt : Nat → Nat → Bool} {I : Shared → Prop} {P : Nat → Prop} {Q : α → Shared → Prop} {R : α → Prop}
    (h : ∀ i j C s, P i → P j → I s → (∀ s', I s' → C (lt i j) s') → cmp i j C s) (t : KasT α) : ∀ (s : Shared), KAll P R t → I s → (∀ s', I s' → Q (krun lt t) s') → t.kasWp cmp Q s := by
  induction t with
  | ret a => intro s _ i q; exact q s i
  | ask i j k ih => intro s u hi q; exact h i j _ s u.1 u.2.1 hi fun s' i' => ih (lt i j) s' (u.2.2 _) i' q
section
variable {n : Nat}
noncomputable abbrev PO (n : Nat) (p : Array Nat) : Prop := ∀ x ∈ p.toList, x < n
theorem PO.get {p : Array Nat} (x : PO n p) (h : 1 ≤ n) (i : Nat) : p.getD i 0 < n := by
  by_cases q : i < p.size
  · have e : p.getD i 0 = p[i] := by simp [Array.getD, q]
    rw [e]
    exact x _ (by simp)
  · have e : p.getD i 0 = 0 := by simp [Array.getD, q]
    rw [e]; exact h
theorem PO.perm {p q : Array Nat} (x : PO n p) (h : q.Perm p) : PO n q := fun y m => x y ((Array.perm_iff_toList_perm.mp h).mem_iff.mp m)
theorem PO.rev {p : Array Nat} (x : PO n p) (i j : Nat) : PO n (kas_rev p i j) := x.perm (mirror_perm _ _ _ _)
theorem asc_all (h : 1 ≤ n) {p : Array Nat} (x : PO n p) : ∀ (f m : Nat), KAll (· < n) (fun _ => True) (kas_asc p f m)
  | 0, _ => trivial
  | f + 1, m => ⟨x.get h _, x.get h _, fun b => by
    cases b with
    | true => trivial
    | false => exact asc_all h x f (m + 1)⟩
theorem desc_all (h : 1 ≤ n) : ∀ (f : Nat) (p : Array Nat) (m q : Nat), PO n p → KAll (· < n) (fun r => PO n r.1) (kas_desc f p m q)
  | 0, _, _, _, x => x
  | f + 1, p, m, q, x => ⟨x.get h _, x.get h _, fun b => by
    cases b with
    | true =>
      show KAll _ _ (if q > 0 then kas_desc f (kas_rev p (m - (q + 1)) m) (m + 1) 0 else kas_desc f p (m + 1) 0)
      by_cases c2 : q > 0
      · rw [if_pos c2]; exact desc_all h f _ _ _ (x.rev _ _)
      · rw [if_neg c2]; exact desc_all h f _ _ _ x
    | false =>
      refine ⟨x.get h _, x.get h _, fun b2 => ?_⟩
      cases b2 with
      | true => exact x
      | false => exact desc_all h f _ _ _ x⟩
theorem tail3_all (h : 1 ≤ n) {p : Array Nat} (x : PO n p) (m N : Nat) : KAll (· < n) (fun r => PO n r.2) (kas_tail3 m N p) :=
  KAll.bind ((asc_all h (x.rev _ _) _ _).mono fun _ _ => x.rev _ _)
theorem descPart_all (h : 1 ≤ n) {p : Array Nat} (x : PO n p) (m N : Nat) : KAll (· < n) (fun r => PO n r.2) (kas_descPart m N p) :=
  KAll.bind ((desc_all h _ _ _ _ x).mono fun r y => by
    by_cases c : r.2.2 > 0
    · rw [if_pos c]; exact tail3_all h (y.rev _ _) _ _
    · rw [if_neg c]; exact tail3_all h y _ _)
theorem count_all (h : 1 ≤ n) {p : Array Nat} (x : PO n p) (N : Nat) : KAll (· < n) (fun r => PO n r.2) (kas_count N p) :=
  KAll.bind ((asc_all h x _ _).mono fun m _ => by
    by_cases c : (m == N) = true
    · rw [if_pos c]; exact x
    · rw [if_neg c]
      by_cases c2 : m > 1
      · rw [if_pos c2]
        refine ⟨x.get h _, x.get h _, fun b => ?_⟩
        cases b with
        | true => exact x
        | false => exact descPart_all h (x.rev _ _) _ _
      · rw [if_neg c2]; exact descPart_all h x _ _)
theorem place_all (h : 1 ≤ n) {p : Array Nat} (x : PO n p) (k : Nat) : ∀ f l r : Nat, KAll (· < n) (fun _ => True) (kas_place p k f l r)
  | 0, _, _ => trivial
  | f + 1, l, r => by
    unfold kas_place
    by_cases c : l ≥ r
    · rw [if_pos c]; trivial
    · rw [if_neg c]
      refine ⟨x.get h _, x.get h _, fun b => ?_⟩
      cases b with
      | true => exact place_all h x k f _ _
      | false => exact place_all h x k f _ _
theorem bin_all (h : 1 ≤ n) : ∀ (f : Nat) (p : Array Nat) (k : Nat), PO n p → KAll (· < n) (fun _ => True) (kas_bin f p k)
  | 0, _, _, _ => trivial
  | f + 1, p, k, x => KAll.bind ((place_all h x k _ _ _).mono fun l _ => bin_all h f _ _ (x.perm (bubble_perm _ _ _)))
theorem sort_all (h : 1 ≤ n) : KAll (· < n) (fun _ => True) (kas_sort n) :=
  KAll.bind ((count_all h (fun x m => by simpa using m) _).mono fun r y => by
    by_cases c : r.1 < n
    · rw [if_pos c]; exact bin_all h _ _ _ y
    · rw [if_neg c]; trivial)
end
theorem sort_wp {cmp : Nat → Nat → (Bool → Shared → Prop) → Shared → Prop} {key : Nat → Int} {n : Nat} {I : Shared → Prop} {Q : Array Nat → Shared → Prop} {s : Shared} (h1 : 1 ≤ n)
    (h : ∀ i j C s, i < n → j < n → I s → (∀ s', I s' → C (kLt key i j) s') → cmp i j C s) (hi : I s) (hq : ∀ p s', p.toList.Perm (List.range n) → p.toList.Pairwise (SR key) → I s' → Q p s') : (kas_sort n).kasWp cmp Q s :=
  krun_wp (P := (· < n)) h (kas_sort n) s (sort_all h1) hi fun s' i => hq _ s' (sort_run key h1).1 (sort_run key h1).2 i
end Mine
end
section
open PySem PySem.Calls PySem.W PyProof.Rows
namespace Mine
variable [iO : Old]
noncomputable def KsT (s s' : Shared) : Prop := Ks s s' ∧ s.toks ≤ s'.toks
theorem KsT.refl (s : Shared) : KsT s s := ⟨Ks.refl s, Nat.le_refl _⟩
theorem KsT.trans {a b c : Shared} (x : KsT a b) (y : KsT b c) : KsT a c := ⟨x.1.trans y.1, Nat.le_trans x.2 y.2⟩
theorem KsT.get {a b : Shared} (x : KsT a b) {i : Addr} {o : Obj} (n : i ≠ tab0) (e : a.heap.get? i = some o) (c : NFr o := by first | assumption | exact nfr_of rfl | (intro z; cases z)) : b.heap.get? i = some o := x.1.kp.keep i o n c e
theorem KsT.gd {K : Frag} {fr : Option (List Env)} {a b : Shared} (x : KsT a b) (g : Gd K fr a) : Gd K fr b := g.ks x.1 x.2
theorem seq_soft {c : String} {xs : Array Value} {n : Nat} : Soft (seqObj c xs n) := .inl fun vs z => by injection z
theorem KsT.upd {s₀ s : Shared} {a : Addr} {o : Obj} {h' : Heap} {tk : Nat} (k : KsT s₀ s) (n : s₀.heap.get? a = none) (ho : s.heap.get? a = some o) (so : Soft o) (sb : Heap.SameBut a s.heap h') (ht : s.toks ≤ tk) : KsT s₀ { s with heap := h', toks := tk } := by
  obtain ⟨⟨h₁, t₁, rfl, kp⟩, t⟩ := k
  refine ⟨⟨h', tk, rfl, kp.andThen (fun b o' o₁ nb e e₁ => sb.extBut b o₁ (fun z => by rw [z, n] at e; injection e) e₁) (fun T => (kp.tab T).one ho so fun b o' nb e => sb.extBut b o' nb e)⟩, Nat.le_trans t ht⟩
theorem KsT.push {s₀ s : Shared} {o : Obj} (k : KsT s₀ s) : KsT s₀ { s with heap := s.heap.push o } :=
  k.trans ⟨Ks.mk (tk := s.toks) (Kp.of fun _ _ e => Heap.get?_push_of_some _ e), Nat.le_refl _⟩
section
variable {prog : Program} {w : World} {A : Around} {E : Value → Shared → Prop} {s s₀ : Shared} {vs ks : List Value} {κ : SortKind} {key : Nat → Int} {D : Addr}
theorem m_runs {Q : SortSt → Shared → Prop} (hl : ks.length = vs.length) (h2 : 2 ≤ vs.length) (h64 : vs.length < 64)
    (hcmp : ∀ i j s', i < vs.length → j < vs.length → KsT s s' → wpAny (model prog w) A (keyLt' κ (ks.getD i Value.none) (ks.getD j Value.none)) (fun b s'' => KsT s' s'' ∧ b = kLt key i j) (fun _ _ => False) s')
    (hq : ∀ (p : Array Nat) st' s', p.toList.Perm (List.range vs.length) → p.toList.Pairwise (SR key) → (arrOf st').map (·.2) = List.toArray (p.toList.map fun i => vs.getD i Value.none) → failedOf st' = none → KsT s s' → Q st' s') :
    wpAny (model prog w) A ((sortRuns').run (SortSt.mk' κ (ks.toArray.zip vs.toArray) #[] 7 none)) (fun r s' => Q r.2 s') E s :=
  kat_run (G := fun p s' => p.toList.Perm (List.range vs.length) ∧ p.toList.Pairwise (SR key) ∧ KsT s s') hl h2 h64 (fun p st' s' _ e f ⟨g1, g2, g3⟩ => hq p st' s' g1 g2 (kat_snds hl e) f g3)
    (sort_wp (I := fun s' => KsT s s') (by omega) (fun i j C s' hi hj k hc => wpAny_mono (hcmp i j s' hi hj k) (fun b s'' q => by rw [q.2]; exact hc s'' (k.trans q.1)) fun _ _ x => x) (KsT.refl s) fun p s' a b c => ⟨a, b, c⟩)
theorem m_small (h2 : ¬ 2 ≤ vs.length) {p : Nat → Value} (hp : ∀ i, vs.getD i Value.none = p i) : ∃ q : Array Nat, q.toList.Perm (List.range vs.length) ∧ q.toList.Pairwise (SR key) ∧ (vs : List Value) = q.toList.map fun i => vs.getD i Value.none := by
  refine ⟨(List.range vs.length).toArray, .refl _, ?_, ?_⟩
  · rcases vs with _ | ⟨_, _ | ⟨_, _⟩⟩
    · exact .nil
    · exact List.pairwise_singleton _ _
    · exact absurd (Nat.le_add_left _ _) h2
  · rcases vs with _ | ⟨_, _ | ⟨_, _⟩⟩
    · rfl
    · rfl
    · exact absurd (Nat.le_add_left _ _) h2
theorem m_list_sort {n : Nat} {P : PySem.Fin → Shared → Prop} (k : KsT s₀ s) (nD : s₀.heap.get? D = none) (nt : D ≠ tab0) (ho : s.heap.get? D = some (seqObj "list" vs.toArray n)) (h64 : vs.length < 64)
    (hkind : 2 ≤ vs.length → ∀ s', KsT s₀ s' → wpAny (model prog w) A (keyKind' vs.toArray) (fun κ' s'' => κ' = κ ∧ KsT s' s'') (fun _ _ => False) s')
    (hcmp : ∀ i j s', i < vs.length → j < vs.length → KsT s₀ s' → wpAny (model prog w) A (keyLt' κ (vs.getD i Value.none) (vs.getD j Value.none)) (fun b s'' => KsT s' s'' ∧ b = kLt key i j) (fun _ _ => False) s')
    (hP : ∀ (p : Array Nat) s' c, p.toList.Perm (List.range vs.length) → p.toList.Pairwise (SR key) → KsT s₀ s' → s'.heap.get? D = some (seqObj "list" (List.toArray (p.toList.map fun i => vs.getD i Value.none)) c) → P (.done (.ret .none)) s') :
    wpAny (model prog w) A (Builtin.«list.sort» ⟨[.ref D], []⟩) P E s := by
  have s1 := Heap.SameBut.update s.heap D (Obj.mapSeq fun _ => (#[] : Array Value))
  obtain ⟨e1, ho1⟩ : ∃ e1, (s.heap.update D (Obj.mapSeq fun _ => (#[] : Array Value))).get? D = some (seqObj "list" #[] e1) := ⟨_, get?_update_seq ho fun _ => #[]⟩
  have k1 : KsT s₀ { s with heap := s.heap.update D (Obj.mapSeq fun _ => (#[] : Array Value)) } := k.upd (tk := s.toks) nD ho seq_soft s1 (Nat.le_refl _)
  rw [list_sort_plain]
  refine wpAny_bind (listItems_at ho rfl ?_)
  refine wpAny_bind (listUpdate_at ho rfl ?_ (by rw [List.size_toArray, sizeLine_eq]; omega) (Nat.zero_le _))
  refine wpAny_bind (seqEpoch_at ho1 rfl ?_)
  refine wpAny_bind (wpAny_newTuple ?_ (by show vs.length ≤ _; rw [sizeLine_eq]; omega))
  refine wpAny_bind (wpAny_newList ?_ (Nat.zero_le _))
  refine wpAny_holding ?_
  show wpAny (model prog w) A _ P E { s with heap := ((s.heap.update D (Obj.mapSeq fun _ => (#[] : Array Value))).push (seqObj "tuple" vs.toArray 0)).push (seqObj "list" #[] 0) }
  have k3 : KsT s₀ { s with heap := ((s.heap.update D (Obj.mapSeq fun _ => (#[] : Array Value))).push (seqObj "tuple" vs.toArray 0)).push (seqObj "list" #[] 0) } := k1.push.push
  have ho3 : (((s.heap.update D (Obj.mapSeq fun _ => (#[] : Array Value))).push (seqObj "tuple" vs.toArray 0)).push (seqObj "list" #[] 0)).get? D = some (seqObj "list" #[] e1) := Heap.get?_push_of_some _ (Heap.get?_push_of_some _ ho1)
  have tail : ∀ (st' : SortSt) (s' : Shared) (p : Array Nat), KsT s₀ s' → s'.heap.get? D = some (seqObj "list" #[] e1) → p.toList.Perm (List.range vs.length) → p.toList.Pairwise (SR key) →
      (arrOf st').map (·.2) = List.toArray (p.toList.map fun i => vs.getD i Value.none) → failedOf st' = none →
      wpAny (model prog w) A (do
        let sorted := (arrOf st').map (·.2)
        let touched := (← seqEpoch D) != e1
        Builtin.List.listUpdate (.ref D) fun _ => sorted
        if let some e := failedOf st' then rule "list.sort.comparison-raised"; throw e
        if touched then rule "list.sort.modified"; raiseError "ValueError" "list modified during sort"
        ret .none) P E s' := by
    intro st' s' p k' hD hp hs hout hf
    have hsz : (List.toArray (p.toList.map fun i => vs.getD i Value.none)).size = vs.length := by rw [List.size_toArray, List.length_map, hp.length_eq, List.length_range]
    dsimp only
    rw [hout]
    have s2 := Heap.SameBut.update s'.heap D (Obj.mapSeq fun _ => List.toArray (p.toList.map fun i => vs.getD i Value.none))
    refine wpAny_bind (seqEpoch_at hD rfl ?_)
    refine wpAny_bind (listUpdate_at hD rfl ?_ (Nat.zero_le _) (Nat.le_trans (Nat.le_of_eq hsz) (by rw [sizeLine_eq]; omega)))
    rw [hf]
    simp only [bne_self_eq_false, Bool.false_eq_true, if_false]
    exact wpAny_pure (hP p _ _ hp hs (k'.upd (tk := s'.toks) nD hD seq_soft s2 (Nat.le_refl _)) (get?_update_seq hD fun _ => List.toArray (p.toList.map fun i => vs.getD i Value.none)))
  by_cases h2 : 2 ≤ vs.length
  · have hn2 : ¬ vs.toArray.size < 2 := by rw [List.size_toArray]; omega
    rw [if_neg hn2, if_neg hn2]
    refine wpAny_bind (wpAny_mono (hkind h2 _ k3) (fun κ' s4 hk => ?_) fun _ _ x => x.elim)
    obtain ⟨rfl, k4⟩ := hk
    refine wpAny_bind (wpAny_mono (m_runs (key := key) (Q := fun st' s' => ∃ p : Array Nat, p.toList.Perm (List.range vs.length) ∧ p.toList.Pairwise (SR key) ∧ (arrOf st').map (·.2) = List.toArray (p.toList.map fun i => vs.getD i Value.none) ∧ failedOf st' = none ∧ KsT s4 s') rfl h2 h64
      (fun i j s' hi hj k' => hcmp i j s' hi hj (k3.trans (k4.trans k'))) fun p st' s' a b c d e => ⟨p, a, b, c, d, e⟩) ?_ fun _ _ x => x)
    rintro ⟨⟨⟩, st'⟩ s' ⟨p, a, b, c, d, e⟩
    exact tail st' s' p (k3.trans (k4.trans e)) ((k4.trans e).get nt ho3) a b c d
  · have hn2 : vs.toArray.size < 2 := by rw [List.size_toArray]; omega
    rw [if_pos hn2, if_pos hn2]
    refine wpAny_bind (wpAny_pure ?_)
    dsimp only
    rw [StateT.run_pure]
    refine wpAny_bind (wpAny_pure ?_)
    obtain ⟨q, a, b, c⟩ := m_small (key := key) h2 (p := fun i => vs.getD i Value.none) fun _ => rfl
    refine tail _ _ q k3 ho3 a b ?_ rfl
    show ((vs.toArray.zip vs.toArray).map (·.2)) = _
    rw [← c]
    apply Array.toList_inj.mp
    rw [Array.toList_map, ksk_zip]
    exact List.map_snd_zip (Nat.le_refl _)
end
end Mine
end
section
open PySem PySem.Calls PySem.W PyProof.Rows
namespace Mine
variable [iO : Old]
noncomputable abbrev KeepNL (h h' : Heap) : Prop := ∀ b o, b ≠ tab0 → NFr o → o.cls ≠ .type "list" → h.get? b = some o → h'.get? b = some o
theorem KsT.nl {a b : Shared} (x : KsT a b) : KeepNL a.heap b.heap := fun i o n c _ e => x.get n e c
theorem nl_upd {h h' : Heap} {a : Addr} {xs : Array Value} {n : Nat} (ho : h.get? a = some (seqObj "list" xs n)) (sb : Heap.SameBut a h h') : KeepNL h h' := fun b o _ _ c e => sb.extBut b o (fun z => by rw [z, ho] at e; obtain rfl := Option.some.inj e; exact c rfl) e
section
variable {prog : Program} {w : World} {A : Around} {E : Value → Shared → Prop} {s s₀ : Shared} {vs : List Value} {κ : SortKind} {key : Nat → Int} {D : Addr}
theorem m_list_sortK {n : Nat} {f : Value} {P : PySem.Fin → Shared → Prop} {KP : Nat → Value → Heap → Prop} (k : KsT s₀ s) (nD : s₀.heap.get? D = none) (nt : D ≠ tab0) (T0 : Tab s₀.heap) (ho : s.heap.get? D = some (seqObj "list" vs.toArray n)) (h64 : vs.length < 64)
    (hKP : ∀ i kx h h', KP i kx h → KeepNL h h' → KP i kx h')
    (hcall : ∀ i x s', vs[i]? = some x → KsT s₀ s' → wpAny (model prog w) A (call f [x]) (fun kx s'' => KsT s' s'' ∧ KP i kx s''.heap) (fun _ _ => False) s')
    (hkind : ∀ (ks : List Value) s', ks.length = vs.length → 2 ≤ vs.length → (∀ i kx, ks[i]? = some kx → KP i kx s'.heap) → KsT s₀ s' → wpAny (model prog w) A (keyKind' ks.toArray) (fun κ' s'' => κ' = κ ∧ KsT s' s'') (fun _ _ => False) s')
    (hcmp : ∀ (ks : List Value) i j s', ks.length = vs.length → (∀ i kx, ks[i]? = some kx → KP i kx s'.heap) → i < vs.length → j < vs.length → KsT s₀ s' → wpAny (model prog w) A (keyLt' κ (ks.getD i Value.none) (ks.getD j Value.none)) (fun b s'' => KsT s' s'' ∧ b = kLt key i j) (fun _ _ => False) s')
    (hP : ∀ (p : Array Nat) s' c, p.toList.Perm (List.range vs.length) → p.toList.Pairwise (SR key) → KsT s₀ s' → s'.heap.get? D = some (seqObj "list" (List.toArray (p.toList.map fun i => vs.getD i Value.none)) c) → P (.done (.ret .none)) s') :
    wpAny (model prog w) A (ksk_tree D f false) P E s := by
  have s1 := Heap.SameBut.update s.heap D (Obj.mapSeq fun _ => (#[] : Array Value))
  obtain ⟨e1, ho1⟩ : ∃ e1, (s.heap.update D (Obj.mapSeq fun _ => (#[] : Array Value))).get? D = some (seqObj "list" #[] e1) := ⟨_, get?_update_seq ho fun _ => #[]⟩
  have k1 : KsT s₀ { s with heap := s.heap.update D (Obj.mapSeq fun _ => (#[] : Array Value)) } := k.upd (tk := s.toks) nD ho seq_soft s1 (Nat.le_refl _)
  unfold ksk_tree
  refine wpAny_bind (listItems_at ho rfl ?_)
  refine wpAny_bind (listUpdate_at ho rfl ?_ (by rw [List.size_toArray, sizeLine_eq]; lia) (Nat.zero_le _))
  refine wpAny_bind (seqEpoch_at ho1 rfl ?_)
  refine wpAny_bind (wpAny_newTuple ?_ (by show vs.length ≤ _; rw [sizeLine_eq]; lia))
  refine wpAny_bind (wpAny_newList ?_ (Nat.zero_le _))
  refine wpAny_holding ?_
  have ho2 : ((s.heap.update D (Obj.mapSeq fun _ => (#[] : Array Value))).push (seqObj "tuple" vs.toArray 0)).get? D = some (seqObj "list" #[] e1) := Heap.get?_push_of_some _ ho1
  generalize hH : (s.heap.update D (Obj.mapSeq fun _ => (#[] : Array Value))).push (seqObj "tuple" vs.toArray 0) = H
  show wpAny (model prog w) A (ksk_rest D f false vs.toArray e1 (.ref H.objs.size)) P E { s with heap := H.push (seqObj "list" #[] 0) }
  have k2 : KsT s₀ { s with heap := H } := by rw [← hH]; exact k1.push
  rw [hH] at ho2
  have k3 : KsT s₀ { s with heap := H.push (seqObj "list" #[] 0) } := k2.push
  have ho3 : (H.push (seqObj "list" #[] 0)).get? D = some (seqObj "list" #[] e1) := Heap.get?_push_of_some _ ho2
  have hkS : (H.push (seqObj "list" #[] 0)).get? H.objs.size = some (seqObj "list" #[] 0) := Heap.get?_push_size _ rfl
  have htk : H.objs.size ≠ tab0 := fun z => by
    obtain ⟨o, e⟩ := (k2.1.kp.tab T0).ex
    have := Heap.lt_size e
    dsimp only at this
    rw [z] at this
    exact absurd this (Nat.lt_irrefl _)
  have nk : s₀.heap.get? H.objs.size = none := by
    cases e : s₀.heap.get? H.objs.size with
    | none => rfl
    | some o => obtain ⟨_, q⟩ := k2.1.kp.live htk e; exact absurd (Heap.lt_size q) (Nat.lt_irrefl _)
  have hDk : D ≠ H.objs.size := fun z => by
    have := Heap.lt_size ho2
    rw [z] at this
    exact absurd this (Nat.lt_irrefl _)
  generalize H.objs.size = kS at *
  generalize H.push (seqObj "list" #[] 0) = H3 at *
  clear hH ho2 k2
  unfold ksk_rest
  refine wpAny_bind (wpAny_rule ?_)
  rw [List.forIn_toArray]
  refine wpAny_bind (ksk_fold (I := fun i s' => ∃ ks e, ks.length = i ∧ KsT s₀ s' ∧ s'.heap.get? kS = some (seqObj "list" (List.toArray ks) e) ∧ s'.heap.get? D = some (seqObj "list" #[] e1) ∧ ∀ j kx, ks[j]? = some kx → KP j kx s'.heap)
    vs 0 _ ⟨[], 0, rfl, k3, hkS, ho3, fun j kx e => by injection e⟩ (fun j x s' hx P => ?_) fun s' P => ?_) <;> obtain ⟨ks, e, hl, k', hk', hD', hKs⟩ := P
  · have hjv : j < vs.length := (List.getElem?_eq_some_iff.mp hx).1
    refine wpAny_bind (wpAny_attempt (wpAny_mono (hcall j x s' hx k') (fun kx s'' q => ?_) fun _ _ x => x.elim))
    obtain ⟨q1, q2⟩ := q
    have hk2 := q1.get htk hk'
    have s2 := Heap.SameBut.update s''.heap kS (Obj.mapSeq (·.push kx))
    have ea : (List.toArray ks).push kx = List.toArray (ks ++ [kx]) := by simp
    obtain ⟨c2, hc2⟩ : ∃ c2, (s''.heap.update kS (Obj.mapSeq (·.push kx))).get? kS = some (seqObj "list" (List.toArray (ks ++ [kx])) c2) := ⟨_, by rw [← ea]; exact get?_update_seq hk2 (·.push kx)⟩
    dsimp only
    refine wpAny_bind (listUpdate_at hk2 rfl ?_ (by rw [List.size_toArray, sizeLine_eq]; lia) (Nat.le_trans (Nat.le_of_eq (Array.size_push ..)) (by rw [List.size_toArray, sizeLine_eq]; lia)))
    have nl2 : KeepNL s''.heap (s''.heap.update kS (Obj.mapSeq (·.push kx))) := nl_upd hk2 s2
    refine wpAny_pure ⟨rfl, ks ++ [kx], c2, by rw [List.length_append, hl]; rfl, (k'.trans q1).upd (tk := s''.toks) nk hk2 seq_soft s2 (Nat.le_refl _), hc2, s2.extBut _ _ hDk (q1.get nt hD'), fun i ky e => ?_⟩
    by_cases hi : i < ks.length
    · rw [List.getElem?_append_left hi] at e
      exact hKP i ky _ _ (hKP i ky _ _ (hKs i ky e) q1.nl) nl2
    · rw [List.getElem?_append_right (by lia)] at e
      obtain ⟨h1, h2⟩ := List.getElem?_eq_some_iff.mp e
      have hi2 : i = j := by simp at h1; lia
      subst hi2
      have : ky = kx := by rw [← h2]; simp [hl]
      rw [this]
      exact hKP i kx _ _ q2 nl2
  · have hl : ks.length = vs.length := by lia
    refine wpAny_bind (listItems_at hk' rfl ?_)
    have tail : ∀ (st' : SortSt) (s'' : Shared) (p : Array Nat), KsT s' s'' → p.toList.Perm (List.range vs.length) → p.toList.Pairwise (SR key) →
        (arrOf st').map (·.2) = List.toArray (p.toList.map fun i => vs.getD i Value.none) → failedOf st' = none → wpAny (model prog w) A (ksk_tail D false e1 (.ref kS) st') P E s'' := by
      intro st' s'' p q hp hs hout hf
      have hsz : (List.toArray (p.toList.map fun i => vs.getD i Value.none)).size = vs.length := by rw [List.size_toArray, List.length_map, hp.length_eq, List.length_range]
      have hk2 := q.get htk hk'
      have hD2 := q.get nt hD'
      have s2 := Heap.SameBut.update s''.heap kS (Obj.mapSeq fun _ => (#[] : Array Value))
      have hD3 := s2.extBut _ _ hDk hD2
      have k4 : KsT s₀ { s'' with heap := s''.heap.update kS (Obj.mapSeq fun _ => (#[] : Array Value)) } := (k'.trans q).upd (tk := s''.toks) nk hk2 seq_soft s2 (Nat.le_refl _)
      have s3 := Heap.SameBut.update (s''.heap.update kS (Obj.mapSeq fun _ => (#[] : Array Value))) D (Obj.mapSeq fun _ => List.toArray (p.toList.map fun i => vs.getD i Value.none))
      unfold ksk_tail
      dsimp only
      rw [hout]
      refine wpAny_bind (listUpdate_at hk2 rfl ?_ (by rw [List.size_toArray, sizeLine_eq]; lia) (Nat.zero_le _))
      refine wpAny_bind (wpAny_letGo ?_)
      refine wpAny_bind (seqEpoch_at hD3 rfl ?_)
      refine wpAny_bind (listUpdate_at hD3 rfl ?_ (Nat.zero_le _) (Nat.le_trans (Nat.le_of_eq hsz) (by rw [sizeLine_eq]; lia)))
      rw [hf]
      simp only [bne_self_eq_false, Bool.false_eq_true, if_false]
      exact wpAny_pure (hP p _ _ hp hs (k4.upd (tk := s''.toks) nD hD3 seq_soft s3 (Nat.le_refl _)) (get?_update_seq hD3 fun _ => List.toArray (p.toList.map fun i => vs.getD i Value.none)))
    unfold ksk_end
    dsimp only
    rw [if_neg (by decide)]
    by_cases h2 : 2 ≤ vs.length
    · have hn2 : ¬ vs.toArray.size < 2 := by rw [List.size_toArray]; lia
      rw [if_neg hn2, if_neg hn2]
      refine wpAny_bind (wpAny_mono (hkind ks s' hl h2 hKs k') (fun κ' s4 hk => ?_) fun _ _ x => x.elim)
      obtain ⟨rfl, k4⟩ := hk
      refine wpAny_bind (wpAny_mono (m_runs (key := key) (Q := fun st' s'' => ∃ p : Array Nat, p.toList.Perm (List.range vs.length) ∧ p.toList.Pairwise (SR key) ∧ (arrOf st').map (·.2) = List.toArray (p.toList.map fun i => vs.getD i Value.none) ∧ failedOf st' = none ∧ KsT s4 s'') hl h2 h64
        (fun i j s'' hi hj q => hcmp ks i j s'' hl (fun i' kx e' => hKP i' kx _ _ (hKs i' kx e') (k4.trans q).nl) hi hj (k'.trans (k4.trans q))) fun p st' s'' a b c d e => ⟨p, a, b, c, d, e⟩) ?_ fun _ _ x => x)
      rintro ⟨⟨⟩, st'⟩ s'' ⟨p, a, b, c, d, q⟩
      exact tail st' s'' p (k4.trans q) a b c d
    · have hn2 : vs.toArray.size < 2 := by rw [List.size_toArray]; lia
      rw [if_pos hn2, if_pos hn2]
      refine wpAny_bind (wpAny_pure ?_)
      rw [StateT.run_pure]
      refine wpAny_bind (wpAny_pure ?_)
      obtain ⟨q, a, b, c⟩ := m_small (key := key) h2 (p := fun i => vs.getD i Value.none) fun _ => rfl
      refine tail _ _ q (KsT.refl _) a b ?_ rfl
      show (((List.toArray ks).zip vs.toArray).map (·.2)) = _
      rw [← c]
      apply Array.toList_inj.mp
      rw [Array.toList_map, ksk_zip]
      exact List.map_snd_zip (by show vs.length ≤ ks.length; lia)
end
end Mine
end
section
open PySem PySem.Calls PySem.W PyProof.Rows
namespace Mine
variable [iO : Old]
section
variable {prog : Program} {w : World} {A : Around} {E : Value → Shared → Prop} {s : Shared} {vs : List Value}
theorem m_sorted {l : Addr} {kw : List (Str × Value)} {Q : Value → Shared → Prop} (T0 : Tab s.heap) (hl : s.heap.IsList l vs.toArray) (h64 : vs.length < 64) (ha1 : argsOk "sorted" ⟨[.ref l], kw⟩) (ha2 : ∀ x, argsOk "list.sort" ⟨[.ref x], kw⟩)
    (h : ∀ D s', KsT s s' → s.heap.get? D = none → D ≠ tab0 → s'.heap.get? D = some (seqObj "list" vs.toArray 0) → wpAny (model prog w) A.in1.in1 (Builtin.«list.sort» ⟨[.ref D], kw⟩) (fun fin s'' => fin = .done (.ret .none) ∧ Q (.ref D) s'') (fun _ _ => False) s') :
    wpAny (model prog w) A (call (.builtin "sorted") [.ref l] kw) Q E s := by
  refine call_function_entry_kw kind_sorted plain_sorted entry_sorted ha1 ?_
  unfold Builtin.«sorted»
  refine wpAny_bind (m := checkCount "sorted" 1 1 _) (wpAny_pure ?_)
  refine wpAny_bind (collect_list hl ?_ (by rw [sizeLine_eq]; omega))
  refine wpAny_bind (wpAny_newList ?_ (by rw [sizeLine_eq]; omega))
  have hsz : ((s.heap.push (seqObj "list" #[] 0)).update s.heap.objs.size (Obj.mapSeq (· ++ vs.toArray))).objs.size = s.heap.objs.size + 1 := by
    rw [Heap.size_update, size_push']
  have hoL : (((s.heap.push (seqObj "list" #[] 0)).update s.heap.objs.size (Obj.mapSeq (· ++ vs.toArray))).push (seqObj "list" vs.toArray 0)).get? (s.heap.objs.size + 1) = some (seqObj "list" vs.toArray 0) := by
    rw [← hsz]; exact Heap.get?_push_size _ rfl
  have keep : ∀ b o, s.heap.get? b = some o → (((s.heap.push (seqObj "list" #[] 0)).update s.heap.objs.size (Obj.mapSeq (· ++ vs.toArray))).push (seqObj "list" vs.toArray 0)).get? b = some o := fun b o q => by
    have hlt : b < s.heap.objs.size := Heap.lt_size q
    rw [Heap.get?_push_ne _ _ _ (by rw [hsz]; exact Nat.ne_of_lt (Nat.lt_succ_of_lt hlt)), Heap.get?_update_ne _ _ _ _ (Nat.ne_of_lt hlt), Heap.get?_push_ne _ _ _ (Nat.ne_of_lt hlt)]
    exact q
  have nD : s.heap.get? (s.heap.objs.size + 1) = none := by
    cases e : s.heap.get? (s.heap.objs.size + 1) with
    | none => rfl
    | some o => exact absurd (Heap.lt_size e) (Nat.not_lt.mpr (Nat.le_succ _))
  have nt : s.heap.objs.size + 1 ≠ tab0 := fun z => by
    obtain ⟨o, e⟩ := T0.ex
    rw [← z, nD] at e; injection e
  show wpAny _ _ _ _ _ { s with heap := ((s.heap.push (seqObj "list" #[] 0)).update s.heap.objs.size (Obj.mapSeq (· ++ vs.toArray))).push (seqObj "list" vs.toArray 0) }
  rw [hsz]
  refine wpAny_bind (wpAny_holding (wpAny_call_entry_kw slot_list_sort ⟨_, hoL, rfl⟩ entry_list_sort ?body (ha2 _)))
  case body =>
    refine wpAny_mono (h (s.heap.objs.size + 1) { s with heap := ((s.heap.push (seqObj "list" #[] 0)).update s.heap.objs.size (Obj.mapSeq (· ++ vs.toArray))).push (seqObj "list" vs.toArray 0) } ⟨Ks.mk (tk := s.toks) (Kp.of keep), Nat.le_refl _⟩ nD nt hoL) (fun fin s'' q => ?_) fun _ _ x => x.elim
    obtain ⟨rfl, q⟩ := q
    exact ⟨_, rfl, wpAny_pure ⟨_, rfl, q⟩⟩
end
end Mine
end
section
open PySem PySem.Calls PySem.W PyProof.Rows
namespace Mine
variable [iO : Old]
section
variable {prog : Program} {w : World} {A : Around} {E : Value → Shared → Prop} {s : Shared}
noncomputable abbrev rawEnv (fd : FuncData) (L a : Addr) : Env := newEnv fd.scope L fd.globals fd.closure (fd.qualname ++ ".<locals>.") (some a) fd.code none fd.builtins
theorem newEnv_plain {scope : Scope} {globals : Addr} {closure : List (Str × Addr)} {binds : List (Str × Value)} {qual : Str} {func : Option Addr} {code : Value} {builtins : Addr} {Q : Env → Shared → Prop}
    (hc : ∀ x ∈ scope.names, x.2 ≠ .cell) (hl : ∀ x ∈ binds, scope.names.lookup x.1 = some .local) (hk : scope.kind = .function)
    (hQ : ∀ h', h'.Ns s.heap.objs.size (fun x => binds.reverse.lookup x) → Heap.SameBut s.heap.objs.size (s.heap.push { cls := .type "frame", data := .dict #[] }) h' → FrameAt h' s.heap.objs.size →
      Q (newEnv scope s.heap.objs.size globals closure qual func code none builtins) { s with heap := h', toks := s.toks + binds.length }) :
    wpAny (model prog w) A (newFunctionEnv scope globals closure binds qual func code none builtins) Q E s := by
  simp only [newFunctionEnv, Option.isSome_none, Bool.false_eq_true, if_false]
  simp only [newEnv] at hQ
  refine wpAny_bind (wpAny_alloc ?_)
  rw [forIn_yield_id closure (fun x hx c => by
    obtain ⟨name, kind⟩ := x
    have : (kind == NameKind.cell) = false := by simpa using hc _ hx
    simp only [this, Bool.false_eq_true, if_false])]
  refine wpAny_bind (wpAny_pure (wpAny_bind ?_))
  refine wpAny_forIn_list _
    (fun rest _ s' => ∃ done h', binds = done ++ rest ∧ s' = { s with heap := h', toks := s.toks + done.length } ∧
      h'.Ns s.heap.objs.size (fun x => done.reverse.lookup x) ∧
      Heap.SameBut s.heap.objs.size (s.heap.push { cls := .type "frame", data := .dict #[] }) h' ∧ FrameAt h' s.heap.objs.size) _ ?_ ?_ binds _
    ⟨[], _, rfl, rfl, Heap.Ns.new .., Heap.SameBut.refl .., ⟨_, _, _, Heap.get?_push_size _ rfl, rfl, rfl⟩⟩
  · rintro ⟨name, v⟩ rest _ s' ⟨done, h', hb, rfl, hns, hsb, hfr⟩
    have hk' : Env.kindOf { scope, locals := s.heap.objs.size, globals, cells := closure, qual, func, code, frame := some s.heap.objs.size, builtins } name = some .local :=
      hl (name, v) (by rw [hb]; simp)
    have hp : (({ scope, locals := s.heap.objs.size, globals, cells := closure, qual, func, code, frame := some s.heap.objs.size, builtins } : Env).scope.kind == .class || (({ scope, locals := s.heap.objs.size, globals, cells := closure, qual, func, code, frame := some s.heap.objs.size, builtins } : Env).scope.kind == .module &&
        ({ scope, locals := s.heap.objs.size, globals, cells := closure, qual, func, code, frame := some s.heap.objs.size, builtins } : Env).locals != ({ scope, locals := s.heap.objs.size, globals, cells := closure, qual, func, code, frame := some s.heap.objs.size, builtins } : Env).globals)) = false := by
      show (scope.kind == .class || (scope.kind == .module && _)) = false
      rw [hk]; rfl
    simp only [storeName_local hk' hp]
    refine wpAny_bind (nsSet_cls hns fun h'' hns' hsb' hf' => wpAny_pure ⟨done ++ [(name, v)], h'', by simp [hb], ?_, ?_, hsb.trans hsb', hf' hfr⟩)
    · simp [Nat.add_assoc]
    · rw [List.reverse_append]
      have e : (fun x => List.lookup x (List.reverse [(name, v)] ++ done.reverse)) = fun x => if x = name then some v else List.lookup x done.reverse := by
        funext x
        show List.lookup x ((name, v) :: done.reverse) = _
        rw [List.lookup_cons]
        by_cases q : x = name
        · rw [if_pos q, q]; simp
        · rw [if_neg q, beq_false_of_ne q]
      rw [e]
      exact hns'
  · rintro _ s' ⟨done, h', hb, rfl, hns, hsb, hfr⟩
    rw [List.append_nil] at hb
    subst hb
    exact wpAny_pure (hQ h' hns hsb hfr)
theorem raw_call {a : Addr} {o : Obj} {fd : FuncData} {body : List Stmt} {vals : List Value} {binds : List (Str × Value)} {R : Result → Shared → Prop} (hroom : A.depth < recursionLimit) (T : Tab s.heap) (lim : s.heap.NoLimit)
    (ho : s.heap.get? a = some o) (hd : o.data = .func fd) (hco : fd.scope.isCoroutine = false) (hgen : fd.scope.isGenerator = false) (hbody : fd.body = .stmts body) (hcd : s.heap.CodeRec fd.code fd.qualname) (hk : fd.scope.kind = .function)
    (hb : bindArgs fd ⟨vals, []⟩ = pure binds) (hc : ∀ x ∈ fd.scope.names, x.2 ≠ .cell) (hl : ∀ x ∈ binds, fd.scope.names.lookup x.1 = some .local)
    (k : ∀ L h', s.heap.get? L = none → L ≠ tab0 → h'.Ns L (fun x => binds.reverse.lookup x) → FrameAt h' L → KsT s { s with heap := h', toks := s.toks + binds.length } →
      wpAny (model prog w) (A.deeper (rawEnv fd L a)) (execs body (rawEnv fd L a)) (fun f s' => R (.ok (.ret (match f with | .ret v => v | _ => .none))) s')
        (fun e s' => wpAny (model prog w) (A.deeper (rawEnv fd L a)) (leaving (rawEnv fd L a) e) (fun _ s'' => R (.error e) s'') (fun e' s'' => R (.error e') s'') s') { s with heap := h', toks := s.toks + binds.length }) :
    codeAny (model prog w) A (.call (.ref a) ⟨vals, []⟩) R s := by
  refine codeAny_call_function hroom ho hd hco hgen hbody hcd ?_
  rw [hb]
  refine wpAny_pure ?_
  refine newEnv_plain hc hl hk fun h' hn sb hfr => ?_
  have nL : s.heap.get? s.heap.objs.size = none := push_new
  have Lt : s.heap.objs.size ≠ tab0 := fun z => by
    obtain ⟨o, e⟩ := T.ex
    rw [← z, nL] at e; injection e
  have kp : ∀ b o, s.heap.get? b = some o → h'.get? b = some o := fun b o e => sb.extBut b o (fun z => by rw [z, nL] at e; injection e) (Heap.get?_push_of_some _ e)
  obtain ⟨mc, hns, hnone⟩ := lim
  refine ⟨⟨mc, ((by obtain ⟨o, es, ep, e, r⟩ := hns; exact ⟨o, es, ep, kp _ _ e, r⟩)), hnone⟩, codeAny_func (k _ h' nL Lt hn hfr ⟨Ks.mk (Kp.of kp), Nat.le_add_right _ _⟩)⟩
end
theorem frag_add {l : List (Addr × Obj)} {K : Frag} {h : Heap} (hl : ∀ p ∈ l, h.get? p.1 = some p.2) (X : K.In h) :
    Frag.In (l ++ K) h ∧ (∀ p ∈ l, List.lookup p.1 (l ++ K) = some p.2) ∧ ∀ b o, List.lookup b K = some o → List.lookup b (l ++ K) = some o := by
  have In : Frag.In (l ++ K) h := by
    intro a o e
    induction l with
    | nil => exact X a o e
    | cons p l ih =>
      obtain ⟨b, ob⟩ := p
      rw [List.cons_append, List.lookup_cons] at e
      by_cases q : a = b
      · rw [q, show (b == b) = true from beq_self_eq_true b] at e
        obtain rfl := Option.some.inj e
        rw [q]
        exact hl (b, _) (.head _)
      · rw [beq_false_of_ne q] at e
        exact ih (fun p hp => hl p (.tail _ hp)) e
  have some_ : ∀ b, (∃ o, (b, o) ∈ l ∨ List.lookup b K = some o) → ∃ o, List.lookup b (l ++ K) = some o := by
    intro b hb
    clear In
    induction l with
    | nil => obtain ⟨o, h | h⟩ := hb; cases h; exact ⟨o, h⟩
    | cons p l ih =>
      obtain ⟨c, oc⟩ := p
      rw [List.cons_append, List.lookup_cons]
      by_cases q : b = c
      · rw [q, show (c == c) = true from beq_self_eq_true c]; exact ⟨_, rfl⟩
      · rw [beq_false_of_ne q]
        refine ih (fun p hp => hl p (.tail _ hp)) ?_
        obtain ⟨o, h | h⟩ := hb
        · rcases List.mem_cons.mp h with z | z
          · cases z; exact absurd rfl q
          · exact ⟨o, .inl z⟩
        · exact ⟨o, .inr h⟩
  refine ⟨In, fun p hp => ?_, fun b o e => ?_⟩
  · obtain ⟨o, e⟩ := some_ p.1 ⟨p.2, .inl hp⟩
    have := In _ _ e
    rw [hl p hp] at this; obtain rfl := Option.some.inj this; exact e
  · obtain ⟨o', e'⟩ := some_ b ⟨o, .inr e⟩
    have := In _ _ e'
    rw [X _ _ e] at this; obtain rfl := Option.some.inj this; exact e'
section
variable {K : Frag} {a ns d f0 f1 : Addr} {sl : Array (Option Value)} {kvs : List (Str × Value)} {es : Array DictEntry} {ep : Nat}
theorem nsIn_of (e : K.lookup ns = some { cls := .type "dict", data := .dict es ep }) (hE : Ents es.toList kvs) (x : Str) : nsIn K ns x = some (kvs.lookup x) := by
  unfold nsIn
  rw [e]
  dsimp only
  have h1 := hE.find (x := x)
  have h2 := hE.noRef
  cases q : es.toList.find? (fun e => e.key.isStr x) with
  | some v => rw [q] at h1; rw [← h1]; rfl
  | none => rw [q] at h1; rw [← h1, h2]; rfl
theorem findIn_K (ha : K.lookup a = some (clsO (cdK a ns) sl)) (e : K.lookup ns = some { cls := .type "dict", data := .dict es ep }) (hE : Ents es.toList kvs) {x : Str} {r : Option Value} (hr : (match kvs.lookup x with | some v => some (some v) | none => (match some (fastBuiltinOwn "object" x) with | some (some v) => some (some v) | some none => some none | none => none)) = some r) : findIn K (.ref a) x = some r := by
  have h1 : ownIn K x (.ref a) = some (kvs.lookup x) := by
    unfold ownIn; dsimp only; rw [ha]; exact nsIn_of e hE x
  have h2 : ownIn K x (.type "object") = some (fastBuiltinOwn "object" x) := rfl
  unfold findIn
  dsimp only
  rw [ha]
  show alongIn K x [.ref a, .type "object"] = _
  rw [alongIn, h1, ← hr]
  cases kvs.lookup x with
  | some v => rfl
  | none =>
    dsimp only
    rw [alongIn, h2]
    cases fastBuiltinOwn "object" x <;> rfl
end
end Mine
end
section
open PySem PySem.Calls PySem.W PyProof.Rows
namespace Mine
variable [iO : Old]
structure FrFn (K : Frag) (f : Addr) (name qual : Str) (params : Arguments) (body : List Stmt) (scope : Scope) (clos : List (Str × Addr)) : Prop where
  ex' : ∃ doc pm ci ctv oi vi t, List.lookup f K = some (fnMade name qual params body scope clos doc pm ci ctv) ∧ List.lookup ci K = some oi ∧ oi.data = .fields vi ∧ vi[1]? = some (.str qual t)
structure KFr (K : Frag) (a ns d f0 f1 : Addr) (cc : Addr) (f : Value) (a0 : Arguments) (b0 : List Stmt) (s0 : Scope) (a1 : Arguments) (b1 : List Stmt) (s1 : Scope) : Prop where
  la : ∃ T tt tq, List.lookup a K = some (clsO (cdK a ns) (slK T tt tq))
  ln : ∃ es ep m0 v1 L f2 f3 f4 f5 st, List.lookup ns K = some { cls := .type "dict", data := .dict es ep } ∧ Ents es.toList (kvsK m0 v1 (.ref L) (.ref f0) (.ref f1) f2 f3 f4 f5 st (.ref d))
  ld : ∃ td, List.lookup d K = some (memO td a)
  l0 : FrFn K f0 "__init__" "cmp_to_key.<locals>.K.__init__" a0 b0 s0 []
  l1 : FrFn K f1 "__lt__" "cmp_to_key.<locals>.K.__lt__" a1 b1 s1 [(("mycmp" : Str), cc)]
theorem codeIn_of {K : Frag} {ci : Addr} {oi : Obj} {vi : Array Value} {q : Str} {t : Tok} (e : List.lookup ci K = some oi) (hd : oi.data = .fields vi) (h1 : vi[1]? = some (.str q t)) : codeIn K (.ref ci) q = true := by
  obtain ⟨c, dd, da, sl⟩ := oi
  dsimp only at hd
  subst hd
  show (match List.lookup ci K with | some ⟨_, _, .fields vs, _⟩ => (match vs.toList with | _ :: .str n _ :: _ => n == q | _ => false) | _ => false) = true
  rw [e]
  dsimp only
  rw [← Array.getElem?_toList] at h1
  match vi.toList, h1 with
  | [], h1 => injection h1
  | [_], h1 => injection h1
  | x :: y :: r, h1 =>
    have : y = .str q t := by simpa using h1
    rw [this]
    exact beq_self_eq_true q
theorem FrFn.ex {K : Frag} {f : Addr} {name qual : Str} {params : Arguments} {body : List Stmt} {scope : Scope} {clos : List (Str × Addr)} (x : FrFn K f name qual params body scope clos) :
    ∃ doc pm ci ctv, List.lookup f K = some (fnMade name qual params body scope clos doc pm ci ctv) ∧ codeIn K (.ref ci) qual = true := by
  obtain ⟨doc, pm, ci, ctv, oi, vi, t, e1, e2, e3, e4⟩ := x.ex'
  exact ⟨doc, pm, ci, ctv, e1, codeIn_of e2 e3 e4⟩
theorem KFr.up {K K' : Frag} {a ns d f0 f1 cc : Addr} {f : Value} {a0 a1 : Arguments} {b0 b1 : List Stmt} {s0 s1 : Scope} (x : KFr K a ns d f0 f1 cc f a0 b0 s0 a1 b1 s1) (u : ∀ b o, List.lookup b K = some o → List.lookup b K' = some o) : KFr K' a ns d f0 f1 cc f a0 b0 s0 a1 b1 s1 := by
  obtain ⟨⟨T, tt, tq, x1⟩, ⟨es, ep, m0, v1, L, f2, f3, f4, f5, st, x2, hE⟩, ⟨td, x3⟩, ⟨doc, pm, ci, ctv, oi, vi, t, y1, y2, y3, y4⟩, ⟨doc', pm', ci', ctv', oi', vi', t', z1, z2, z3, z4⟩⟩ := x
  exact ⟨⟨T, tt, tq, u _ _ x1⟩, ⟨es, ep, m0, v1, L, f2, f3, f4, f5, st, u _ _ x2, hE⟩, ⟨td, u _ _ x3⟩, ⟨doc, pm, ci, ctv, oi, vi, t, u _ _ y1, u _ _ y2, y3, y4⟩, ⟨doc', pm', ci', ctv', oi', vi', t', u _ _ z1, u _ _ z2, z3, z4⟩⟩
theorem frag_tab {l : List (Addr × Obj)} {K : Frag} {h : Heap} (hl : ∀ p ∈ l, h.get? p.1 = some p.2) (hc : ∀ p ∈ l, p.2.cls ≠ .none) (h0 : List.lookup tab0 K = none) (ht : ∃ vs, h.get? tab0 = some (tabO vs)) : List.lookup tab0 (l ++ K) = none := by
  obtain ⟨vs, hvs⟩ := ht
  induction l with
  | nil => exact h0
  | cons p l ih =>
    obtain ⟨b, ob⟩ := p
    rw [List.cons_append, List.lookup_cons]
    have : (tab0 == b) = false := beq_false_of_ne fun z => by
      have e := hl (b, ob) (.head _)
      have c := hc (b, ob) (.head _)
      dsimp only at e c
      rw [← z, hvs] at e; cases e; exact c rfl
    rw [this]
    exact ih (fun p hp => hl p (.tail _ hp)) fun p hp => hc p (.tail _ hp)
theorem frag_nf {l : List (Addr × Obj)} {K : Frag} (hc : ∀ p ∈ l, NFr p.2) (nf : ∀ b o, List.lookup b K = some o → NFr o) : ∀ b o, List.lookup b (l ++ K) = some o → NFr o := by
  induction l with
  | nil => exact nf
  | cons p l ih =>
    intro b o e
    obtain ⟨c, oc⟩ := p
    rw [List.cons_append, List.lookup_cons] at e
    split at e
    · cases e; exact hc (c, _) (.head _)
    · exact ih (fun p hp => hc p (.tail _ hp)) b o e
theorem Tab.obj {h : Heap} (x : Tab h) : ∃ vs, h.get? tab0 = some (tabO vs) := by
  rcases x with x | ⟨_, x, _⟩
  · exact ⟨_, x⟩
  · exact ⟨_, x⟩
section
variable {a0 a1 : Arguments} {b0 b1 : List Stmt} {s0 s1 : Scope} {a ns d cc : Addr} {f : Value}
theorem KRest.frag {H : Heap} {K₀ : Frag} (x : KRest H a ns d cc a0 b0 s0 a1 b1 s1) (X : K₀.In H) (h0 : List.lookup tab0 K₀ = none) (nf : ∀ b o, List.lookup b K₀ = some o → NFr o) (ht : ∃ vs, H.get? tab0 = some (tabO vs)) :
    ∃ K f0 f1, KFr K a ns d f0 f1 cc f a0 b0 s0 a1 b1 s1 ∧ Frag.In K H ∧ List.lookup tab0 K = none ∧ (∀ b o, List.lookup b K = some o → NFr o) ∧ ∀ b o, List.lookup b K₀ = some o → List.lookup b K = some o := by
  obtain ⟨T, tt, tq, td, L, m0, v1, f0, f1, f2, f3, f4, f5, st, x1, ⟨es, ep, x2, hE⟩, x3, ⟨doc, pm, ci, ctv, oi, vi, t, y1, y2, y3, y4, y5⟩, ⟨doc', pm', ci', ctv', oi', vi', t', z1, z2, z3, z4, z5⟩⟩ := x
  have hl : ∀ p ∈ [(a, clsO (cdK a ns) (slK T tt tq)), (ns, { cls := .type "dict", data := .dict es ep }), (d, memO td a), (f0, fnMade "__init__" "cmp_to_key.<locals>.K.__init__" a0 b0 s0 [] doc pm ci ctv), (ci, oi),
      (f1, fnMade "__lt__" "cmp_to_key.<locals>.K.__lt__" a1 b1 s1 [(("mycmp" : Str), cc)] doc' pm' ci' ctv'), (ci', oi')], H.get? p.1 = some p.2 := fa x1 (fa x2 (fa x3 (fa y1 (fa y2 (fa z1 (fa z2 fan))))))
  obtain ⟨In, hm, up⟩ := frag_add hl X
  refine ⟨_, f0, f1, ⟨⟨T, tt, tq, hm (a, _) (.head _)⟩, ⟨es, ep, m0, v1, L, f2, f3, f4, f5, st, hm (ns, _) (.tail _ (.head _)), hE⟩, ⟨td, hm (d, _) (.tail _ (.tail _ (.head _)))⟩, ⟨doc, pm, ci, ctv, oi, vi, t, hm (f0, _) (.tail _ (.tail _ (.tail _ (.head _)))), hm (ci, _) (.tail _ (.tail _ (.tail _ (.tail _ (.head _))))), y4, y5⟩,
    ⟨doc', pm', ci', ctv', oi', vi', t', hm (f1, _) (.tail _ (.tail _ (.tail _ (.tail _ (.tail _ (.head _)))))), hm (ci', _) (.tail _ (.tail _ (.tail _ (.tail _ (.tail _ (.tail _ (.head _))))))), z4, z5⟩⟩, In, ?_, ?_, up⟩
  · exact frag_tab hl (fa (show Value.type "type" ≠ .none by decide) (fa (show Value.type "dict" ≠ .none by decide) (fa (show Value.type "member_descriptor" ≠ .none by decide) (fa (show Value.type "function" ≠ .none by decide) (fa (show oi.cls ≠ .none by rw [y3]; decide) (fa (show Value.type "function" ≠ .none by decide) (fa (show oi'.cls ≠ .none by rw [z3]; decide) fan))))))) h0 ht
  · exact frag_nf (fa (nfr_of (T := "type") rfl) (fa (nfr_of (T := "dict") rfl) (fa (nfr_of (T := "member_descriptor") rfl) (fa (nfr_of (T := "function") rfl) (fa (nfr_of y3) (fa (nfr_of (T := "function") rfl) (fa (nfr_of z3) fan))))))) nf
end
section
variable {K : Frag} {a ns d f0 f1 cc : Addr} {f : Value} {a0 a1 : Arguments} {b0 b1 : List Stmt} {s0 s1 : Scope}
variable (F : KFr K a ns d f0 f1 cc f a0 b0 s0 a1 b1 s1)
include F
theorem KFr.find {x : Str} {r : Option Value} (hr : ∀ m0 v1 L f2 f3 f4 f5 st, (match (kvsK m0 v1 (.ref L) (.ref f0) (.ref f1) f2 f3 f4 f5 st (.ref d)).lookup x with | some v => some (some v) | none => (match some (fastBuiltinOwn "object" x) with | some (some v) => some (some v) | some none => some none | none => none)) = some r) :
    findIn K (.ref a) x = some r := by
  obtain ⟨T, tt, tq, h1⟩ := F.la
  obtain ⟨es, ep, m0, v1, L, f2, f3, f4, f5, st, h2, h3⟩ := F.ln
  exact findIn_K h1 h2 h3 (hr m0 v1 L f2 f3 f4 f5 st)
theorem KFr.init : findIn K (.ref a) "__init__" = some (some (.ref f0)) := F.find fun _ _ _ _ _ _ _ _ => rfl
theorem KFr.lt : findIn K (.ref a) "__lt__" = some (some (.ref f1)) := F.find fun _ _ _ _ _ _ _ _ => rfl
theorem KFr.obj : findIn K (.ref a) "obj" = some (some (.ref d)) := F.find fun _ _ _ _ _ _ _ _ => rfl
theorem KFr.ga : findIn K (.ref a) "__getattribute__" = some (some (.builtin "object.__getattribute__")) := F.find fun m0 v1 L f2 f3 f4 f5 st => by
  rw [show (kvsK m0 v1 (.ref L) (.ref f0) (.ref f1) f2 f3 f4 f5 st (.ref d)).lookup ("__getattribute__" : Str) = none from rfl]; kernel_rfl
theorem KFr.gn : findIn K (.ref a) "__getattr__" = some none := F.find fun m0 v1 L f2 f3 f4 f5 st => by
  rw [show (kvsK m0 v1 (.ref L) (.ref f0) (.ref f1) f2 f3 f4 f5 st (.ref d)).lookup ("__getattr__" : Str) = none from rfl]; kernel_rfl
theorem KFr.sa : findIn K (.ref a) "__setattr__" = some (some (.builtin "object.__setattr__")) := F.find fun m0 v1 L f2 f3 f4 f5 st => by
  rw [show (kvsK m0 v1 (.ref L) (.ref f0) (.ref f1) f2 f3 f4 f5 st (.ref d)).lookup ("__setattr__" : Str) = none from rfl]; kernel_rfl
theorem KFr.cls : clsIn K a = some (cdK a ns) := by
  obtain ⟨T, tt, tq, h1⟩ := F.la
  unfold clsIn; rw [h1]
theorem KFr.tyd : typeIn K (.ref d) = some (.type "member_descriptor") := by
  obtain ⟨td, h1⟩ := F.ld
  show (List.lookup d K).map (·.cls) = _
  rw [h1]; rfl
theorem KFr.tya : typeIn K (.ref a) = some (.type "type") := by
  obtain ⟨T, tt, tq, h1⟩ := F.la
  show (List.lookup a K).map (·.cls) = _
  rw [h1]; rfl
theorem KFr.plain : plainOver K a = true := by unfold plainOver; rw [F.cls]; rfl
theorem KFr.takes : takesIn K (.ref d) = some true := by
  have : specialIn K (.ref d) "__set__" = some (some (.builtin "member_descriptor.__set__")) := by unfold specialIn; rw [F.tyd]; kernel_rfl
  unfold takesIn
  rw [this]
theorem KFr.taker : takerIn K a "obj" = some (some (.ref d)) := by
  unfold takerIn
  rw [F.obj]
  show (takesIn K (.ref d)).map _ = _
  rw [F.takes]; rfl
theorem KFr.bind {od : Option Obj} : findObj K a od "obj" = some (.bind (.builtin "member_descriptor.__get__") (.ref d)) := by
  have h : specialIn K (.ref d) "__get__" = some (some (.builtin "member_descriptor.__get__")) := by unfold specialIn; rw [F.tyd]; kernel_rfl
  unfold findObj
  rw [F.cls, F.obj]
  dsimp only [Option.bind_some]
  rw [h]
  dsimp only [Option.bind_some]
  rw [F.takes]
  rfl
theorem KFr.slot : slotIn K d a = some 0 := by
  obtain ⟨td, h1⟩ := F.ld
  unfold slotIn
  rw [F.cls]
  have : recIn K d "member_descriptor" = some [.str "obj" td, .ref a, .builtin "proto.slot", .builtin "proto.slot#set", rawInt 0] := by unfold recIn; rw [h1]; rfl
  rw [this]
  show (if _ then some 0 else none) = some 0
  rw [if_pos]
  show (("proto.slot" == "proto.slot") && ("proto.slot#set" == "proto.slot#set") && !(List.isEmpty [Value.ref a, .type "object"]) && List.contains [Value.ref a, .type "object"] (.ref a) && decide ((0 : Int).toNat < [("obj" : Str)].length)) = true
  simp
theorem KFr.makes : makesIn K a = true := by
  obtain ⟨T, tt, tq, h1⟩ := F.la
  unfold makesIn
  rw [h1]
  have h2 : specialIn K (.ref a) "__call__" = some (some (.builtin "type.__call__")) := by unfold specialIn; rw [F.tya]; kernel_rfl
  have h3 : instIn K (.ref a) (.type "type") = some true := by unfold instIn; rw [F.tya]; show subIn K (.type "type") (.type "type") = _; kernel_rfl
  rw [h2, h3]
  show (!false && !false && _ == _ && !(List.isEmpty [Value.ref a, .type "object"]) && List.contains [Value.ref a, .type "object"] (.ref a) && List.contains [Value.ref a, .type "object"] (.type "object") && _ == _ && _ == _) = true
  simp [slK]
end
end Mine
end
section
open PySem PySem.Calls PySem.W PyProof.Rows Builtin Builtin.ObjectAttr Builtin.Getset_descriptor
set_option maxHeartbeats 4000000
namespace Mine
variable [iO : Old]
section
variable {prog : Program} {w : World} {A : Around} {K : Frag} {C x : Addr} {s : Shared} {R : Result → Shared → Prop}
noncomputable abbrev slotF (i : Nat) (v : Value) (o : Obj) : Obj := { o with slots := (o.slots ++ Array.replicate (i + 1 - o.slots.size) none).setIfInBounds i (some v) }
theorem slot_set' {ox : Obj} {od : Option Obj} {v : Value} {p i : Nat} (X : K.In s.heap) (I : InstAt s.heap x ox C od) (hp : slotIn K p C = some i) (hi : i < 1000)
    (h : R (.ok (.ret .none)) { s with heap := s.heap.update x (slotF i v) }) :
    codeAny (model prog w) A (.call (.builtin "member_descriptor.__set__") ⟨[.ref p, .ref x, v], []⟩) R s := by
  obtain ⟨n, tn, owner, behind, tb, d, sl, cd, ho, hc, hm, hb, rfl⟩ := slot_of X hp
  obtain ⟨hh, g, dr, t, os⟩ := s
  have L0 := I.type (M := model prog w)
  have L1 := looks_mroIn (M := model prog w) X hm
  have L2 : Looks (model prog w) hh (Slots.slotNamesOf (.ref C)) cd.slotNames := (looks_clsIn X hc).andThen .now
  have hx := I.at_
  dsimp only at ho hx L0 L1
  have f0 := looks_field (M := model prog w) ho 0 (v := .str n tn) rfl
  have f1 := looks_field (M := model prog w) ho 1 (v := owner) rfl
  have f3 := looks_field (M := model prog w) ho 3 (v := .builtin "proto.slot#set") rfl
  have f4 := looks_field (M := model prog w) ho 4 (v := .int behind tb) rfl
  refine codeAny_call_builtin KF.slot_mset.plain KF.entry_mset (KF.slot_mset.check _ _ _ _ _ _ _ _ ⟨_, ho, rfl⟩ (KF.args_mset _ _ _) ?_)
  unfold Builtin.«member_descriptor.__set__» descrSet descrStoreThrough descrCheckInstance descrNameAndClass isInstance
  have f5 : Looks (model prog w) hh (descrItself (.ref p)) [.ref p] := ((Looks.ld (part := none) ho).andThen .now).andThen (Looks.of_pure (by kernel_rfl))
  repeat lk
  refine ⟨Code.quiet_builtin _ (by decide +kernel), codeAny_builtin KF.entry_slotset ?_⟩
  unfold Builtin.«proto.slot#set» Slots.target
  repeat lk
  rw [if_neg hb]
  refine wpAny_pure (wpAny_bind ?_)
  unfold setSlotAt
  dsimp only
  rw [if_neg (by rw [sizeLine_eq]; lia)]
  exact wpAny_updatePart hx (wpAny_pure h)
theorem get_slotF {h : Heap} {x : Addr} {o : Obj} {i : Nat} {v : Value} (e : h.get? x = some o) (hf : (slotF i v o).isFreed = false := by rfl) : (h.update x (slotF i v)).get? x = some (slotF i v o) := Heap.get?_update_self _ e hf
end
section
variable {prog : Program} {w : World} {A : Around} {E : Value → Shared → Prop} {K : Frag} {s : Shared} {x C : Addr}
theorem set_slot {ox : Obj} {od : Option Obj} {name : Str} {v : Value} {p i : Nat} {Q : Unit → Shared → Prop} (X : K.In s.heap) (I : InstAt s.heap x ox C od) (sa : findIn K (.ref C) "__setattr__" = some (some (.builtin "object.__setattr__"))) (pl : plainOver K C = true)
    (tk : takerIn K C name = some (some (.ref p))) (ty : typeIn K (.ref p) = some (.type "member_descriptor")) (hp : slotIn K p C = some i) (hi : i < 1000) (h : Q () { s with heap := s.heap.update x (slotF i v), toks := s.toks + 1 }) :
    wpAny (model prog w) A (setAttr (.ref x) name v) Q E s :=
  set_plain X I sa (osa_descr (s := { s with toks := s.toks + 1 }) KF.slot_mset X I pl tk ty (slot_set' (s := { s with toks := s.toks + 1 }) X I hp hi h))
theorem get_slot {ox : Obj} {od : Option Obj} {name : Str} {v : Value} {p i : Nat} {expr : Bool} {Q : Value → Shared → Prop} (X : K.In s.heap) (I : InstAt s.heap x ox C od) (ga : findIn K (.ref C) "__getattribute__" = some (some (.builtin "object.__getattribute__"))) (gn : findIn K (.ref C) "__getattr__" = some none)
    (hf : findObj K C od name = some (.bind (.builtin "member_descriptor.__get__") (.ref p))) (hp : slotIn K p C = some i) (hv : (ox.slots[i]?).join = some v) (hh : handedIn v = true) (h : Q v { s with toks := s.toks + 1 }) :
    wpAny (model prog w) A (getAttr (.ref x) name expr) Q E s := by
  refine get_bind X I ga hf gn (wpAny_call (slot_get (s := { s with toks := s.toks + 1 }) X I hp hv ?_))
  show wpAny _ _ (handedOut v) _ _ _
  rw [handedOut_of hh]
  exact wpAny_pure h
end
section
variable {c : Cx} {A : Around} {E : Value → Shared → Prop} {s : Shared} {K : Frag} {a ns d f0 f1 cc : Addr} {f v : Value} {a0 a1 : Arguments} {b0 b1 : List Stmt} {s0 s1 : Scope} {k : Nat}
theorem NoLimit.ks {s s' : Shared} (k : KsT s s') (l : s.heap.NoLimit) : s'.heap.NoLimit := by obtain ⟨mc, x, n⟩ := l; exact ⟨mc, Ns.kp k.1.kp (by decide) x, n⟩
theorem Frag.ks {s s' : Shared} (k : KsT s s') (X : Frag.In K s.heap) (h0 : List.lookup tab0 K = none) (nf : ∀ b o, List.lookup b K = some o → NFr o) : Frag.In K s'.heap := fun b o e => k.get (fun z => by rw [z, h0] at e; injection e) (X b o e) (nf b o e)
theorem new_inst {Q : Value → Shared → Prop} (R : Room (k + 1) A) (F : KFr K a ns d f0 f1 cc f a0 b0 s0 a1 b1 s1) (X : Frag.In K s.heap) (h0 : List.lookup tab0 K = none) (nf : ∀ b o, List.lookup b K = some o → NFr o) (T : Tab s.heap) (lim : s.heap.NoLimit)
    {p1 p2 p3 p4 : Pos} (hb0 : b0 = [.Assign [.Attribute (.Name "self" p1) "obj" p2] (.Name "obj" p3) p4]) (hs0 : s0.kind = .function) (hn0 : s0.names = [(("self" : Str), .local), (("obj" : Str), .local)]) (hco : s0.isCoroutine = false) (hgen : s0.isGenerator = false)
    (hbd : ∀ (nm q : Str) (b : List Stmt) (sc : Scope) (cl : List (Str × Addr)) (doc pm cd ct x y : Value), bindArgs (fnX nm q a0 b sc cl .none .none doc pm none cd ct) ⟨[x, y], []⟩ = pure [(("self" : Str), x), (("obj" : Str), y)])
    (q : ∀ i dx s', KsT s s' → s'.heap.get? i = some { instObj a dx with slots := #[some v] } → s'.heap.get? dx = some emptyDict → Q (.ref i) s') : wpAny (model c.prog c.w) A (call (.ref a) [v]) Q E s := by
  obtain ⟨h, g, dr, t, os⟩ := s
  obtain ⟨doc, pm, ci, ctv, hf0, hci⟩ := F.l0.ex
  have ty0 : typeIn K (.ref f0) = some (.type "function") := by show (List.lookup f0 K).map (·.cls) = _; rw [hf0]; rfl
  refine wpAny_call (make_core (makes_of X F.makes) (looks_findIn X F.init) (fun self => bind_fn X self ty0) (.inl rfl) ?_)
  have k1 : KsT ⟨h, g, dr, t, os⟩ ⟨(h.push emptyDict).push (instObj a h.objs.size), g, dr, t, os⟩ := (KsT.refl ⟨h, g, dr, t, os⟩).push.push
  have X1 := Frag.ks k1 X h0 nf
  refine raw_call ?_ (k1.1.kp.tab T) (NoLimit.ks k1 lim) (X1 _ _ hf0) rfl hco hgen rfl (codeRec_of X1 hci) hs0 (hbd _ _ _ _ _ _ _ _ _ _ _) (fun x hx => ?_) (fun x hx => ?_) fun L h' nL Lt hn hfr k2 => ?_
  · rw [depth_under_make]; have := R.2.1; show A.depth + 1 < 1000; lia
  · rw [show (fnX "__init__" "cmp_to_key.<locals>.K.__init__" a0 b0 s0 [] Value.none Value.none doc pm none (.ref ci) ctv).scope = s0 from rfl, hn0] at hx
    simp only [List.mem_cons, List.not_mem_nil, or_false] at hx
    rcases hx with rfl | rfl <;> decide
  · show s0.names.lookup x.1 = _
    rw [hn0]
    simp only [List.mem_cons, List.not_mem_nil, or_false] at hx
    rcases hx with rfl | rfl <;> rfl
  have X2 := Frag.ks k2 X1 h0 nf
  have hx2 : h'.get? (h.objs.size + 1) = some (instObj a h.objs.size) := k2.get (fun z => by
    obtain ⟨o, e⟩ := T.ex
    have := Heap.lt_size e
    dsimp only at this z
    rw [← z] at this
    exact absurd this (Nat.not_lt.mpr (Nat.le_succ _))) (show Heap.get? ((h.push emptyDict).push (instObj a h.objs.size)) (h.objs.size + 1) = _ by
      have := Heap.get?_push_size (h.push emptyDict) (o := instObj a h.objs.size) rfl
      rwa [Heap.size_push] at this)
  have hd2 : h'.get? h.objs.size = some emptyDict := k2.get (fun z => by
    obtain ⟨o, e⟩ := T.ex
    have := Heap.lt_size e
    dsimp only at this z
    rw [← z] at this
    exact absurd this (Nat.lt_irrefl _)) (Heap.get?_push_of_some _ (Heap.get?_push_size _ rfl))
  have I : InstAt h' (h.objs.size + 1) (instObj a h.objs.size) a (some emptyDict) := ⟨hx2, rfl, rfl, hd2⟩
  generalize hi : h.objs.size + 1 = i at *
  generalize hdx : h.objs.size = dx at *
  have kind : ∀ y, (rawEnv (fnX "__init__" "cmp_to_key.<locals>.K.__init__" a0 b0 s0 [] Value.none Value.none doc pm none (.ref ci) ctv) L f0).kindOf y = ([(("self" : Str), NameKind.local), (("obj" : Str), .local)] : List (Str × NameKind)).lookup y := fun y => by
    show s0.names.lookup y = _; rw [hn0]
  rw [hb0]
  refine wpAny_execs_cons (plainObj_wpAny_Assign_Attribute (wpAny_Name (wpAny_loadName_local hs0 (by rw [kind]; rfl) hn (v := v) rfl ?_) (by decide)))
  refine wpAny_Name (wpAny_loadName_local hs0 (by rw [kind]; rfl) hn (v := .ref i) rfl ?_) (by decide)
  refine set_slot X2 I F.sa F.plain F.taker F.tyd F.slot (by decide) ?_
  refine wpAny_execs_nil ⟨rfl, ?_⟩
  refine q i dx _ ?_ (get_slotF hx2) ?_
  · refine (k1.trans k2).upd (o := instObj a dx) ?_ hx2 (.inl fun vs z => by injection z) (Heap.SameBut.update _ _ _) (Nat.le_succ _)
    rw [← hi]
    cases e : h.get? (h.objs.size + 1) with
    | none => rw [← hdx]; exact e
    | some o => exact absurd (Heap.lt_size e) (Nat.not_lt.mpr (Nat.le_succ _))
  · exact (Heap.SameBut.update h' i (slotF 0 v)).extBut dx _ (fun z => by rw [z, hx2] at hd2; cases hd2) hd2
end
end Mine
end
section
open PySem PySem.Calls PySem.W PyProof.Rows
namespace Mine
variable [iO : Old]
theorem Ev.slot {c : Cx} {k : Nat} {env : Env} {σ : Loc} {n attr : Str} {np pos : Pos} {x C p dx : Addr} {ox od : Obj} {i : Nat} {t : Str} {tt : Tok} (hx : Ev c k env σ (.Name n np) (.v (.ref x)))
    (l1 : List.lookup x c.K = some ox) (l2 : List.lookup dx c.K = some od) (hc : ox.cls = .ref C) (hd : ox.dict = some dx) (hn : notCls ox = true) (ga : findIn c.K (.ref C) "__getattribute__" = some (some (.builtin "object.__getattribute__"))) (gn : findIn c.K (.ref C) "__getattr__" = some none)
    (hf : findObj c.K C (some od) attr = some (.bind (.builtin "member_descriptor.__get__") (.ref p))) (hp : slotIn c.K p C = some i) (hv : (ox.slots[i]?).join = some (.str t tt)) : Ev c k env σ (.Attribute (.Name n np) attr pos) (.d (.str t)) := by
  constructor; intro A F s R G g L
  refine Attribute_Name_ ((hx.run A F s R G g L).use fun v s₁ k₁ t₁ h₁ => ?_)
  obtain rfl : v = .ref x := h₁
  have g₁ := g.ks k₁ t₁
  refine get_slot g₁.inK ⟨g₁.inK _ _ l1, hc, hn, by rw [hd]; exact g₁.inK _ _ l2⟩ ga gn hf hp hv rfl ⟨k₁.trans Ks.tok, .str _ _⟩
theorem FnC.up {c c' : Cx} {k : Nat} {f : Value} {es : List Ent} {e : Ent} (x : FnC c k f es e) (hp : c'.prog = c.prog) (hw : c'.w = c.w) (u : ∀ b o, List.lookup b c.K = some o → List.lookup b c'.K = some o) : FnC c' k f es e := by
  constructor; intro A F s vs R g h
  rw [hp, hw]
  refine x.run A F s vs R ⟨⟨fun b o e => g.inK b o (u b o e), ?_, g.gl, g.bi, g.lim, g.tab, fun b o e => g.nf b o (u b o e), g.bm, g.old⟩, g.tok, g.fr⟩ h
  cases e : List.lookup tab0 c.K with
  | none => rfl
  | some o =>
    have := u _ _ e
    rw [show List.lookup tab0 c'.K = none from g.no] at this; injection this
theorem Gd.up {K K' : Frag} {fr : Option (List Env)} {s : Shared} (g : Gd K fr s) (X : Frag.In K' s.heap) (h0 : List.lookup tab0 K' = none) (nf : ∀ b o, List.lookup b K' = some o → NFr o) : Gd K' fr s := ⟨⟨X, h0, g.gl, g.bi, g.lim, g.tab, nf, g.bm, g.old⟩, g.tok, g.fr⟩
noncomputable def KInst (h : Heap) (a x : Addr) (t : Str) : Prop := ∃ dx tt, h.get? x = some { instObj a dx with slots := #[some (.str t tt)] } ∧ h.get? dx = some emptyDict
section
variable {c : Cx} {A : Around} {E : Value → Shared → Prop} {s : Shared} {K : Frag} {a ns d f0 f1 cc x y q : Addr} {a0 a1 : Arguments} {b0 b1 : List Stmt} {s0 s1 : Scope} {k : Nat} {t u : Str} {n : Int}
theorem lt_call {Q : Value → Shared → Prop} (R : Room (k + 2) A) (F : KFr K a ns d f0 f1 cc (.ref q) a0 b0 s0 a1 b1 s1) (g : Gd c.K A.frames s) (up : ∀ b o, List.lookup b c.K = some o → List.lookup b K = some o) (X : Frag.In K s.heap) (h0 : List.lookup tab0 K = none) (nf : ∀ b o, List.lookup b K = some o → NFr o)
    (hcell : s.heap.IsCell cc (some (.ref q))) (ct : cc ≠ tab0) (hx : KInst s.heap a x t) (hy : KInst s.heap a y u) (hq : FnC c (k + 1) (.ref q) [.d (.str t), .d (.str u)] (.d (.int n))) (hok : ∀ K' : Frag, (∀ b o, List.lookup b c.K = some o → List.lookup b K' = some o) → keepIn K' (.ref q) = true)
    {p1 p2 p3 p4 p5 p6 p7 p8 p9 : Pos} {m : Nat} (hb1 : b1 = [.Return (some (.Compare (.Call (.Name "mycmp" p1) [.Attribute (.Name "self" p2) "obj" p3, .Attribute (.Name "other" p4) "obj" p5] [] p6) [.Lt] [.Constant (.int 0) m p7] p8)) p9])
    (hs1 : s1.kind = .function) (hn1 : s1.names = [(("self" : Str), .local), (("other" : Str), .local), (("mycmp" : Str), .free)]) (hco : s1.isCoroutine = false) (hgen : s1.isGenerator = false)
    (hbd : ∀ (nm q : Str) (b : List Stmt) (sc : Scope) (cl : List (Str × Addr)) (doc pm cd ct x y : Value), bindArgs (fnX nm q a1 b sc cl .none .none doc pm none cd ct) ⟨[x, y], []⟩ = pure [(("self" : Str), x), (("other" : Str), y)])
    (kk : ∀ s', KsT s s' → Q (.bool (decide (n < 0))) s') : wpAny (model c.prog c.w) A (call (.ref f1) [.ref x, .ref y]) Q E s := by
  obtain ⟨dx, tx, e1, e2⟩ := hx
  obtain ⟨dy, ty, e3, e4⟩ := hy
  obtain ⟨In2, hm, up2⟩ := frag_add (l := [(x, { instObj a dx with slots := #[some (.str t tx)] }), (dx, emptyDict), (y, { instObj a dy with slots := #[some (.str u ty)] }), (dy, emptyDict)]) (K := K) (h := s.heap) (fa e1 (fa e2 (fa e3 (fa e4 fan)))) X
  have no2 := frag_tab (l := [(x, { instObj a dx with slots := #[some (.str t tx)] }), (dx, emptyDict), (y, { instObj a dy with slots := #[some (.str u ty)] }), (dy, emptyDict)]) (K := K) (h := s.heap) (fa e1 (fa e2 (fa e3 (fa e4 fan)))) (fa (fun z => by injection z) (fa (show Value.type "dict" ≠ .none by decide) (fa (fun z => by injection z) (fa (show Value.type "dict" ≠ .none by decide) fan)))) h0 g.tab.obj
  have nf2 := frag_nf (l := [(x, { instObj a dx with slots := #[some (.str t tx)] }), (dx, emptyDict), (y, { instObj a dy with slots := #[some (.str u ty)] }), (dy, emptyDict)]) (K := K) (fa (fun z => by injection z) (fa (nfr_of (T := "dict") rfl) (fa (fun z => by injection z) (fa (nfr_of (T := "dict") rfl) fan)))) nf
  have l1 := hm _ (.head _)
  have l2 := hm _ (.tail _ (.head _))
  have l3 := hm _ (.tail _ (.tail _ (.head _)))
  have l4 := hm _ (.tail _ (.tail _ (.tail _ (.head _))))
  generalize ([(x, { instObj a dx with slots := #[some (.str t tx)] }), (dx, emptyDict), (y, { instObj a dy with slots := #[some (.str u ty)] }), (dy, emptyDict)] ++ K : Frag) = K2 at *
  have F2 := F.up up2
  have g2 : Gd K2 A.frames s := g.up In2 no2 nf2
  obtain ⟨doc, pm, ci, ctv, hf1, hci⟩ := F2.l1.ex
  let c2 : Cx := ⟨c.prog, c.w, K2⟩
  have hq2 : FnC c2 (k + 1) (.ref q) [.d (.str t), .d (.str u)] (.d (.int n)) := hq.up rfl rfl fun b o e => up2 b o (up b o e)
  refine wpAny_call (raw_call R.depth g.tab g.lim (In2 _ _ hf1) rfl hco hgen rfl (codeRec_of In2 hci) hs1 (hbd _ _ _ _ _ _ _ _ _ _ _) (fun z hz => ?_) (fun z hz => ?_) fun L h' nL Lt hn hfr k2 => ?_)
  · rw [show (fnX "__lt__" "cmp_to_key.<locals>.K.__lt__" a1 b1 s1 [(("mycmp" : Str), cc)] Value.none Value.none doc pm none (.ref ci) ctv).scope = s1 from rfl, hn1] at hz
    simp only [List.mem_cons, List.not_mem_nil, or_false] at hz
    rcases hz with rfl | rfl | rfl <;> decide
  · show s1.names.lookup z.1 = _
    rw [hn1]
    simp only [List.mem_cons, List.not_mem_nil, or_false] at hz
    rcases hz with rfl | rfl <;> rfl
  have g3' : Gd c2.K A.frames { s with heap := h', toks := s.toks + [(("self" : Str), Value.ref x), (("other" : Str), Value.ref y)].length } := k2.gd g2
  have g3 : Gd c2.K (A.deeper (rawEnv (fnX "__lt__" "cmp_to_key.<locals>.K.__lt__" a1 b1 s1 [(("mycmp" : Str), cc)] Value.none Value.none doc pm none (.ref ci) ctv) L f1)).frames { s with heap := h', toks := s.toks + [(("self" : Str), Value.ref x), (("other" : Str), Value.ref y)].length } := ⟨g3'.toGdH, g3'.tok, g3'.fr.deeper (by show s1.kind ≠ _; rw [hs1]; decide) rfl Lt (g.nold nL) hfr⟩
  have kind : ∀ z, (rawEnv (fnX "__lt__" "cmp_to_key.<locals>.K.__lt__" a1 b1 s1 [(("mycmp" : Str), cc)] Value.none Value.none doc pm none (.ref ci) ctv) L f1).kindOf z = ([(("self" : Str), NameKind.local), (("other" : Str), .local), (("mycmp" : Str), .free)] : List (Str × NameKind)).lookup z := fun z => by
    show s1.names.lookup z = _; rw [hn1]
  have G : EnvG (rawEnv (fnX "__lt__" "cmp_to_key.<locals>.K.__lt__" a1 b1 s1 [(("mycmp" : Str), cc)] Value.none Value.none doc pm none (.ref ci) ctv) L f1) := ⟨hs1, rfl, rfl⟩
  have hcl : (rawEnv (fnX "__lt__" "cmp_to_key.<locals>.K.__lt__" a1 b1 s1 [(("mycmp" : Str), cc)] Value.none Value.none doc pm none (.ref ci) ctv) L f1).cells = [(("mycmp" : Str), cc)] := rfl
  have hloc : (rawEnv (fnX "__lt__" "cmp_to_key.<locals>.K.__lt__" a1 b1 s1 [(("mycmp" : Str), cc)] Value.none Value.none doc pm none (.ref ci) ctv) L f1).locals = L := rfl
  have hR := R.deeper (rawEnv (fnX "__lt__" "cmp_to_key.<locals>.K.__lt__" a1 b1 s1 [(("mycmp" : Str), cc)] Value.none Value.none doc pm none (.ref ci) ctv) L f1)
  generalize rawEnv (fnX "__lt__" "cmp_to_key.<locals>.K.__lt__" a1 b1 s1 [(("mycmp" : Str), cc)] Value.none Value.none doc pm none (.ref ci) ctv) L f1 = env at *
  have hcell2 : h'.IsCell cc (some (.ref q)) := IsCell.kp k2.1.kp ct hcell
  have Ly : Lay env [(("self" : Str), .v (.ref x)), (("other" : Str), .v (.ref y)), (("mycmp" : Str), .v (.ref q))] (fun _ => False) h' := by
    refine ⟨⟨_, by rw [hloc]; exact hn, fun z e hz => ?_⟩, fun z => z, by rw [hloc]; exact Lt, fun z cz hz => ?_, fun z1 z2 cz h1 h2 => ?_⟩
    · simp only [List.lookup_cons] at hz
      by_cases q1 : z = "self"
      · subst q1
        rw [show (("self" : Str) == "self") = true from beq_self_eq_true _] at hz
        cases hz
        exact ⟨.ref x, rfl, .inl ⟨by rw [kind]; rfl, rfl⟩⟩
      · rw [beq_false_of_ne q1] at hz
        by_cases q2 : z = "other"
        · subst q2
          rw [show (("other" : Str) == "other") = true from beq_self_eq_true _] at hz
          cases hz
          exact ⟨.ref y, rfl, .inl ⟨by rw [kind]; rfl, rfl⟩⟩
        · rw [beq_false_of_ne q2] at hz
          by_cases q3 : z = "mycmp"
          · subst q3
            rw [show (("mycmp" : Str) == "mycmp") = true from beq_self_eq_true _] at hz
            cases hz
            exact ⟨.ref q, rfl, .inr ⟨.inr (by rw [kind]; rfl), cc, by rw [hcl]; rfl, hcell2⟩⟩
          · rw [beq_false_of_ne q3] at hz; injection hz
    · rw [hcl, List.lookup_cons] at hz
      split at hz
      · cases hz; exact ⟨⟨_, hcell2⟩, fun z => z, ct⟩
      · injection hz
    · rw [hcl] at h1 h2
      have one : ∀ z, List.lookup z [(("mycmp" : Str), cc)] = some cz → z = "mycmp" := fun z h => by
        by_cases q : z = "mycmp"
        · exact q
        · rw [List.lookup_cons, beq_false_of_ne q] at h; injection h
      rw [one _ h1, one _ h2]
  rw [hb1]
  have ev : Ev c2 (k + 1) env [(("self" : Str), .v (.ref x)), (("other" : Str), .v (.ref y)), (("mycmp" : Str), .v (.ref q))] (.Compare (.Call (.Name "mycmp" p1) [.Attribute (.Name "self" p2) "obj" p3, .Attribute (.Name "other" p4) "obj" p5] [] p6) [.Lt] [.Constant (.int 0) m p7] p8) (.d (.bool (decide (n < 0)))) := by
    refine Ev.cmp (Ev.call (Ev.name rfl) (.inr (.inr (hok K2 fun b o e => up2 b o (up b o e)))) (EvAll.two (Ev.slot (Ev.name rfl) l1 l2 rfl rfl rfl F2.ga F2.gn F2.bind F2.slot rfl) (Ev.slot (Ev.name rfl) l3 l4 rfl rfl rfl F2.ga F2.gn F2.bind F2.slot rfl)) hq2) Ev.cint Op2.ltInt
  refine wpAny_execs_cons (wpAny_Return_some ((ev.run _ _ _ hR G g3 Ly).use fun v s' ks' t' hv => ?_))
  have : v = .bool (decide (n < 0)) := by cases hv; rfl
  rw [this]
  exact kk s' (k2.trans ⟨ks', t'⟩)
end
end Mine
end
section
open PySem PySem.Calls PySem.W PyProof.Rows
namespace Mine
variable [iO : Old]
structure KSrc (a0 : Arguments) (b0 : List Stmt) (s0 : Scope) (a1 : Arguments) (b1 : List Stmt) (s1 : Scope) : Prop where
  b0 : ∃ p1 p2 p3 p4 : Pos, b0 = [.Assign [.Attribute (.Name "self" p1) "obj" p2] (.Name "obj" p3) p4]
  k0 : s0.kind = .function
  n0 : s0.names = [(("self" : Str), .local), (("obj" : Str), .local)]
  c0 : s0.isCoroutine = false
  g0 : s0.isGenerator = false
  d0 : ∀ (nm q : Str) (b : List Stmt) (sc : Scope) (cl : List (Str × Addr)) (doc pm cd ct x y : Value), bindArgs (fnX nm q a0 b sc cl .none .none doc pm none cd ct) ⟨[x, y], []⟩ = pure [(("self" : Str), x), (("obj" : Str), y)]
  b1 : ∃ (p1 p2 p3 p4 p5 p6 p7 p8 p9 : Pos) (m : Nat), b1 = [.Return (some (.Compare (.Call (.Name "mycmp" p1) [.Attribute (.Name "self" p2) "obj" p3, .Attribute (.Name "other" p4) "obj" p5] [] p6) [.Lt] [.Constant (.int 0) m p7] p8)) p9]
  k1 : s1.kind = .function
  n1 : s1.names = [(("self" : Str), .local), (("other" : Str), .local), (("mycmp" : Str), .free)]
  c1 : s1.isCoroutine = false
  g1 : s1.isGenerator = false
  d1 : ∀ (nm q : Str) (b : List Stmt) (sc : Scope) (cl : List (Str × Addr)) (doc pm cd ct x y : Value), bindArgs (fnX nm q a1 b sc cl .none .none doc pm none cd ct) ⟨[x, y], []⟩ = pure [(("self" : Str), x), (("other" : Str), y)]
theorem Room.in2 {k : Nat} {A : Around} (R : Room (k + 1) A) : Room k A.in1.in1 := ⟨R.1, by have := R.2.1; show A.depth + 2 * k ≤ 999; lia, by have := R.2.2; show A.units + 1 + 1 + 40 * k ≤ 9800; lia⟩
section
variable {c : Cx} {A : Around} {E : Value → Shared → Prop} {s : Shared} {K : Frag} {a ns d f0 f1 cc q : Addr} {a0 a1 : Arguments} {b0 b1 : List Stmt} {s0 s1 : Scope} {k : Nat}
noncomputable def KP (a : Addr) (xs : List Str) (i : Nat) (kx : Value) (h : Heap) : Prop := ∃ x dx tt t, kx = .ref x ∧ xs[i]? = some t ∧ h.get? x = some { instObj a dx with slots := #[some (.str t tt)] } ∧ h.get? dx = some emptyDict ∧ x ≠ tab0 ∧ dx ≠ tab0
theorem KP.keep {a : Addr} {xs : List Str} {i : Nat} {kx : Value} {h h' : Heap} (p : KP a xs i kx h) (k : KeepNL h h') : KP a xs i kx h' := by
  obtain ⟨x, dx, tt, t, rfl, e, e1, e2, n1, n2⟩ := p
  exact ⟨x, dx, tt, t, rfl, e, k _ _ n1 (fun z => by injection z) (fun z => by injection z) e1, k _ _ n2 (nfr_of (T := "dict") rfl) (show Value.type "dict" ≠ .type "list" by decide) e2, n1, n2⟩
theorem KP.of {a x dx : Addr} {xs : List Str} {i : Nat} {h : Heap} {t : Str} {tt : Tok} (T : Tab h) (e : xs[i]? = some t) (e1 : h.get? x = some { instObj a dx with slots := #[some (.str t tt)] }) (e2 : h.get? dx = some emptyDict) : KP a xs i (.ref x) h := by
  obtain ⟨vs, hv⟩ := T.obj
  refine ⟨x, dx, tt, t, rfl, e, e1, e2, fun z => ?_, fun z => ?_⟩
  · rw [z, hv] at e1; cases e1
  · rw [z, hv] at e2
    exact absurd (congrArg Obj.cls (Option.some.inj e2)) (show Value.none ≠ Value.type "dict" by decide)
theorem lt_inst {x y : Addr} {t u : Str} {n : Int} {Q : Bool → Shared → Prop} (S : KSrc a0 b0 s0 a1 b1 s1) (R : Room (k + 2) A) (F : KFr K a ns d f0 f1 cc (.ref q) a0 b0 s0 a1 b1 s1) (g : Gd c.K A.frames s) (up : ∀ b o, List.lookup b c.K = some o → List.lookup b K = some o) (X : Frag.In K s.heap) (h0 : List.lookup tab0 K = none) (nf : ∀ b o, List.lookup b K = some o → NFr o)
    (hcell : s.heap.IsCell cc (some (.ref q))) (ct : cc ≠ tab0) (hx : KInst s.heap a x t) (hy : KInst s.heap a y u) (hq : FnC c (k + 1) (.ref q) [.d (.str t), .d (.str u)] (.d (.int n))) (hok : ∀ K' : Frag, (∀ b o, List.lookup b c.K = some o → List.lookup b K' = some o) → keepIn K' (.ref q) = true)
    (kk : ∀ s', KsT s s' → Q (decide (n < 0)) s') : wpAny (model c.prog c.w) A (keyLt' oneType' (.ref x) (.ref y)) Q E s := by
  obtain ⟨p1, p2, p3, p4, p5, p6, p7, p8, p9, m, hb1⟩ := S.b1
  obtain ⟨dx, tx, e1, e2⟩ := id hx
  have I : InstAt s.heap x { instObj a dx with slots := #[some (.str t tx)] } a (some emptyDict) := ⟨e1, rfl, rfl, e2⟩
  have hf : isFn K (.ref f1) = true := by
    obtain ⟨doc, pm, ci, ctv, hf1, hci⟩ := F.l1.ex
    show ((List.lookup f1 K).map (·.cls) == some (.type "function")) = true
    rw [hf1]; exact beq_self_eq_true _
  rw [keyLt'_oneType, oneLt'_eq]
  simp only [if_true]
  refine wpAny_bind (wpAny_cRoomFor R.units ?_)
  refine wpAny_bind (ifBound_K X I F.lt hf (lt_call R F g up X h0 nf hcell ct hx hy hq hok hb1 S.k1 S.n1 S.c1 S.g1 S.d1 fun s' k' => ?_))
  exact wpAny_truthy_bool (kk s' k')
theorem inst_of {Q : Value → Shared → Prop} {v : Value} (S : KSrc a0 b0 s0 a1 b1 s1) (R : Room (k + 1) A) {f : Value} (F : KFr K a ns d f0 f1 cc f a0 b0 s0 a1 b1 s1) (X : Frag.In K s.heap) (h0 : List.lookup tab0 K = none) (nf : ∀ b o, List.lookup b K = some o → NFr o) (T : Tab s.heap) (lim : s.heap.NoLimit)
    (q : ∀ i dx s', KsT s s' → s'.heap.get? i = some { instObj a dx with slots := #[some v] } → s'.heap.get? dx = some emptyDict → Q (.ref i) s') : wpAny (model c.prog c.w) A (call (.ref a) [v]) Q E s := by
  obtain ⟨p1, p2, p3, p4, hb0⟩ := S.b0
  exact new_inst R F X h0 nf T lim hb0 S.k0 S.n0 S.c0 S.g0 S.d0 q
theorem strs_get {vs : List Value} {xs : List Str} (h : ∀ i : Nat, ∀ x, xs[i]? = some x → ∃ t, vs[i]? = some (.str x t)) (hl : vs.length = xs.length) : ∀ (i : Nat) (v : Value), vs[i]? = some v → ∃ x t, xs[i]? = some x ∧ v = Value.str x t := fun i v e => by
  have hi := (List.getElem?_eq_some_iff.mp e).1
  have hx : xs[i]? = some (xs[i]'(by lia)) := List.getElem?_eq_getElem _
  obtain ⟨t, h2⟩ := h i _ hx
  rw [e] at h2; obtain rfl := Option.some.inj h2
  exact ⟨_, t, hx, rfl⟩
theorem sorted_K {l : Addr} {vs : List Value} {xs : List Str} {key : Nat → Int} {Q : Value → Shared → Prop} (S : KSrc a0 b0 s0 a1 b1 s1) (R : Room (k + 4) A) (F : KFr K a ns d f0 f1 cc (.ref q) a0 b0 s0 a1 b1 s1) (g : Gd c.K A.frames s) (up : ∀ b o, List.lookup b c.K = some o → List.lookup b K = some o) (X : Frag.In K s.heap) (h0 : List.lookup tab0 K = none) (nf : ∀ b o, List.lookup b K = some o → NFr o)
    (hcell : s.heap.IsCell cc (some (.ref q))) (ct : cc ≠ tab0) (hok : ∀ K' : Frag, (∀ b o, List.lookup b c.K = some o → List.lookup b K' = some o) → keepIn K' (.ref q) = true)
    (hl : s.heap.IsList l vs.toArray) (h64 : vs.length < 64) (hlen : vs.length = xs.length) (hvs : ∀ i : Nat, ∀ x, xs[i]? = some x → ∃ t, vs[i]? = some (.str x t))
    (hq : ∀ (i j : Nat) (t u : Str), xs[i]? = some t → xs[j]? = some u → ∃ n, FnC c (k + 1) (.ref q) [.d (.str t), .d (.str u)] (.d (.int n)) ∧ decide (n < 0) = kLt key i j)
    (kk : ∀ D (p : Array Nat) s' e, p.toList.Perm (List.range vs.length) → p.toList.Pairwise (SR key) → KsT s s' → s.heap.get? D = none → D ≠ tab0 → s'.heap.get? D = some (seqObj "list" (List.toArray (p.toList.map fun i => vs.getD i Value.none)) e) → Q (.ref D) s') :
    wpAny (model c.prog c.w) A (call (.builtin "sorted") [.ref l] [(("key" : Str), .ref a)]) Q E s := by
  refine m_sorted g.tab hl h64 (ksk_s1 _ _) (fun x => ksk_l1 _ _) fun D s₁ k₁ nD nt hD => ?_
  rw [show Builtin.«list.sort» ⟨[.ref D], [(("key" : Str), .ref a)]⟩ = ksk_tree D (.ref a) false from ksk_t1 a D]
  have R3 : Room (k + 3) A.in1.in1 := R.in2
  refine m_list_sortK (key := key) (κ := oneType') (KP := fun i kx h => KP a xs i kx h ) k₁ nD nt g.tab hD h64 ?keep ?call ?kind ?cmp fun p s' e hp hs k' hD' => ⟨rfl, kk D p s' e hp hs k' nD nt hD'⟩
  case keep => exact fun i kx h h' p k => p.keep k
  case call =>
    intro i v s' hv k'
    obtain ⟨x, t, hx, rfl⟩ := strs_get hvs hlen i v hv
    refine inst_of (k := k + 2) S R3 F (Frag.ks k' X h0 nf) h0 nf (k'.1.kp.tab g.tab) (NoLimit.ks k' g.lim) fun j dx s'' k'' e1 e2 => ⟨k'', KP.of (k''.1.kp.tab (k'.1.kp.tab g.tab)) hx e1 e2⟩
  case kind =>
    intro ks s' hlk h2 hks k'
    refine kas_kind (T := .ref a) (by lia) (fun v hv => ?_) rfl (by exact beq_self_eq_true _) ⟨rfl, KsT.refl _⟩
    obtain ⟨i, hi⟩ := List.getElem?_of_mem hv
    obtain ⟨x, dx, tt, t, rfl, _, e1, _⟩ := hks i v hi
    exact (Looks.ld e1).andThen .now
  case cmp =>
    intro ks i j s' hlk hks hi hj k'
    have ei : ks[i]? = some (ks[i]'(by lia)) := List.getElem?_eq_getElem _
    have ej : ks[j]? = some (ks[j]'(by lia)) := List.getElem?_eq_getElem _
    obtain ⟨x, dx, tx, t, q1, q2, q3, q4, _⟩ := hks i _ ei
    obtain ⟨y, dy, ty, u, r1, r2, r3, r4, _⟩ := hks j _ ej
    rw [List.getD_eq_getElem?_getD, List.getD_eq_getElem?_getD, ei, ej, q1, r1]
    obtain ⟨n, hn1, hn2⟩ := hq i j t u q2 r2
    refine lt_inst (k := k) S (R3.mono (by lia)) F (k'.gd g) up (Frag.ks k' X h0 nf) h0 nf (IsCell.kp k'.1.kp ct hcell) ct ⟨dx, tx, q3, q4⟩ ⟨dy, ty, r3, r4⟩ hn1 hok fun s'' k'' => ⟨k'', hn2⟩
end
end Mine
end
section
open PySem PySem.Calls PySem.W PyProof.Rows
set_option pp.maxSteps 2000
namespace Mine
variable [iO : Old]
noncomputable def C2kOk (c : Cx) : Prop := ∃ a0 b0 s0 a1 b1 s1, KSrc a0 b0 s0 a1 b1 s1 ∧ ∀ k A E Q s f, Room (k + 1) A → Gd c.K A.frames s →
  (∀ s' a ns d cc, Ks s s' → s.toks ≤ s'.toks → KCls s'.heap a ns d cc f a0 b0 s0 a1 b1 s1 → Q (.ref a) s') → wpAny (model c.prog c.w) A (call (.ref 28) [f]) Q E s
theorem clos_one {scope : Scope} {e : Env} {cc : Addr} (hc : e.cells = [(("mycmp" : Str), cc)]) (hn : scope.names = scope.names.dropLast ++ [(("mycmp" : Str), NameKind.free)]) (hl : scope.names.dropLast.all (fun p => p.2 != .free) = true) : closureFor scope e = pure [(("mycmp" : Str), cc)] := by
  unfold closureFor
  rw [hn]
  have cell : cellOf e "mycmp" = pure cc := by unfold cellOf; rw [hc]; rfl
  have go : ∀ (l : List (Str × NameKind)), l.all (fun p => p.2 != .free) = true → ∀ cs : List (Str × Addr),
      (forIn (l ++ [(("mycmp" : Str), NameKind.free)]) cs fun x __s => (do
        let cs := __s
        if x.2 == .free then (do let __x ← cellOf e x.1; pure (ForInStep.yield ((x.1, __x) :: cs))) else pure (ForInStep.yield cs) : Sem (ForInStep (List (Str × Addr))))) = pure ((("mycmp" : Str), cc) :: cs) := by
    intro l
    induction l with
    | nil =>
      intro _ cs
      rw [List.nil_append, List.forIn_cons]
      show (cellOf e "mycmp" >>= _) >>= _ = _
      rw [cell]
      rfl
    | cons p l ih =>
      intro hl cs
      rw [List.all_cons, Bool.and_eq_true] at hl
      rw [List.cons_append, List.forIn_cons]
      have : (p.2 == NameKind.free) = false := by simpa using hl.1
      rw [this]
      exact ih hl.2 cs
  exact (congrArg (· >>= fun cs => pure cs) (go _ hl [])).trans rfl
theorem clos_none {scope : Scope} {e : Env} (hl : scope.names.all (fun p => p.2 != .free) = true) : closureFor scope e = pure [] := by
  unfold closureFor
  have go : ∀ (l : List (Str × NameKind)), l.all (fun p => p.2 != .free) = true → ∀ cs : List (Str × Addr),
      (forIn l cs fun x __s => (do
        let cs := __s
        if x.2 == .free then (do let __x ← cellOf e x.1; pure (ForInStep.yield ((x.1, __x) :: cs))) else pure (ForInStep.yield cs) : Sem (ForInStep (List (Str × Addr))))) = pure cs := by
    intro l
    induction l with
    | nil => intro _ cs; rw [List.forIn_nil]
    | cons p l ih =>
      intro hl cs
      rw [List.all_cons, Bool.and_eq_true] at hl
      rw [List.forIn_cons]
      have : (p.2 == NameKind.free) = false := by simpa using hl.1
      rw [this]
      exact ih hl.2 cs
  exact (congrArg (· >>= fun cs => pure cs) (go _ hl [])).trans rfl
structure C2kSrc (c : Cx) (fd : FuncData) (nm : Str) (nt : Tok) (body : List Stmt) (pos q1 q2 q3 : Pos) (scope : Scope) (p1 p2 p3 p4 p5 p6 p7 p8 p9 p10 : Pos) (n1 n2 n3 : Nat) (mm : Str) (a0 a1 a2 a3 a4 a5 : Arguments) (b0 b1 b2 b3 b4 b5 : List Stmt) (s0 s1 s2 s3 s4 s5 : Scope) : Prop where
  H : FnOk c 28 fd [.ClassDef "K" [.Name "object" q1] [] body [] [] scope none "K" ["obj"] pos, .Return (some (.Name "K" q2)) q3] ["mycmp"]
  hb : ∀ v, bindArgs fd ⟨[v], []⟩ = pure [(("mycmp" : Str), v)]
  hC : codeHdIn c.K 27 23 = true
  hfc : fd.code = .ref 27
  hfq : fd.qualname = "cmp_to_key"
  hfn : fd.scope.names = [(("mycmp" : Str), .cell), (("K" : Str), .local), (("object" : Str), .globalImplicit)]
  hobj : nsIn c.K mainGlobals "object" = some none
  hop : nsIn c.K cStatics "thirdparty.any" = some none
  hnm : nsIn c.K mainGlobals "__name__" = some (some (.str nm nt))
  hp : pos.line = 7 ∧ pos.col = 4
  hsc : scope.kind = .class
  hcl : (scope.names.lookup ("__class__" : Str) == some NameKind.cell) = false
  hcd : (scope.names.lookup ("__classdict__" : Str) == some NameKind.cell) = false
  hclo : ∀ (e : Env) cc, e.cells = [(("mycmp" : Str), cc)] → closureFor scope e = pure [(("mycmp" : Str), cc)]
  hkn : scope.names.lookup ("__name__" : Str) = none
  hk : ∀ x ∈ ([("__module__" : Str), "__qualname__", "__firstlineno__", "__static_attributes__", "__slots__", "__hash__"] : List Str), scope.names.lookup x = some .local ∨ (scope.names.lookup x = none ∧ compilersOwnNames.contains x = true)
  hD : ∀ cc (e : Env), e.scope = scope → e.cells = [(("mycmp" : Str), cc)] → DefOk e cc "__init__" a0 s0 [] ∧ DefOk e cc "__lt__" a1 s1 [(("mycmp" : Str), cc)] ∧ DefOk e cc "__gt__" a2 s2 [(("mycmp" : Str), cc)] ∧ DefOk e cc "__eq__" a3 s3 [(("mycmp" : Str), cc)] ∧ DefOk e cc "__le__" a4 s4 [(("mycmp" : Str), cc)] ∧ DefOk e cc "__ge__" a5 s5 [(("mycmp" : Str), cc)]
  hbody : body = [.Assign [.Name "__module__" p1] (.Constant (.str mm) n1 p2) p3, .Assign [.Name "__slots__" p4] (.List [.Constant (.str "obj") n2 p5] p6) p7,
      fnSt "__init__" a0 b0 s0 ⟨11, 8, 12, 26⟩, fnSt "__lt__" a1 b1 s1 ⟨14, 8, 15, 49⟩, fnSt "__gt__" a2 b2 s2 ⟨17, 8, 18, 49⟩, fnSt "__eq__" a3 b3 s3 ⟨20, 8, 21, 50⟩, fnSt "__le__" a4 b4 s4 ⟨23, 8, 24, 50⟩, fnSt "__ge__" a5 b5 s5 ⟨26, 8, 27, 50⟩,
      .Assign [.Name "__hash__" p8] (.Constant .none n3 p9) p10]
theorem C2kSrc.ok {c : Cx} {fd : FuncData} {nm : Str} {nt : Tok} {body : List Stmt} {pos q1 q2 q3 : Pos} {scope : Scope} {p1 p2 p3 p4 p5 p6 p7 p8 p9 p10 : Pos} {n1 n2 n3 : Nat} {mm : Str} {a0 a1 a2 a3 a4 a5 : Arguments} {b0 b1 b2 b3 b4 b5 : List Stmt} {s0 s1 s2 s3 s4 s5 : Scope} (Z : C2kSrc c fd nm nt body pos q1 q2 q3 scope p1 p2 p3 p4 p5 p6 p7 p8 p9 p10 n1 n2 n3 mm a0 a1 a2 a3 a4 a5 b0 b1 b2 b3 b4 b5 s0 s1 s2 s3 s4 s5) (S : KSrc a0 b0 s0 a1 b1 s1) : C2kOk c :=
  ⟨a0, b0, s0, a1, b1, s1, S, fun k A E Q s f R g kk => call_c2k Z.H Z.hb Z.hC Z.hfc Z.hfq Z.hfn Z.hobj Z.hop Z.hnm Z.hp Z.hsc Z.hcl Z.hcd Z.hclo Z.hkn Z.hk Z.hD Z.hbody R g kk⟩
theorem c2k_src (w : World) : ∃ fd nm nt body pos q1 q2 q3 scope p1 p2 p3 p4 p5 p6 p7 p8 p9 p10 n1 n2 n3 mm a0 a1 a2 a3 a4 a5 b0 b1 b2 b3 b4 b5 s0 s1 s2 s3 s4 s5, C2kSrc (cx w) fd nm nt body pos q1 q2 q3 scope p1 p2 p3 p4 p5 p6 p7 p8 p9 p10 n1 n2 n3 mm a0 a1 a2 a3 a4 a5 b0 b1 b2 b3 b4 b5 s0 s1 s2 s3 s4 s5 ∧ KSrc a0 b0 s0 a1 b1 s1 := by
  refine' ⟨_, _, _, _, _, _, _, _, _, _, _, _, _, _, _, _, _, _, _, _, _, _, _, _, _, _, _, _, _, _, _, _, _, _, _, _, _, _, _, _, _, ⟨?H, ?hb, ?hC, ?hfc, ?hfq, ?hfn, ?hobj, ?hop, ?hnm, ?hp, ?hsc, ?hcl, ?hcd, ?hclo, ?hkn, ?hk, ?hD, ?hbody⟩, ?src⟩
  case H => (refine' ⟨⟨_, rfl, rfl⟩, rfl, rfl, rfl, rfl, rfl, rfl, rfl, rfl, _, _, _, _⟩ <;> decide)
  case hb => intro v; rfl
  case hC => kernel_rfl
  case hfc => rfl
  case hfq => rfl
  case hfn => rfl
  case hobj => rfl
  case hop => rfl
  case hnm => rfl
  case hp => exact ⟨rfl, rfl⟩
  case hsc => rfl
  case hcl => rfl
  case hcd => rfl
  case hkn => rfl
  case hbody => rfl
  case hclo => intro e cc hc; exact clos_one hc rfl rfl
  case hk =>
    intro x hx
    simp only [List.mem_cons, List.not_mem_nil, or_false] at hx
    rcases hx with rfl | rfl | rfl | rfl | rfl | rfl <;> first | exact .inl rfl | exact .inr ⟨rfl, by decide⟩
  case src => exact ⟨⟨_, _, _, _, rfl⟩, rfl, rfl, rfl, rfl, fun _ _ _ _ _ _ _ _ _ _ _ => rfl, ⟨_, _, _, _, _, _, _, _, _, _, rfl⟩, rfl, rfl, rfl, rfl, fun _ _ _ _ _ _ _ _ _ _ _ => rfl⟩
  case hD =>
    intro cc e he hc
    have kd : ∀ x, e.kindOf x = e.scope.names.lookup x := fun _ => rfl
    refine ⟨⟨rfl, rfl, rfl, clos_none rfl, ?_, ?_⟩, ⟨rfl, rfl, rfl, clos_one hc rfl rfl, ?_, ?_⟩, ⟨rfl, rfl, rfl, clos_one hc rfl rfl, ?_, ?_⟩, ⟨rfl, rfl, rfl, clos_one hc rfl rfl, ?_, ?_⟩, ⟨rfl, rfl, rfl, clos_one hc rfl rfl, ?_, ?_⟩, ⟨rfl, rfl, rfl, clos_one hc rfl rfl, ?_, ?_⟩⟩ <;> rw [kd, he] <;> first | exact .inl rfl | decide
theorem c2k_ok (w : World) : C2kOk (cx w) := by
  obtain ⟨fd, nm, nt, body, pos, q1, q2, q3, scope, p1, p2, p3, p4, p5, p6, p7, p8, p9, p10, n1, n2, n3, mm, a0, a1, a2, a3, a4, a5, b0, b1, b2, b3, b4, b5, s0, s1, s2, s3, s4, s5, Z, S⟩ := c2k_src w
  exact Z.ok S
end Mine
end
section
open PySem PySem.Calls PySem.W PyProof.Rows
namespace Mine
variable [iO : Old]
noncomputable def ordOf (key : Nat → Int) (n : Nat) : List Nat := if n = 0 then [] else (krun (kLt key) (kas_sort n)).toList
theorem ordOf_perm (key : Nat → Int) (n : Nat) : (ordOf key n).Perm (List.range n) := by
  unfold ordOf
  by_cases h : n = 0
  · rw [if_pos h, h]; exact .refl _
  · rw [if_neg h]; exact (sort_run key (by lia)).1
theorem ordOf_pw (key : Nat → Int) (n : Nat) : (ordOf key n).Pairwise (SR key) := by
  unfold ordOf
  by_cases h : n = 0
  · rw [if_pos h]; exact .nil
  · rw [if_neg h]; exact (sort_run key (by lia)).2
theorem pw_unique {R : Nat → Nat → Prop} (anti : ∀ a b, R a b → R b a → False) {l l' : List Nat} (h : l.Perm l') (h1 : l.Pairwise R) (h2 : l'.Pairwise R) : l = l' := by
  induction l generalizing l' with
  | nil => exact (List.nil_perm.mp h).symm ▸ rfl
  | cons a l ih => cases l' with
    | nil => have := h.length_eq; injection this
    | cons b l' =>
      obtain ⟨u1, v1⟩ := List.pairwise_cons.mp h1
      obtain ⟨u2, v2⟩ := List.pairwise_cons.mp h2
      have e : a = b := by
        by_cases q : a = b
        · exact q
        · exfalso
          have ma : a ∈ b :: l' := h.mem_iff.mp (.head _)
          have mb : b ∈ a :: l := h.mem_iff.mpr (.head _)
          exact anti a b (u1 b ((List.mem_cons.mp mb).resolve_left (Ne.symm q))) (u2 a ((List.mem_cons.mp ma).resolve_left q))
      subst e
      rw [ih ((List.perm_cons a).mp h) v1 v2]
theorem SR.anti {key : Nat → Int} (a b : Nat) (x : SR key a b) (y : SR key b a) : False := by unfold SR at *; lia
theorem ordOf_eq {key : Nat → Int} {n : Nat} {l : List Nat} (h : l.Perm (List.range n)) (hp : l.Pairwise (SR key)) : l = ordOf key n := pw_unique SR.anti (h.trans (ordOf_perm key n).symm) hp (ordOf_pw key n)
theorem ordOf_congr {key key' : Nat → Int} {n : Nat} (h : ∀ i j, i < n → j < n → (SR key i j ↔ SR key' i j)) : ordOf key n = ordOf key' n := by
  refine ordOf_eq (ordOf_perm key n) ((ordOf_pw key n).imp_of_mem fun {a b} ha hb x => ?_)
  have l1 : a < n := List.mem_range.mp ((ordOf_perm key n).mem_iff.mp ha)
  have l2 : b < n := List.mem_range.mp ((ordOf_perm key n).mem_iff.mp hb)
  exact (h a b l1 l2).mp x
noncomputable def sortK (xs : List Str) : List Str := (ordOf (fun i => slashes (xs.getD i "")) xs.length).map fun i => xs.getD i ""
theorem cmpI_neg (a b : Str) : decide (cmpI a b < 0) = decide (slashes a < slashes b) := by
  unfold cmpI
  by_cases h1 : slashes a < slashes b
  · have h2 : ¬ slashes b < slashes a := by lia
    simp [h1, h2]
  · by_cases h2 : slashes b < slashes a <;> simp [h1, h2]
theorem repAll_strs {F : Fz} {h : Heap} {vs : List Value} {xs : List Str} (H : RepAll F h vs (xs.map .str)) : vs.length = xs.length ∧ ∀ (i : Nat) x, xs[i]? = some x → ∃ t, vs[i]? = some (.str x t) := by
  induction xs generalizing vs with
  | nil => cases H; exact ⟨rfl, fun i x e => by injection e⟩
  | cons x xs ih =>
    cases H with
    | cons r rs =>
      obtain ⟨h1, h2⟩ := ih rs
      refine ⟨congrArg (· + 1) h1, fun i y e => ?_⟩
      cases i with
      | zero => obtain rfl := Option.some.inj e; cases r; exact ⟨_, rfl⟩
      | succ i => exact h2 i y e
theorem repAll_map {F : Fz} {h : Heap} {vs : List Value} {xs : List Str} (hl : vs.length = xs.length) (hv : ∀ (i : Nat) x, xs[i]? = some x → ∃ t, vs[i]? = some (.str x t)) : ∀ l : List Nat, (∀ i ∈ l, i < xs.length) → RepAll F h (l.map fun i => vs.getD i Value.none) ((l.map fun i => xs.getD i "").map .str) := by
  intro xs
  induction xs with
  | nil =>
    intro _
    exact .nil
  | cons i l ih =>
    intro hm
    have hi := hm i (.head _)
    have e : xs[i]? = some (xs[i]) := List.getElem?_eq_getElem hi
    obtain ⟨t, h2⟩ := hv i _ e
    refine .cons ?_ (ih fun j m => hm j (.tail _ m))
    show Rep F h (vs.getD i Value.none) (.str (xs.getD i ""))
    rw [List.getD_eq_getElem?_getD, List.getD_eq_getElem?_getD, h2, e]
    exact .str _ _
section
variable {w : World} {k : Nat} {env : Env} {σ : Loc}
theorem Ev.sortKey {x : PySem.Expr} {xs : List Str} {p0 p1 p2 p3 p4 p5 : Pos} (hs : Ev (cx w) (k + 6) env σ (.Name "sorted" p0) (.v (.builtin "sorted"))) (hx : Ev (cx w) (k + 6) env σ x (.d (.list (xs.map .str)))) (hc : Ev (cx w) (k + 6) env σ (.Name "cmp_to_key" p1) (.v (.ref 28))) (hl : Ev (cx w) (k + 6) env σ (.Name "_law_compared" p2) (.v (.ref 225)))
    (h64 : xs.length < 64) (hn : ∀ y p, x ≠ .Starred y p := by intro _ _ h; cases h) :
    Ev (cx w) (k + 6) env σ (.Call (.Name "sorted" p0) [x] [⟨some "key", .Call (.Name "cmp_to_key" p1) [.Name "_law_compared" p2] [] p3, p4⟩] p5) (.d (.list ((sortK xs).map .str))) := by
  constructor; intro A F s R G g L
  have he : eval (.Call (.Name "sorted" p0) [x] [⟨some "key", .Call (.Name "cmp_to_key" p1) [.Name "_law_compared" p2] [] p3, p4⟩] p5) env = (do callWith p5 (← eval (.Name "sorted" p0) env) [] (backTo p5 (starEach [x] env)) (backToKw p5 (keywordEach [⟨some "key", .Call (.Name "cmp_to_key" p1) [.Name "_law_compared" p2] [] p3, p4⟩] env))) := rfl
  unfold Tri
  rw [he]
  refine wpAny_bind ((hs.run A F s R G g L).use fun v s₁ k₁ t₁ h₁ => ?_)
  obtain rfl : v = .builtin "sorted" := h₁
  have g₁ := g.ks k₁ t₁
  have L₁ := L.kp k₁.kp
  refine callWith_kw ?_ (by rw [star_cons hn]; rfl) (by rw [star_cons hn]; rfl)
  refine wpAny_mono (spl R G (EvAll.one hx hn) g₁ L₁) (fun vs s₂ q => ?_) fun _ _ x => x
  obtain ⟨⟨k₂, t₂⟩, hvs⟩ := q
  obtain ⟨v, rfl, hv⟩ : ∃ v, vs = [v] ∧ Holds (F.ext s₁.heap) s₂.heap (.d (.list (xs.map .str))) v := by
    cases hvs with | cons a r => cases r; exact ⟨_, rfl, a⟩
  have g₂ := g₁.ks k₂ t₂
  have L₂ := L₁.kp k₂.kp
  refine kws_cons ?_
  refine PyProof.Rows.Call_ ((hc.run A F s₂ R G g₂ L₂).use fun fv s₃ k₃ t₃ h₃ => ?_)
  obtain rfl : fv = .ref 28 := h₃
  have g₃ := g₂.ks k₃ t₃
  have L₃ := L₂.kp k₃.kp
  refine callWith_K g₃.inK rfl (wpAny_mono (spl (es := [.v (.ref 225)]) R G (EvAll.one hl) g₃ L₃) (fun us s₄ q => ?_) fun _ _ x => x)
  obtain ⟨⟨k₄, t₄⟩, hus⟩ := q
  obtain rfl : us = [.ref 225] := by
    cases hus with | cons a r => cases r; rw [show _ = Value.ref 225 from a]
  have g₄ := g₃.ks k₄ t₄
  refine ⟨g₄.inK, ?_⟩
  obtain ⟨a0, b0, s0, a1, b1, s1, S, run⟩ := c2k_ok w
  refine run (k + 5) A _ _ s₄ (.ref 225) R g₄ fun s₅ a ns d cc k₅ t₅ C => ?_
  have g₅ := g₄.ks k₅ t₅
  obtain ⟨K, f0, f1, F2, X, h0, nf, up⟩ := KRest.frag (f := .ref 225) C.rest g₅.inK g₅.no g₅.nf g₅.tab.obj
  refine kws_nil ?_
  show wpAny _ _ (PySem.call (Value.builtin "sorted") [v] [(("key" : Str), Value.ref a)]) _ _ _
  obtain ⟨l, lv, rfl, fl, nl, il, rl⟩ := Holds.isList hv
  obtain ⟨e1, e2⟩ := repAll_strs rl
  have kv : KsT s₂ s₅ := ⟨((k₃.trans k₄).trans k₅), Nat.le_trans t₃ (Nat.le_trans t₄ t₅)⟩
  have ct : cc ≠ tab0 := fun z => by
    obtain ⟨o, e, dd⟩ := C.cell
    obtain ⟨vs, hvs⟩ := g₅.tab.obj
    rw [z, hvs] at e; obtain rfl := Option.some.inj e; injection dd
  refine sorted_K (k := k + 2) (key := fun i => slashes (xs.getD i "")) S R F2 g₅ up X h0 nf C.cell ct (fun K' u => ?_) ((by obtain ⟨o, e, c, r⟩ := il; exact ⟨o, kv.get nl e (nfr_of c), c, r⟩)) (by rw [e1]; exact h64) e1 e2 (fun i j t u hi hj => ⟨cmpI t u, compared_c w (k + 2) t u, ?_⟩) fun D p s₆ ep hp hs k₆ nD nt hD => ?_
  · obtain ⟨o, ho, fd, hf⟩ : ∃ o, List.lookup 225 (cx w).K = some o ∧ ∃ fd, o.data = .func fd := ⟨_, rfl, _, rfl⟩
    have := u _ _ ho
    obtain ⟨oc, od, oda, osl⟩ := o
    dsimp only at hf
    subst hf
    unfold keepIn
    dsimp only
    rw [this]
  · rw [cmpI_neg]
    have gi : xs.getD i "" = t := by rw [List.getD_eq_getElem?_getD, hi]; rfl
    have gj : xs.getD j "" = u := by rw [List.getD_eq_getElem?_getD, hj]; rfl
    rw [← gi, ← gj]
  · have kall : Ks s s₆ := (k₁.trans k₂).trans (kv.1.trans k₆.1)
    have nDs : s.heap.get? D = none := by
      exact ((k₁.trans k₂).trans kv.1).kp.gone nt nD
    refine ⟨kall, ?_⟩
    have hpe : p.toList = ordOf (fun i => slashes (xs.getD i "")) xs.length := ordOf_eq (by rw [← e1]; exact hp) hs
    refine Rep.mkList (.inr nDs) nt ⟨_, hD, rfl, _, rfl⟩ ?_
    rw [hpe]
    exact repAll_map e1 e2 _ fun i m => List.mem_range.mp ((ordOf_perm _ _).mem_iff.mp m)
end
end Mine
end
section
open PySem PySem.Calls PySem.W PyProof.Rows
namespace Mine
variable [iO : Old]
noncomputable abbrev pairD (a : Int) (i : Nat) : PyData := .tuple [.int a, .int i]
noncomputable def PairAt (h : Heap) (v : Value) (a b : Int) : Prop := ∃ x o n t u, v = .ref x ∧ h.get? x = some o ∧ o.cls = .type "tuple" ∧ o.data = .seq #[.int a t, .int b u] n ∧ x ≠ tab0
theorem PairAt.ks {s s' : Shared} {v : Value} {a b : Int} (p : PairAt s.heap v a b) (k : KsT s s') : PairAt s'.heap v a b := by obtain ⟨x, o, n, t, u, e, e1, e2, e3, e4⟩ := p; exact ⟨x, o, n, t, u, e, k.get e4 e1 (nfr_of e2), e2, e3, e4⟩
theorem PairAt.rep {F : Fz} {h : Heap} {v : Value} {a b : Int} (r : Rep F h v (.tuple [.int a, .int b])) : PairAt h v a b := by
  cases r with
  | tuple f n e c d r =>
    rename_i x o vs m
    obtain ⟨vs⟩ := vs
    dsimp only at r
    cases r with
    | cons r1 r =>
      cases r with
      | cons r2 r =>
        cases r
        cases r1
        cases r2
        exact ⟨_, _, _, _, _, rfl, e, c, d, n⟩
section
variable {prog : Program} {w : World} {A : Around} {E : Value → Shared → Prop} {s : Shared}
theorem lt_pair {x y : Value} {a b c d : Int} {Q : Bool → Shared → Prop} (hx : PairAt s.heap x a b) (hy : PairAt s.heap y c d) (hu : A.units < cLine) (h : ∀ s', KsT s s' → Q (decide (a < c ∨ (a = c ∧ b < d))) s') : wpAny (model prog w) A (keyLt' (tuples' true) x y) Q E s := by
  obtain ⟨xa, ox, nx, t, u, rfl, e1, e2, e3, e4⟩ := hx
  obtain ⟨ya, oy, ny, t', u', rfl, e1', e2', e3', e4'⟩ := hy
  refine kat_lt e1 e3 e1' e3' ?_
  show KatLex prog w A true _ Q [(Value.int a t, Value.int c t'), (Value.int b u, Value.int d u')] 0 s
  refine kat_cons (wpAny_eqBool_int (kat_go (fun he => kat_yes (kat_cons (wpAny_eqBool_int (kat_go (fun he2 => kat_yes (kat_nil ?_)) fun he2 => kat_no ?_)))) fun he => kat_no ?_))
  · have h1 : a = c := by simpa using he
    have h2 : b = d := by simpa using he2
    have := h s (KsT.refl s)
    rw [decide_eq_false (by lia)] at this
    exact this
  · have h1 : a = c := by simpa using he
    have h2 : b ≠ d := by simpa using he2
    refine kat_one _ _ (PyProof.Rows.lt_int ?_)
    have := h s (KsT.refl s)
    show Q (decide (b < d)) s
    rw [show decide (b < d) = decide (a < c ∨ (a = c ∧ b < d)) from decide_eq_decide.mpr (by lia)]
    exact this
  · have h1 : a ≠ c := by simpa using he
    refine oneLt_int ?_
    have := h s (KsT.refl s)
    rw [show decide (a < c) = decide (a < c ∨ (a = c ∧ b < d)) from decide_eq_decide.mpr (by lia)]
    exact this
end
theorem pairs_get {F : Fz} {h : Heap} {a : Nat → Int} {vs : List Value} {l : List Nat} (H : RepAll F h vs (l.map fun i => pairD (a i) i)) : vs.length = l.length ∧ ∀ (j i : Nat), l[j]? = some i → ∃ v, vs[j]? = some v ∧ Rep F h v (pairD (a i) i) := by
  induction l generalizing vs with
  | nil => cases H; exact ⟨rfl, fun j i e => by injection e⟩
  | cons x l ih =>
    cases H with
    | cons r rs =>
      obtain ⟨h1, h2⟩ := ih rs
      refine ⟨congrArg (· + 1) h1, fun j i e => ?_⟩
      cases j with
      | zero => obtain rfl := Option.some.inj e; exact ⟨_, rfl, r⟩
      | succ j => exact h2 j i e
theorem tups_of {h : Heap} : ∀ (vs : List Value), (∀ v ∈ vs, ∃ a b, PairAt h v a b) → ∃ fs, KatTups h vs fs ∧ fs.length = vs.length ∧ ∀ f ∈ fs, ∃ i t, f = Value.int i t := by
  intro xs
  induction xs with
  | nil =>
    intro _
    exact ⟨[], trivial, rfl, fun _ m => by cases m⟩
  | cons v vs ih =>
    intro hv
    obtain ⟨a, b, x, o, n, t, u, rfl, e1, e2, e3, e4⟩ := hv v (.head _)
    obtain ⟨fs, h1, h2, h3⟩ := ih fun w m => hv w (.tail _ m)
    exact ⟨.int a t :: fs, KatTups.cons e1 e2 e3 rfl h1, by simp [h2], fun f m => by
      rcases List.mem_cons.mp m with rfl | m
      · exact ⟨_, _, rfl⟩
      · exact h3 f m⟩
theorem lex_key {a : Nat → Int} {n i j : Nat} (hi : i < n) (hj : j < n) : (a i * n + i < a j * n + j) ↔ (a i < a j ∨ (a i = a j ∧ (i : Int) < j)) := by
  have mono : ∀ x y : Int, x < y → x * n + n ≤ y * n := fun x y h => by
    have := Int.mul_le_mul_of_nonneg_right (show x + 1 ≤ y by lia) (show (0 : Int) ≤ n by lia)
    rw [Int.add_mul, Int.one_mul] at this
    exact this
  constructor
  · intro h
    by_cases q : a i < a j
    · exact .inl q
    · by_cases q2 : a i = a j
      · rw [q2] at h; exact .inr ⟨q2, by lia⟩
      · have := mono (a j) (a i) (by lia); lia
  · rintro (h | ⟨h, h2⟩)
    · have := mono _ _ h; lia
    · rw [h]; lia
theorem sortPairs_c {c : Cx} {k n : Nat} {a : Nat → Int} (h64 : n < 64) : FnC c (k + 1) (.builtin "sorted") [.d (.list ((List.range n).map fun i => pairD (a i) i))] (.d (.list ((ordOf a n).map fun i => pairD (a i) i))) := by
  constructor; intro A F s us R g hus
  obtain ⟨v, rfl, hv⟩ : ∃ v, us = [v] ∧ Holds F s.heap (.d (.list ((List.range n).map fun i => pairD (a i) i))) v := by
    cases hus with | cons a r => cases r; exact ⟨_, rfl, a⟩
  obtain ⟨l, vs, rfl, fl, nl, il, rl⟩ := Holds.isList hv
  obtain ⟨e1, e2⟩ := pairs_get rl
  rw [List.length_range] at e1
  have at_ : ∀ i, i < n → ∃ v, vs[i]? = some v ∧ Rep F s.heap v (pairD (a i) i) := fun i hi => e2 i i (by rw [List.getElem?_range hi])
  have getv : ∀ i, i < n → ∃ v, vs.getD i Value.none = v ∧ Rep F s.heap v (pairD (a i) i) := fun i hi => by
    obtain ⟨v, h1, h2⟩ := at_ i hi
    exact ⟨v, by rw [List.getD_eq_getElem?_getD, h1]; rfl, h2⟩
  have lim64 : vs.length < 64 := by lia
  refine m_sorted (kw := []) g.tab il lim64 (args_sorted1 _) (fun x => args_list_sort _) fun D s₁ k₁ nD nt hD => ?_
  refine m_list_sort (key := fun i => a i * n + i) (κ := tuples' true) (s₀ := s) k₁ nD nt hD lim64 (fun h2 s' k' => ?_) (fun i j s' hi hj k' => ?_) fun p s' e hp hs k' hD' => ⟨rfl, k'.1, ?_⟩
  · obtain ⟨fs, f1, f2, f3⟩ := tups_of (h := s'.heap) vs fun v m => by
      obtain ⟨i, hi⟩ := List.getElem?_of_mem m
      have il := (List.getElem?_eq_some_iff.mp hi).1
      obtain ⟨v', h1, h2⟩ := at_ i (by lia)
      rw [hi] at h1; obtain rfl := Option.some.inj h1
      exact ⟨_, _, (PairAt.rep h2).ks k'⟩
    exact kat_kind (T := .type "int") f1 (by lia) (fun f m => by obtain ⟨i, t, rfl⟩ := f3 f m; exact Looks.of_pure rfl) (by decide) ⟨by rfl, KsT.refl _⟩
  · rw [e1] at hi hj
    obtain ⟨x, hx, rx⟩ := getv i hi
    obtain ⟨y, hy, ry⟩ := getv j hj
    rw [hx, hy]
    refine lt_pair ((PairAt.rep rx).ks k') ((PairAt.rep ry).ks k') R.in2.units fun s'' k'' => ⟨k'', ?_⟩
    exact decide_eq_decide.mpr (lex_key hi hj).symm
  · have hpe : p.toList = ordOf a n := by
      rw [ordOf_eq (key := fun i => a i * n + i) (n := n) (e1 ▸ hp) hs]
      refine ordOf_congr fun i j hi hj => ?_
      have h1 := lex_key (a := a) hi hj
      have h2 := lex_key (a := a) hj hi
      have ci : ((i : Int) < j) ↔ i < j := by lia
      unfold SR
      dsimp only
      rw [h1, ci]
      constructor
      · rintro (h | ⟨h, h3⟩)
        · exact h
        · lia
      · exact fun h => .inl h
    refine Rep.mkList (.inr nD) nt ⟨_, hD', rfl, _, rfl⟩ ?_
    rw [hpe]
    have go : ∀ l : List Nat, (∀ i ∈ l, i < n) → RepAll (F.ext s.heap) s'.heap (l.map fun i => vs.getD i Value.none) (l.map fun i => pairD (a i) i) := by
      intro l
      induction l with
      | nil => intro _; exact .nil
      | cons i l ih =>
        intro hm
        obtain ⟨v, h1, h2⟩ := getv i (hm i (.head _))
        refine .cons ?_ (ih fun j m => hm j (.tail _ m))
        dsimp only
        rw [h1]
        exact h2.mono (fun _ _ f => .inl f) fun b o _ nb c e => k'.get nb e c
    exact go _ fun i m => List.mem_range.mp ((ordOf_perm _ _).mem_iff.mp m)
end Mine
end
section
open PySem PySem.Calls PySem.W PyProof.Rows
namespace Mine
variable [iO : Old]
structure KpE (e : Addr) (h h' : Heap) : Prop where
  keep : ∀ b o, b ≠ e → NFr o → h.get? b = some o → h'.get? b = some o
  fr : ∀ b o, b ≠ e → o.cls = .type "frame" → h.get? b = some o → ∃ sl, h'.get? b = some { o with slots := sl } ∧ (Old.at_ b → sl = o.slots)
theorem KpE.trans {e : Addr} {a b c : Heap} (x : KpE e a b) (y : KpE e b c) : KpE e a c :=
  ⟨fun i o n q z => y.keep i o n q (x.keep i o n q z), fun i o n q z => (by obtain ⟨sl, e1, p1⟩ := x.fr i o n q z; obtain ⟨sl', e2, p2⟩ := y.fr i { o with slots := sl } n q e1; exact ⟨sl', e2, fun z => (p2 z).trans (p1 z)⟩)⟩
theorem KpE.of {e : Addr} {h h' : Heap} (k : ∀ b o, b ≠ e → h.get? b = some o → h'.get? b = some o) : KpE e h h' := ⟨fun b o n _ z => k b o n z, fun b o n _ z => ⟨o.slots, k b o n z, fun _ => rfl⟩⟩
section
variable {M : Model} {A : Around} {E : Value → Shared → Prop} {s : Shared}
theorem funFrames {l : List Env} {h : Heap} (base : Heap) (hb : ∀ a, base.get? a = none) (hl : ∀ e ∈ l, e.scope.kind ≠ .module ∧ ∃ L, e.frame = some L ∧ L ≠ tab0 ∧ ¬ Old.at_ L ∧ FrameAt h L) : h.FunFrames base l := by
  induction l with
  | nil => trivial
  | cons e l ih =>
    obtain ⟨a, L, b1, b2, _, o, es, ep, c1, c2, c3⟩ := hl e (.head _)
    exact ⟨a, ⟨L, o, b1, hb L, c1, fun vs z => by rw [c3] at z; injection z⟩, ih fun e m => hl e (.tail _ m)⟩
theorem empty_get (a : Addr) : Heap.get? { (default : Heap) with objs := #[] } a = none := by
  cases e : Heap.get? { (default : Heap) with objs := #[] } a with
  | none => rfl
  | some o => exact absurd (Heap.lt_size e) (Nat.not_lt_zero _)
theorem note_new {env : Env} {outer : List Env} {L e : Addr} {oe : Obj} {vs : Array Value} {Q : Unit → Shared → Prop} (hfr : A.frames = some (env :: outer)) (hF : FrOk A.frames s.heap) (hf : env.frame = some L)
    (he : s.heap.get? e = some oe) (hc : NFr oe) (hd : oe.data = .fields vs) (h1 : vs[1]? = some .none)
    (h : ∀ h' T ts, KpE e s.heap h' → h'.get? e = some (oe.mapFields (·.setIfInBounds 1 (.ref T))) → h'.get? T = some { cls := .type "traceback", dict := none, data := .fields ts } → ts[3]? = some (rawInt L) → s.heap.get? T = none → T ≠ e → Q () { s with heap := h' }) :
    wpAny M A (noteFrame (.ref e) env) Q E s := by
  have hsz : 1 < vs.size := (Array.getElem?_eq_some_iff.mp h1).1
  obtain ⟨l, q, hl⟩ := hF
  rw [hfr] at q; obtain rfl := Option.some.inj q
  have ff : s.heap.FunFrames { (default : Heap) with objs := #[] } (env :: outer) := funFrames _ empty_get hl
  have frs' : ∀ b ∈ (env :: outer).filterMap (·.frame), FrameAt s.heap b ∧ ¬ Old.at_ b := fun b m => by
    obtain ⟨v, hv, ev⟩ := List.mem_filterMap.mp m
    obtain ⟨_, L', b1, b2, b4, b3⟩ := hl v hv
    rw [b1] at ev; obtain rfl := Option.some.inj ev; exact ⟨b3, b4⟩
  have frs : ∀ b ∈ (env :: outer).filterMap (·.frame), FrameAt s.heap b := fun b m => (frs' b m).1
  have ne : e ∉ (env :: outer).filterMap (·.frame) := fun m => by
    obtain ⟨o, _, _, e', c', _⟩ := frs e m
    rw [he] at e'; obtain rfl := Option.some.inj e'; exact hc c'
  unfold noteFrame
  simp only [hf]
  refine wpAny_bind (wpAny_field he hd h1 ?_)
  rw [if_neg (by decide)]
  refine wpAny_bind (wpAny_frameOf_fun hfr ff hf fun h₁ hs₁ => ?_)
  refine wpAny_bind (wpAny_entryPlaceOf fun pl hpl => ?_)
  unfold EntryCells.newEntry newFields
  refine wpAny_bind (wpAny_newObj_type ?_ (hpl.sizeOk5 _ _ _ _ _))
  have k₁ : KpE e s.heap h₁ := by
    refine ⟨fun b o nb c z => ?_, fun b o nb c z => ?_⟩
    rotate_left
    · by_cases m : b ∈ (env :: outer).filterMap (·.frame)
      · obtain ⟨sl, q⟩ := hs₁.2.2 b o z
        exact ⟨sl, q, fun w => absurd w (frs' b m).2⟩
      · exact ⟨o.slots, (hs₁.2.1 b m).trans z, fun _ => rfl⟩
    refine (hs₁.2.1 b fun m => ?_).trans z
    obtain ⟨o', _, _, e', c', _⟩ := frs b m
    rw [z] at e'; obtain rfl := Option.some.inj e'; exact c c'
  have he₁ : h₁.get? e = some oe := (hs₁.2.1 e ne).trans he
  have he₂ := Heap.get?_push_of_some (h := h₁) { cls := .type "traceback", dict := none, data := .fields ([Value.none, .ref L, .none, rawInt L, .none] ++ (if pl.isEmpty then List.replicate 6 Value.none else pl)).toArray } he₁
  refine wpAny_setField he₂ hd hsz ?_
  have hTe : h₁.objs.size ≠ e := Nat.ne_of_gt (Heap.lt_size he₁)
  have hd₃ := Obj.data_mapFields hd (·.setIfInBounds 1 (Value.ref h₁.objs.size))
  refine h _ h₁.objs.size (([Value.none, .ref L, .none, rawInt L, .none] ++ (if pl.isEmpty then List.replicate 6 Value.none else pl)).toArray) (k₁.trans (KpE.of fun b o nb z => ?_)) (Heap.get?_update_self _ he₂ (Obj.isFreed_of_fields hd₃)) ?_ (by simp) ?_ hTe
  · rw [Heap.get?_update_other _ _ (Ne.symm nb)]
    exact Heap.get?_push_of_some _ z
  · rw [Heap.get?_update_other _ _ (Ne.symm hTe)]
    exact Heap.get?_push_size h₁ rfl
  · exact Heap.get?_none_of_le (by rw [hs₁.1]; exact Nat.le_refl _)
end
end Mine
end
section
open PySem PySem.Calls PySem.W PyProof.Rows
namespace Mine
variable [iO : Old]
theorem nx_entry : entryFor table "next" = some Builtin.«next» := entryFor_of_tree (by kernel_rfl)
theorem nx_kind : builtinKind "next" = none := by decide +kernel
theorem nx_plain : plainId "next" = true := by decide +kernel
theorem nx_args (a : Value) : argsOk "next" ⟨[a], []⟩ := by unfold argsOk; kernel_rfl
theorem nx_some (a : Value) : someArgs "next" 1 2 ⟨[a], []⟩ = pure [a] := by first | rfl | kernel_rfl
noncomputable def ExcAt (h : Heap) (e : Addr) : Prop := ∃ oe vs, h.get? e = some oe ∧ oe.cls = .type "StopIteration" ∧ oe.data = .fields vs ∧ vs[1]? = some .none
section
variable {prog : Program} {w : World} {A : Around} {E : Value → Shared → Prop} {s : Shared}
theorem next_item {it l : Addr} {i : Nat} {items : Array Value} {x : Value} {Q : Value → Shared → Prop} (hit : s.heap.IsListIter it l i) (hl : s.heap.IsList l items) (hx : items[i]? = some x)
    (hQ : ∀ h', h'.IsListIter it l (i + 1) → Heap.SameBut it s.heap h' → Q x { s with heap := h' }) : wpAny (model prog w) A (call (.builtin "next") [.ref it]) Q E s := by
  refine call_function_entry nx_kind nx_plain nx_entry (nx_args _) ?_
  obtain ⟨o, ho, hc, hd⟩ := id hit
  obtain ⟨ol, hol, _, nl, hdl⟩ := hl
  unfold Builtin.«next»
  refine wpAny_bind (wpAny_of_eq (nx_some _) ?_)
  refine wpAny_bind (wpAny_specialOf hit.typeIs slot_listiter_next.lookup ?_)
  rw [if_neg (by decide)]
  dsimp only
  refine wpAny_bind (wpAny_callSpecial?_slot (name := Str.ofString "__next__") hit.typeIs slot_listiter_next
    (wpAny_call_entry slot_listiter_next hit.typeIs entry_listiter_next ?_ (args_listiter_next _)))
  show wpAny _ _ (field (.ref it) 0 >>= _) _ _ s
  refine wpAny_bind (wpAny_field ho hd (x := .ref l) rfl ?_)
  show wpAny _ _ (if (Value.ref l == Value.none) = true then _ else _) _ _ s
  rw [if_neg (show ¬ ((Value.ref l == Value.none) = true) from Bool.false_ne_true)]
  show wpAny _ _ (field (.ref it) 1 >>= _) _ _ s
  refine wpAny_bind (wpAny_field ho hd (x := .int i 0) rfl ?_)
  show wpAny _ _ (seqItems? (.ref l) >>= _) _ _ s
  refine wpAny_bind (wpAny_seqItems hol hdl ?_)
  simp only [Int.toNat_natCast, hx]
  refine wpAny_bind (wpAny_setField ho hd (by simp) (wpAny_pure ⟨x, rfl, wpAny_pure ⟨_, rfl, hQ _ ?_ (Heap.SameBut.update ..)⟩⟩))
  exact ⟨_, Heap.get?_update_self _ ho (Obj.isFreed_of_fields (Obj.data_mapFields hd _)), (Obj.cls_mapFields ..).trans hc, by
    rw [Obj.data_mapFields hd]; simp [rawInt]⟩
theorem next_end {it l : Addr} {i : Nat} {items : Array Value} {Q : Value → Shared → Prop} (hh : A.handled = none) (hit : s.heap.IsListIter it l i) (hl : s.heap.IsList l items) (hx : items[i]? = none)
    (hE : ∀ h' e, Heap.ExtBut it s.heap h' → ExcAt h' e → s.heap.get? e = none → E (.ref e) { s with heap := h' }) : wpAny (model prog w) A (call (.builtin "next") [.ref it]) Q E s := by
  refine call_function_entry nx_kind nx_plain nx_entry (nx_args _) ?_
  obtain ⟨o, ho, hc, hd⟩ := id hit
  obtain ⟨ol, hol, _, nl, hdl⟩ := hl
  unfold Builtin.«next»
  refine wpAny_bind (wpAny_of_eq (nx_some _) ?_)
  refine wpAny_bind (wpAny_specialOf hit.typeIs slot_listiter_next.lookup ?_)
  rw [if_neg (by decide)]
  dsimp only
  refine wpAny_bind (wpAny_callSpecial?_slot (name := Str.ofString "__next__") hit.typeIs slot_listiter_next
    (wpAny_call_entry slot_listiter_next hit.typeIs entry_listiter_next ?_ (args_listiter_next _)))
  show wpAny _ _ (field (.ref it) 0 >>= _) _ _ s
  refine wpAny_bind (wpAny_field ho hd (x := .ref l) rfl ?_)
  show wpAny _ _ (if (Value.ref l == Value.none) = true then _ else _) _ _ s
  rw [if_neg (show ¬ ((Value.ref l == Value.none) = true) from Bool.false_ne_true)]
  show wpAny _ _ (field (.ref it) 1 >>= _) _ _ s
  refine wpAny_bind (wpAny_field ho hd (x := .int i 0) rfl ?_)
  show wpAny _ _ (seqItems? (.ref l) >>= _) _ _ s
  refine wpAny_bind (wpAny_seqItems hol hdl ?_)
  simp only [Int.toNat_natCast, hx]
  refine wpAny_bind (wpAny_rule (wpAny_bind (wpAny_setField ho hd (by simp) ?_)))
  show wpAny _ _ (newExc (.type "StopIteration") [] >>= _) _ _ _
  refine wpAny_bind ?_
  simp only [newExc, newTuple]
  refine wpAny_bind (wpAny_newObj_type ?_ (by size_fits))
  refine wpAny_bind (m := firstArgMember _ _) (wpAny_of_eq (a := Value.none) (by first | rfl | (simp only [firstArgMember]; rfl)) ?_)
  refine wpAny_newObj_type ?_ (by size_fits)
  delta raiseNew; dsimp only
  refine wpAny_bind (wpAny_handled ?_)
  rw [show A.in1.in1.handled = none from hh]
  refine wpAny_bind (wpAny_pure (wpAny_throw ?_))
  refine hE _ _ (((Heap.SameBut.update ..).extBut.push _).push _) ⟨_, _, Heap.get?_push_size _ rfl, rfl, rfl, rfl⟩ ?_
  cases e : s.heap.get? _ with
  | none => rfl
  | some o => exact absurd (Heap.lt_size e) (by simp [Heap.size_push, Heap.size_update])
end
end Mine
end
section
open PySem PySem.Calls PySem.W PyProof.Rows MeetsSeq Builtin Builtin.ObjectAttr
namespace Mine
variable [iO : Old]
noncomputable abbrev bcO (l : Addr) : Obj := { cls := .type "method-wrapper", data := .fields #[.builtin "list.__contains__", .ref l] }
theorem lc_lookup : typeLookup (.type "list") (Str.ofString "__contains__") = pure (some (.builtin "list.__contains__")) := by rw [typeLookup_type, builtinLookup_eq_fast]; kernel_rfl
theorem lc_type : typeOf (.builtin "list.__contains__") = pure (.type "wrapper_descriptor") := by show builtinType _ = _; rw [builtinType_eq_fast]; kernel_rfl
theorem wd_get : typeLookup (.type "wrapper_descriptor") (Str.ofString "__get__") = pure (some (.builtin "wrapper_descriptor.__get__")) := by rw [typeLookup_type, builtinLookup_eq_fast]; kernel_rfl
theorem wd_set : typeLookup (.type "wrapper_descriptor") (Str.ofString "__set__") = pure none := by rw [typeLookup_type, builtinLookup_eq_fast]; kernel_rfl
theorem wd_del : typeLookup (.type "wrapper_descriptor") (Str.ofString "__delete__") = pure none := by rw [typeLookup_type, builtinLookup_eq_fast]; kernel_rfl
theorem wd_slot : Slot "wrapper_descriptor" "__get__" "wrapper_descriptor.__get__" :=
  .of (owner := "wrapper_descriptor") (n := "__get__") (by rw [typeLookup_type, builtinLookup_eq_fast]; kernel_rfl) (by decide +kernel) (by decide +kernel) (by decide +kernel)
    (by first | exact .inl (by decide +kernel) | exact .inr (by decide +kernel)) (by rw [isSubtype_type]; kernel_rfl)
theorem wd_entry : entryFor table "wrapper_descriptor.__get__" = some Builtin.«wrapper_descriptor.__get__» := entryFor_of_tree (by kernel_rfl)
theorem wd_args (a b c : Value) : argsOk "wrapper_descriptor.__get__" ⟨[a, b, c], []⟩ := by unfold argsOk; kernel_rfl
theorem lc_sub : isSubtype (.type "list") (.type (".".intercalate ("list.__contains__".cutAt '.').dropLast)) = pure true := by
  rw [show ".".intercalate ("list.__contains__".cutAt '.').dropLast = "list" from by decide +kernel, isSubtype_type]; kernel_rfl
theorem nm_ok : (["__module__", "__name__", "__qualname__", "__doc__", "__annotations__"] : List Str).contains (Str.ofString "__contains__") = false := by decide +kernel
section
variable {prog : Program} {w : World} {A : Around} {E : Value → Shared → Prop} {h : Heap} {g : Array GenState} {d : Drawn} {t : Nat} {os : OsState} {a : Addr} {vs : Array Value} {n : Nat} {s : Shared}
theorem wd_call {R : Result → Shared → Prop} (hx : h.get? a = some { cls := .type "list", dict := none, data := .seq vs n, slots := #[] }) (hq : R (.ok (.ret (.ref h.objs.size))) ⟨h.push (bcO a), g, d, t, os⟩) :
    codeAny (model prog w) A (.call (.builtin "wrapper_descriptor.__get__") ⟨[.builtin "list.__contains__", .ref a, .type "list"], []⟩) R ⟨h, g, d, t, os⟩ := by
  have hT : (⟨h, g, d, t, os⟩ : Shared).TypeIs (.ref a) "list" := ⟨_, hx, rfl⟩
  have hT5 : (⟨h, g, d, t, os⟩ : Shared).TypeIs (.builtin "list.__contains__") "wrapper_descriptor" := lc_type
  have f8 := lc_sub
  refine codeAny_call_builtin wd_slot.plain wd_entry (wd_slot.check _ _ _ _ _ _ _ _ hT5 (wd_args _ _ _) ?_)
  repeat (any_goals (first | assumption | wp_step))
theorem ga_list {tk : Tok} {Q : Fin → Shared → Prop} (hx : h.get? a = some { cls := .type "list", dict := none, data := .seq vs n, slots := #[] }) (hq : Q (.done (.ret (.ref h.objs.size))) ⟨h.push (bcO a), g, d, t, os⟩) :
    wpAny (model prog w) A (Builtin.«object.__getattribute__» ⟨[.ref a, .str (Str.ofString "__contains__") tk], []⟩) Q E ⟨h, g, d, t, os⟩ := by
  have hT : (⟨h, g, d, t, os⟩ : Shared).TypeIs (.ref a) "list" := ⟨_, hx, rfl⟩
  have hT5 : (⟨h, g, d, t, os⟩ : Shared).TypeIs (.builtin "list.__contains__") "wrapper_descriptor" := lc_type
  have f4 := lc_lookup
  have f5 := lc_type
  have f6 := wd_get
  have f7 := wd_set
  have f8 := wd_del
  have f9 := nm_ok
  repeat (any_goals (first | assumption | wp_step))
  refine wd_call hx ?_
  repeat (any_goals (first | assumption | wp_step))
theorem ga_call {tk : Tok} {R : Result → Shared → Prop} (hx : h.get? a = some { cls := .type "list", dict := none, data := .seq vs n, slots := #[] }) (hq : R (.ok (.ret (.ref h.objs.size))) ⟨h.push (bcO a), g, d, t, os⟩) :
    codeAny (model prog w) A (.call (.builtin "list.__getattribute__") ⟨[.ref a, .str (Str.ofString "__contains__") tk], []⟩) R ⟨h, g, d, t, os⟩ :=
  codeAny_call_builtin F.slot_list_getattribute.plain F.entry_list_ga (F.slot_list_getattribute.check _ _ _ _ _ _ _ _ (show (⟨h, g, d, t, os⟩ : Shared).TypeIs (.ref a) "list" from ⟨_, hx, rfl⟩) (F.args_list_getattribute_2 _ _) (ga_list hx hq))
theorem attr_contains {expr : Bool} {Q : Value → Shared → Prop} (hx : h.get? a = some { cls := .type "list", dict := none, data := .seq vs n, slots := #[] }) (hq : Q (.ref h.objs.size) ⟨h.push (bcO a), g, d, t + 1, os⟩) :
    wpAny (model prog w) A (getAttr (.ref a) (Str.ofString "__contains__") expr) Q E ⟨h, g, d, t, os⟩ := by
  have hT : (⟨h, g, d, t + 1, os⟩ : Shared).TypeIs (.ref a) "list" := ⟨_, hx, rfl⟩
  have f2 := F.slot_list_getattribute.lookup
  have f3 := F.slot_list_getattribute.bind (.ref a)
  have f4 := am_list_getattr_none
  unfold getAttr
  repeat (any_goals (first | assumption | wp_step))
  rw [if_neg (by cases expr <;> exact Bool.false_ne_true)]
  repeat (any_goals (first | assumption | wp_step))
  refine ga_call hx ?_
  repeat (any_goals (first | assumption | wp_step))
theorem chk_bound (a x : Value) : checkBoundCall "list.__contains__" ⟨[a, x], []⟩ = pure () := by first | kernel_rfl | rfl
theorem mw_call {x : Value} {b : Addr} {Q : Value → Shared → Prop} (e : Value → Bool) (he : ∀ y, y ∈ vs → EqGives y x (e y)) (hb : s.heap.get? b = some (bcO a)) (hx : s.heap.get? a = some { cls := .type "list", dict := none, data := .seq vs n, slots := #[] }) (hq : Q (.bool (vs.any e)) s) : wpAny (model prog w) A (call (.ref b) [x]) Q E s := by
  refine wpAny_call (codeAny_of_tree ?_)
  show wpAny _ A.in1 (callAny (.ref b) ⟨[x], []⟩) _ _ s
  delta callAny; dsimp only
  refine wpAny_bind (wpAny_load hb ?_)
  simp only [bcO, show (Value.type "method-wrapper" == Value.type "method" || Value.type "method-wrapper" == Value.type "builtin_function_or_method" || Value.type "method-wrapper" == Value.type "method-wrapper") = true by decide, if_true]
  show wpAny _ A.in1 (if (Value.type "method-wrapper" != Value.type "method") = true then _ else _) _ _ s
  rw [if_pos (by decide)]
  refine wpAny_bind (wpAny_of_eq (a := ()) (chk_bound _ _) ?_)
  refine wpAny_bind (wpAny_pure (wpAny_pure ?_))
  exact ⟨Code.quiet_builtin _ (by decide +kernel), codeAny_builtin F.entry_list_contains (SeqInW.list_containsW a vs n none #[] x e he _ _ _ _ _ ⟨hx, hq⟩)⟩
end
end Mine
end
section
open PySem PySem.Calls PySem.W PyProof.Rows MeetsSeq
namespace Mine
variable [iO : Old]
section
variable {M : Model} {A : Around} {E : Value → Shared → Prop} {s : Shared} {K : Frag} {x C f : Addr} {ox : Obj} {od : Option Obj}
theorem next_inst {Q : Option Value → Shared → Prop} (X : K.In s.heap) (I : InstAt s.heap x ox C od) (hs : findIn K (.ref C) "__next__" = some (some (.ref f))) (hf : typeIn K (.ref f) = some (.type "function"))
    (h : wpAny M A (call (.ref f) [.ref x]) (fun v s' => Q (some v) s') (OwitStop M A Q E) s) : wpAny M A (pyNext (.ref x)) Q E s := by
  unfold pyNext
  refine wpAny_bind (wpAny_attempt (special_fn (name := "__next__") (args := []) X I hs hf (wpAny_mono h (fun v s' hq => ?_) (fun e s' he => ?_))))
  · exact wpAny_pure hq
  · refine wpAny_bind (wpAny_mono he (fun b s₂ hb => ?_) fun _ _ z => z)
    cases b with
    | true => exact wpAny_pure hb
    | false => exact wpAny_throw hb
theorem iter_inst {Q : Value → Shared → Prop} {g : Value} (X : K.In s.heap) (I : InstAt s.heap x ox C od) (hs : findIn K (.ref C) "__iter__" = some (some (.ref f))) (hf : typeIn K (.ref f) = some (.type "function")) (hn : findIn K (.ref C) "__next__" = some (some g))
    (h : wpAny M A (call (.ref f) [.ref x]) (fun v s' => v = .ref x ∧ K.In s'.heap ∧ InstAt s'.heap x ox C od ∧ Q v s') E s) : wpAny M A (pyIter (.ref x)) Q E s := by
  have fin : wpAny M A (call (.ref f) [.ref x] >>= fun v => pure (some v)) (fun r s' => ∃ v, r = some v ∧ v = .ref x ∧ K.In s'.heap ∧ InstAt s'.heap x ox C od ∧ Q v s') E s :=
    wpAny_bind (wpAny_mono h (fun v s' h' => wpAny_pure ⟨v, rfl, h'⟩) fun _ _ z => z)
  have one : ∀ refuse : Sem Value, wpAny M A (callSpecialIfBoundUnlessNone? (.ref x) "__iter__" refuse) (fun r s' => ∃ v, r = some v ∧ v = .ref x ∧ K.In s'.heap ∧ InstAt s'.heap x ox C od ∧ Q v s') E s := by
    intro refuse
    simp only [callSpecialIfBoundUnlessNone?, bindSpecialIfBound?]
    refine wpAny_holding (wpAny_bind (wpAny_bind (wpAny_bind (I.type.here ((looks_findIn X hs).here ?_)))))
    refine wpAny_bind (wpAny_askSetting (wpAny_ite ?_))
    have fin2 : wpAny M A (if (Value.ref f == Value.none) = true then (refuse >>= fun v => pure (some v)) else (call (.ref f) [.ref x] >>= fun v => pure (some v))) (fun r s' => ∃ v, r = some v ∧ v = .ref x ∧ K.In s'.heap ∧ InstAt s'.heap x ox C od ∧ Q v s') E s := by
      rw [if_neg (show ¬ ((Value.ref f == Value.none) = true) from Bool.false_ne_true)]
      exact fin
    split
    · exact wpAny_bind ((bind_fn X _ hf).here (wpAny_pure (by exact fin2)))
    · exact wpAny_tryCatch (wpAny_bind ((bind_fn X _ hf).here (wpAny_pure (by exact fin2))))
  unfold pyIter
  refine wpAny_bind (wpAny_bind (I.type.here ((looks_findIn X hs).here ?_)))
  show wpAny M A (callSpecialIfBoundUnlessNone? (.ref x) "__iter__" _ >>= _) Q E s
  refine wpAny_bind (wpAny_mono (one _) (fun r s' hr => ?_) fun _ _ z => z)
  obtain ⟨v, rfl, rfl, X', I', hv⟩ := hr
  exact wpAny_bind (wpAny_bind (I'.type.here ((looks_findIn X' hn).here (wpAny_pure hv))))
theorem stop_inst {Q : Option Value → Shared → Prop} {e : Addr} {oe : Obj} (he : s.heap.get? e = some oe) (hc : oe.cls = .type "StopIteration") (h : Q none s) : OwitStop M A Q E (.ref e) s := by
  have hT : s.TypeIs (.ref e) "StopIteration" := (show ∃ o, s.heap.get? e = some o ∧ o.cls = .type "StopIteration" from ⟨oe, he, hc⟩)
  unfold OwitStop
  refine wpAny_isInstance hT (b := true) (by rw [isSubtype_type]; kernel_rfl) ?_
  show (if true = true then Q none s else E (.ref e) s)
  rw [if_pos rfl]
  exact h
end
noncomputable def Txts : List Value → List Str → Prop
  | [], [] => True
  | v :: vs, t :: ts => (∃ k, v = .str t k) ∧ Txts vs ts
  | _, _ => False
theorem Txts.ind {P : List Value → List Str → Prop} (n : P [] []) (c : ∀ {t k vs ts}, Txts vs ts → P vs ts → P (.str t k :: vs) (t :: ts)) {vs : List Value} {ts : List Str} (r : Txts vs ts) : P vs ts := by
  induction vs generalizing ts with
  | nil => cases ts with
    | nil => exact n
    | cons t ts => exact r.elim
  | cons v vs ih => cases ts with
    | nil => exact r.elim
    | cons t ts =>
      obtain ⟨⟨k, rfl⟩, r⟩ := r
      exact c r (ih r)
theorem Txts.of {F : Fz} {h : Heap} {vs : List Value} {ts : List Str} (r : RepAll F h vs (ts.map .str)) : Txts vs ts := by
  induction ts generalizing vs with
  | nil => cases r; trivial
  | cons t ts ih =>
    cases r with
    | cons x r => cases x with
      | str _ k => exact ⟨⟨_, rfl⟩, ih r⟩
theorem Txts.len {vs : List Value} {ts : List Str} (r : Txts vs ts) : vs.length = ts.length := Txts.ind (P := fun vs ts => vs.length = ts.length) rfl (fun _ r => congrArg (· + 1) r) r
theorem Txts.get {vs : List Value} {ts : List Str} {i : Nat} {t : Str} (r : Txts vs ts) (e : ts[i]? = some t) : ∃ k, vs[i]? = some (.str t k) := by
  refine Txts.ind (P := fun vs ts => ∀ i : Nat, ts[i]? = some t → ∃ k, vs[i]? = some (.str t k)) (fun i e => by injection e) (fun _ ih i e => ?_) r i e
  cases i with
  | zero => obtain rfl := Option.some.inj e; exact ⟨_, rfl⟩
  | succ i => exact ih i e
noncomputable def txtIs (t : Str) : Value → Bool
  | .str u _ => decide (u = t)
  | _ => false
theorem Txts.any {t : Str} {vs : List Value} {ts : List Str} (r : Txts vs ts) : vs.any (txtIs t) = ts.any (· == t) := by
  refine Txts.ind (P := fun vs ts => vs.any (txtIs t) = ts.any (· == t)) rfl (fun _ ih => ?_) r
  rw [List.any_cons, List.any_cons, ih]
  congr 1
theorem Txts.mem {v : Value} {vs : List Value} {ts : List Str} (r : Txts vs ts) (m : v ∈ vs) : ∃ u k, v = .str u k := by
  refine Txts.ind (P := fun vs _ => v ∈ vs → ∃ u k, v = .str u k) (fun m => by cases m) (fun _ ih m => ?_) r m
  rcases List.mem_cons.mp m with rfl | m
  · exact ⟨_, _, rfl⟩
  · exact ih m
theorem bc_c {c : Cx} {k : Nat} {b a : Addr} {vs : List Value} {n : Nat} {sk : List Str} {t : Str} (l1 : List.lookup b c.K = some (bcO a)) (l2 : List.lookup a c.K = some (llObj vs n)) (hT : Txts vs sk) : FnC c k (.ref b) [.d (.str t)] (.d (.bool (sk.any (· == t)))) := by
  constructor; intro A F s ws R g h
  cases h with
  | cons hx r =>
    cases r
    cases hx with
    | str _ kt =>
      refine mw_call (e := txtIs t) (fun y hy => ?_) (g.inK _ _ l1) (g.inK _ _ l2) ⟨Ks.refl _, ?_⟩
      · obtain ⟨u, ku, rfl⟩ := hT.mem (by simpa using hy)
        exact fun prog w A E s Q q => wpAny_eqBool_str q
      · have : vs.toArray.any (txtIs t) = sk.any (· == t) := by rw [List.any_toArray]; exact hT.any
        rw [this]; exact .bool _
end Mine
end
section
open PySem PySem.Calls PySem.W PyProof.Rows
namespace Mine
variable [iO : Old]
structure KpL (N : List Addr) (h h' : Heap) : Prop where
  keep : ∀ b o, b ∉ N → NFr o → h.get? b = some o → h'.get? b = some o
  fr : ∀ b o, b ∉ N → o.cls = .type "frame" → h.get? b = some o → ∃ sl, h'.get? b = some { o with slots := sl } ∧ (Old.at_ b → sl = o.slots)
theorem KpL.trans {N : List Addr} {a b c : Heap} (x : KpL N a b) (y : KpL N b c) : KpL N a c :=
  ⟨fun i o n q z => y.keep i o n q (x.keep i o n q z), fun i o n q z => (by obtain ⟨sl, e1, p1⟩ := x.fr i o n q z; obtain ⟨sl', e2, p2⟩ := y.fr i { o with slots := sl } n q e1; exact ⟨sl', e2, fun z => (p2 z).trans (p1 z)⟩)⟩
theorem KpL.of {N : List Addr} {h h' : Heap} (k : ∀ b o, b ∉ N → h.get? b = some o → h'.get? b = some o) : KpL N h h' := ⟨fun b o n _ z => k b o n z, fun b o n _ z => ⟨o.slots, k b o n z, fun _ => rfl⟩⟩
theorem KpL.ofE {N : List Addr} {e : Addr} {h h' : Heap} (x : KpE e h h') (m : e ∈ N) : KpL N h h' := ⟨fun b o n => x.keep b o fun z => n (z ▸ m), fun b o n => x.fr b o fun z => n (z ▸ m)⟩
theorem Kp.thenL {N : List Addr} {h₀ h h' : Heap} (k : Kp h₀ h) (n : ∀ e ∈ N, h₀.get? e = none ∧ ∀ o, h.get? e = some o → Soft o) (x : KpL N h h') : Kp h₀ h' := by
  refine ⟨fun b o nb c z => x.keep b o (fun q => by rw [(n b q).1] at z; injection z) c (k.keep b o nb c z), fun b o nb c z => ?_, fun t => ?_⟩
  · obtain ⟨sl, e1, p1⟩ := k.fr b o nb c z
    obtain ⟨sl', e2, p2⟩ := x.fr b { o with slots := sl } (fun q => by rw [(n b q).1] at z; injection z) c e1
    exact ⟨sl', e2, fun z => (p2 z).trans (p1 z)⟩
  · refine (k.tab t).but (P := fun b => b ∈ N ∨ ∃ o, h.get? b = some o ∧ o.cls = .type "frame") (fun a o p ha => ?_) fun b o p hb => ?_
    · rcases p with p | ⟨o', e', c'⟩
      · exact (n a p).2 o ha
      · rw [e'] at ha; obtain rfl := Option.some.inj ha
        exact .inr ⟨by rw [c']; decide, by rw [c']; decide⟩
    · exact x.keep b o (fun z => p (.inl z)) (fun z => p (.inr ⟨o, hb, z⟩)) hb

noncomputable def hide (it : Addr) (h : Heap) : Heap := h.update it fun o => { o with data := .freed }
theorem hide_self {it : Addr} {h : Heap} : (hide it h).get? it = none := by
  unfold hide Heap.update Heap.get?
  dsimp only
  rw [Array.getElem?_modify, if_pos rfl]
  cases h.objs[it]? <;> rfl
theorem hide_other {it b : Addr} {h : Heap} (n : b ≠ it) : (hide it h).get? b = h.get? b := Heap.get?_update_other _ _ (Ne.symm n)
theorem Ns.hide {it a : Addr} {h : Heap} {m} (x : h.Ns a m) (n : a ≠ it) : (Mine.hide it h).Ns a m := by obtain ⟨o, es, ep, e, r⟩ := x; exact ⟨o, es, ep, (hide_other n).trans e, r⟩
theorem GdH.hide {K : Frag} {it : Addr} {h : Heap} (g : GdH K h) (n : List.lookup it K = none) (so : ∃ o, h.get? it = some o ∧ Soft o) (nd : ∀ m, ¬ h.Ns it m) (nm : ∀ o, h.get? it = some o → o.cls ≠ .type "module") (no : ¬ Old.at_ it) : GdH K (Mine.hide it h) := by
  obtain ⟨a, b, ⟨mg, c⟩, ⟨mb, d, e⟩, ⟨mc, f1, f2⟩, t, nf, ⟨mg', bb, ob, x1, x2, x3, x4, x5, x6⟩, od⟩ := g
  have ne : ∀ {a m}, h.Ns a m → a ≠ it := fun {a m} x z => nd m (z ▸ x)
  refine ⟨fun i o q => (hide_other fun z => by rw [z, n] at q; injection q).trans (a i o q), b, ⟨mg, Ns.hide c (ne c)⟩, ⟨mb, Ns.hide d (ne d), e⟩, ⟨mc, Ns.hide f1 (ne f1), f2⟩, ?_, nf, ⟨mg', bb, ob, Ns.hide x1 (ne x1), x2, x3, x4, (hide_other fun z => nm ob (by rw [← z]; exact x5) x6.1).trans x5, x6⟩, fun i z => (by obtain ⟨o, e⟩ := od i z; exact ⟨o, (hide_other (b := i) fun q => no (by rw [← q]; exact z)).trans e⟩)⟩
  obtain ⟨o, ho, so⟩ := so
  exact t.one ho so fun b o n e => (hide_other n).trans e
structure KI (it : Addr) (s s' : Shared) : Prop where
  sh : ∃ h' tk, s' = { s with heap := h', toks := tk }
  tk : s.toks ≤ s'.toks
  kp : Kp (hide it s.heap) s'.heap
theorem Kp.hid {it : Addr} {h₀ h : Heap} (k : Kp h₀ h) (n : h₀.get? it = none) (so : ∀ o, h.get? it = some o → Soft o) : Kp h₀ (hide it h) :=
  k.thenL (N := [it]) (fun e m => by rw [List.mem_singleton.mp m]; exact ⟨n, so⟩) (KpL.of fun b o n e => (hide_other fun z => n (List.mem_singleton.mpr z)).trans e)
theorem KI.ks {it : Addr} {s₀ s s' : Shared} (x : KI it s s') (k : Ks s₀ s) (n : s₀.heap.get? it = none) (so : ∀ o, s.heap.get? it = some o → Soft o) : Ks s₀ s' := by
  obtain ⟨h₁, t₁, rfl, k₁⟩ := k
  obtain ⟨⟨h', tk, rfl⟩, _, kp⟩ := x
  exact ⟨h', tk, rfl, (k₁.hid n so).trans kp⟩

noncomputable def Traced (h : Heap) (e T : Addr) (f : Value) : Prop :=
  ∃ oe vs oT ts, h.get? e = some oe ∧ oe.cls = .type "StopIteration" ∧ oe.data = .fields vs ∧ vs[1]? = some (.ref T) ∧ T ≠ e ∧ h.get? T = some oT ∧ oT.cls = .type "traceback" ∧ oT.data = .fields ts ∧ ts[3]? = some f
section
variable {M : Model} {A : Around} {E : Value → Shared → Prop} {s : Shared} {e T : Addr} {f : Value}
theorem flight_set {fr : Option Addr} {Q : Unit → Shared → Prop} (x : Traced s.heap e T f) (k : ∀ h', KpL [e, T] s.heap h' → Traced h' e T (fr.elim .none fun f => rawInt f) → Q () { s with heap := h' }) : wpAny M A (setFlight (.ref e) fr) Q E s := by
  obtain ⟨oe, vs, oT, ts, he, hc, hd, h1, hTe, hT, hTc, hTd, h3⟩ := x
  have hsz : 3 < ts.size := (Array.getElem?_eq_some_iff.mp h3).1
  unfold setFlight
  refine wpAny_bind (wpAny_field he hd h1 ?_)
  rw [if_pos (show (Value.ref T != Value.none) = true from by simp)]
  have hd3 := Obj.data_mapFields hTd (·.setIfInBounds 3 (fr.elim Value.none fun f => rawInt f))
  refine wpAny_setField hT hTd hsz (k _ (KpL.of fun b o n z => ?_) ⟨oe, vs, _, _, ?_, hc, hd, h1, hTe, Heap.get?_update_self _ hT (Obj.isFreed_of_fields hd3), (Obj.cls_mapFields ..).trans hTc, hd3, ?_⟩)
  · rw [Heap.get?_update_other _ _ fun q => n (by rw [q]; exact .tail _ (.head _))]; exact z
  · rw [Heap.get?_update_other _ _ hTe]; exact he
  · simp [hsz]
theorem note_again {env : Env} {L : Addr} {Q : Unit → Shared → Prop} (x : Traced s.heap e T (rawInt L)) (hf : env.frame = some L) (k : Q () s) : wpAny M A (noteFrame (.ref e) env) Q E s := by
  obtain ⟨oe, vs, oT, ts, he, hc, hd, h1, hTe, hT, hTc, hTd, h3⟩ := x
  unfold noteFrame
  simp only [hf]
  refine wpAny_bind (wpAny_field he hd h1 ?_)
  rw [if_pos (show (Value.ref T != Value.none) = true from by simp)]
  refine wpAny_bind (wpAny_field hT hTd h3 ?_)
  rw [if_pos (show (rawInt L == rawInt L) = true from by simp)]
  exact wpAny_pure k
end
end Mine
end
section
open PySem PySem.Calls PySem.W PyProof.Rows
namespace Mine
variable [iO : Old]
section
variable {c : Cx} {k : Nat} {env : Env} {W X : List Addr} {σ : Loc} {it l : Addr} {i : Nat} {items : Array Value} {A : Around} {s₀ s : Shared} {F₀ : Fz}
theorem next_turn {x t : Str} {kt : Tok} {p1 p2 p3 p4 : Pos} {slotE : PySem.Expr} (R : Room k A) (G : EnvG env) (g : GdS c.K A.frames s₀ s) (I : InFn s₀ F₀ W X env σ s) (hk : CanStore env W x) (mX : it ∈ X) (nW : it ∉ W)
    (hc : ∀ y cc, env.cells.lookup y = some cc → cc ≠ it) (hn : Ev c k env σ (.Name "next" p2) (.v (.builtin "next"))) (hs : Ev c k env σ slotE (.v (.ref it))) (ns : ∀ y p, slotE ≠ .Starred y p)
    (hit : s.heap.IsListIter it l i) (hl : s.heap.IsList l items) (nlt : l ≠ tab0) (hx : items[i]? = some (.str t kt)) :
    wpAny (model c.prog c.w) A (exec (.Assign [.Name x p1] (.Call (.Name "next" p2) [slotE] [] p3) p4) env)
      (fun f s' => f = .next ∧ InFn s₀ F₀ W X env ((x, .d (.str t)) :: σ) s' ∧ KB (it :: W) s s' ∧ s'.heap.IsListIter it l (i + 1)) (fun _ _ => False) s := by
  have nit : it ≠ tab0 := fun z => I.nmu (z ▸ List.mem_append_right _ mX)
  refine wpAny_Assign_Name (PyProof.Rows.Call_ (hn.here R G g I fun fv s₁ I₁ h₁ k₁ t₁ => ?_)) rfl
  obtain rfl : fv = .builtin "next" := h₁
  have hst : starEach [slotE] env = [(false, eval slotE env)] := by rw [star_cons ns]; rfl
  refine callWith_builtin (by rw [hst]; rfl) ?_
  rw [hst]
  refine evalArgs_plain (spliced_cons (hs.here R G (g.ks k₁) I₁ fun v s₂ I₂ h₂ k₂ t₂ => spliced_nil ?_))
  obtain rfl : v = .ref it := h₂
  have k₁₂ := k₁.trans k₂
  have hit₂ : s₂.heap.IsListIter it l i := li_nf hit fun o c e => k₁₂.kp.keep it o nit c e
  have hl₂ : s₂.heap.IsList l items := l_nf hl fun o c e => k₁₂.kp.keep l o nlt c e
  refine next_item hit₂ hl₂ hx fun h' hit' hsb => ?_
  have kb' : KeepBut [it] s₂.heap h' := fun b o n e => hsb.extBut b o (fun z => n (z ▸ .head _)) e
  obtain ⟨ot, eo, so⟩ := listIter_soft hit₂
  have I₃ := I₂.turn (wr := [it]) (tk := s₂.toks) kb' (Nat.le_refl _) (fun a m => by rw [List.mem_singleton.mp m]; exact mX) (fun a m => by rw [List.mem_singleton.mp m]; exact nW) (fun y cc h m => hc y cc h (List.mem_singleton.mp m))
    (fun a m => by rw [List.mem_singleton.mp m]; obtain ⟨o, e, _⟩ := hit'; exact ⟨o, e⟩) (fun T => T.one eo so hsb.extBut)
  have kbT : KB [it] s₂ { s₂ with heap := h', toks := s₂.toks } := KB.turn kb' fun b m f => by
    rw [List.mem_singleton.mp m] at f
    obtain ⟨o, _, _, e, c', _⟩ := f
    obtain ⟨o', e', c'', _⟩ := hit₂
    rw [e] at e'; obtain rfl := Option.some.inj e'; rw [c'] at c''; exact absurd c'' (by decide)
  refine storeAny I₃ G hk (e := .d (.str t)) (.str _ _) fun s'' I'' kb => ⟨rfl, I'', ?_, li_nf hit' fun o c e => kb.keep it o nW nit c e⟩
  exact ((KB.ks k₁₂).trans ⟨fun b o n t c e => kbT.keep b o (fun m => n (by rw [List.mem_singleton.mp m]; exact .head _)) t c e, kbT.fr, fun L m n t h => kbT.ns L m (fun z => n (by rw [List.mem_singleton.mp z]; exact .head _)) t h⟩).trans kb.more
theorem next_stop {x : Str} {p1 p2 p3 p4 : Pos} {slotE : PySem.Expr} {Q : Flow → Shared → Prop} {E : Value → Shared → Prop} (R : Room k A) (G : EnvG env) (g : GdS c.K A.frames s₀ s) (I : InFn s₀ F₀ W X env σ s) (mX : it ∈ X)
    (hn : Ev c k env σ (.Name "next" p2) (.v (.builtin "next"))) (hs : Ev c k env σ slotE (.v (.ref it))) (ns : ∀ y p, slotE ≠ .Starred y p)
    (hit : s.heap.IsListIter it l i) (hl : s.heap.IsList l items) (nlt : l ≠ tab0) (hx : items[i]? = none)
    (hE : ∀ e s', Ks s₀ s' → s₀.toks ≤ s'.toks → ExcAt s'.heap e → s₀.heap.get? e = none → FK s s' → E (.ref e) s') :
    wpAny (model c.prog c.w) A (exec (.Assign [.Name x p1] (.Call (.Name "next" p2) [slotE] [] p3) p4) env) Q E s := by
  have nit : it ≠ tab0 := fun z => I.nmu (z ▸ List.mem_append_right _ mX)
  refine wpAny_Assign_Name (PyProof.Rows.Call_ (hn.here R G g I fun fv s₁ I₁ h₁ k₁ t₁ => ?_)) rfl
  obtain rfl : fv = .builtin "next" := h₁
  have hst : starEach [slotE] env = [(false, eval slotE env)] := by rw [star_cons ns]; rfl
  refine callWith_builtin (by rw [hst]; rfl) ?_
  rw [hst]
  refine evalArgs_plain (spliced_cons (hs.here R G (g.ks k₁) I₁ fun v s₂ I₂ h₂ k₂ t₂ => spliced_nil ?_))
  obtain rfl : v = .ref it := h₂
  have k₁₂ := k₁.trans k₂
  have hit₂ : s₂.heap.IsListIter it l i := li_nf hit fun o c e => k₁₂.kp.keep it o nit c e
  have hl₂ : s₂.heap.IsList l items := l_nf hl fun o c e => k₁₂.kp.keep l o nlt c e
  obtain ⟨ot, eo, so⟩ := listIter_soft hit₂
  refine next_end R.1 hit₂ hl₂ hx fun h' e hsb hex hnew => ?_
  have ksh : Ks s₀ { s₂ with heap := h' } := by
    obtain ⟨h₁, t₁, e₁, k₁⟩ := I₂.ks
    refine ⟨h', s₂.toks, by rw [e₁], I₂.ks.kp.andThen (fun b o o₁ n q q₁ => hsb b o₁ (fun z => ?_) q₁) fun T => (I₂.ks.kp.tab T).one eo so hsb⟩
    rw [z, I.new it (List.mem_append_right _ mX)] at q; injection q
  refine hE e _ ksh I₂.tk hex ?_ ((FK.refl s).ks k₁₂ |>.trans fun L n f => f.but eo (fun es ep z => ?_) fun b o n e => hsb b o n e)
  · cases q : s₀.heap.get? e with
    | none => rfl
    | some o =>
      by_cases z : e = tab0
      · obtain ⟨oT, eT⟩ := ((I₂.gd ((g.ks k₁).ks k₂)).tab).ex
        rw [z, eT] at hnew; injection hnew
      · obtain ⟨_, q'⟩ := I₂.ks.kp.live z q
        rw [hnew] at q'; injection q'
  · obtain ⟨o', e', _, d'⟩ := hit₂
    rw [eo] at e'; obtain rfl := Option.some.inj e'; rw [d'] at z; injection z
end
end Mine
end
section
open PySem PySem.Calls PySem.W PyProof.Rows
namespace Mine
variable [iO : Old]
section
variable {c : Cx} {k : Nat} {env : Env} {W X : List Addr} {σ : Loc} {it l : Addr} {items : Array Value} {A : Around} {s₀ s : Shared} {F₀ : Fz}
theorem ff_loop {ts : List Str} {sk : Str → Bool} {i : Nat} {L : Addr} {outer : List Env} {p0 p1 p2 p3 p4 pw : Pos} {m : Nat} {slotE : PySem.Expr} {ifS : Stmt} {Q : Flow → Shared → Prop} {E : Value → Shared → Prop}
    (R : Room k A) (G : EnvG env) (g : GdS c.K A.frames s₀ s) (I : InFn s₀ F₀ W X env σ s) (hk : CanStore env W "item") (mX : it ∈ X) (nW : it ∉ W) (hσ : σ.lookup ("item" : Str) = none)
    (hc : ∀ y cc, env.cells.lookup y = some cc → cc ≠ it) (hn : Ev c k env σ (.Name "next" p2) (.v (.builtin "next"))) (hs : Ev c k env σ slotE (.v (.ref it))) (ns : ∀ y p, slotE ≠ .Starred y p)
    (hif : ∀ t : Str, Ex1 c k env W (("item", .d (.str t)) :: σ) ifS (if sk t = true then .next (("item", .d (.str t)) :: σ) else .ret (.d (.str t))))
    (hfr : A.frames = some (env :: outer)) (hL : env.frame = some L)
    (hit : s.heap.IsListIter it l i) (hl : s.heap.IsList l items) (nlt : l ≠ tab0) (nl : l ∉ it :: W) (hT : Txts items.toList ts) (hi : i ≤ ts.length)
    (hret : ∀ j t s' v, i ≤ j → ts[j]? = some t → sk t = false → (∀ m u, i ≤ m → m < j → ts[m]? = some u → sk u = true) → Ks s₀ s' → s₀.toks ≤ s'.toks → s'.heap.IsListIter it l (j + 1) → (∃ kt, v = .str t kt) → Q (.ret v) s')
    (hend : ∀ e T s', (∀ m u, i ≤ m → ts[m]? = some u → sk u = true) → Ks s₀ s' → s₀.toks ≤ s'.toks → s₀.heap.get? e = none → s₀.heap.get? T = none → Traced s'.heap e T (rawInt L) → E (.ref e) s') :
    wpAny (model c.prog c.w) A (exec (.While (.Constant (.bool true) m p0) [.Assign [.Name "item" p1] (.Call (.Name "next" p2) [slotE] [] p3) p4, ifS] [] pw) env) Q E s := by
  have nit : it ≠ tab0 := fun z => I.nmu (z ▸ List.mem_append_right _ mX)
  refine wpAny_While (codeAny_whileLoop (fun n s' => ∃ i', n = ts.length - i' ∧ i ≤ i' ∧ i' ≤ ts.length ∧ (∀ m u, i ≤ m → m < i' → ts[m]? = some u → sk u = true) ∧ InFn s₀ F₀ W X env σ s' ∧ KB (it :: W) s s' ∧ s'.heap.IsListIter it l i') ?_ (ts.length - i) ⟨i, rfl, Nat.le_refl _, hi, fun m u a b => absurd a (by lia), I, KB.refl, hit⟩)
  rintro n s' ⟨i', rfl, hii, hit', hsk, I', kb, hit1⟩
  have ht : EvB c k env σ (.Constant (.bool true) m p0) true := EvB.plain Ev.cbool Tru.bool
  refine ht.here R G (g.kb kb) I' fun s₂ I₂ k₂ => ?_
  rw [if_pos rfl]
  have kb₂ : KB (it :: W) s s₂ := kb.trans (KB.ks k₂)
  have hit₂ : s₂.heap.IsListIter it l i' := li_nf hit1 fun o c e => k₂.kp.keep it o nit c e
  have hl₂ : s₂.heap.IsList l items := l_nf hl fun o c e => kb₂.keep l o nl nlt c e
  cases q : ts[i']? with
  | some t =>
    obtain ⟨kt, hx⟩ := hT.get q
    have hlt : i' < ts.length := (List.getElem?_eq_some_iff.mp q).1
    refine wpAny_execs_cons (wpAny_mono (next_turn R G (g.kb kb₂) I₂ hk mX nW hc hn hs ns hit₂ hl₂ nlt (by rw [← Array.getElem?_toList]; exact hx)) (fun f s₃ z => ?_) fun _ _ x => x.elim)
    obtain ⟨rfl, I₃, kb₃, hit₃⟩ := z
    have kb₃' := kb₂.trans kb₃
    have hi3 := hif t
    cases hst : sk t with
    | true =>
      rw [hst, if_pos rfl] at hi3
      refine wpAny_mono ((Ex.one hi3).run A s₀ F₀ X s₃ R G (g.kb kb₃') I₃) (fun f s₄ z => ?_) fun _ _ x => x.elim
      obtain ⟨⟨rfl, I₄⟩, kb₄⟩ := z
      refine ⟨ts.length - (i' + 1), by lia, i' + 1, rfl, by lia, hlt, fun m u a b e => ?_, I₄.sub fun y e hy => ?_, kb₃'.trans kb₄.more, li_nf hit₃ fun o c e => kb₄.keep it o nW nit c e⟩
      · by_cases z : m = i'
        · rw [z, q] at e; obtain rfl := Option.some.inj e; exact hst
        · exact hsk m u a (by lia) e
      · rw [List.lookup_cons]
        by_cases z : y = "item"
        · rw [z, hσ] at hy; injection hy
        · rw [beq_false_of_ne z]; exact hy
    | false =>
      rw [hst, if_neg (by decide)] at hi3
      refine wpAny_mono ((Ex.one hi3).run A s₀ F₀ X s₃ R G (g.kb kb₃') I₃) (fun f s₄ z => ?_) fun _ _ x => x.elim
      obtain ⟨⟨v, rfl, k', t', h'⟩, kb₄⟩ := z
      exact hret i' t s₄ v hii q hst hsk k' t' (li_nf hit₃ fun o c e => kb₄.keep it o nW nit c e) h'.isStr
  | none =>
    have hge : ts.length ≤ i' := List.getElem?_eq_none_iff.mp q
    refine wpAny_execs_cons (next_stop R G (g.kb kb₂) I₂ mX hn hs ns hit₂ hl₂ nlt (by rw [← Array.getElem?_toList]; exact List.getElem?_eq_none_iff.mpr (by rw [hT.len]; exact hge)) fun e s₃ k₃ t₃ hex hnew fk => ?_)
    obtain ⟨oe, vs, he, hcls, hd, h1⟩ := hex
    have F₃ : FrOk A.frames s₃.heap := (g.f.imp kb₂.fr).imp fk
    show wpAny (model c.prog c.w) A (noteFrame (.ref e) env) _ _ s₃
    refine note_new hfr F₃ hL he (by rw [NFr, hcls]; decide) hd h1 fun h' T tso kpe he' hT' h3 hTn hTe => ?_
    have tr : Traced h' e T (rawInt L) := by
      have hsz : 1 < vs.size := (Array.getElem?_eq_some_iff.mp h1).1
      exact ⟨_, _, _, _, he', (Obj.cls_mapFields ..).trans hcls, Obj.data_mapFields hd _, by simp [hsz], hTe, hT', rfl, rfl, h3⟩
    obtain ⟨oe', vs', oT, ts', te, tc, td, t1, tTe, tT, tTc, tTd, t3⟩ := id tr
    have nTab : T ≠ tab0 := fun z => by
      obtain ⟨oT, eT⟩ := (k₃.kp.tab (g.g.tab)).ex
      rw [z, eT] at hTn; injection hTn
    have newT : s₀.heap.get? T = none := k₃.kp.gone nTab hTn
    show wpAny (model c.prog c.w) A _ _ E { s₃ with heap := h' }
    refine wpAny_bind (wpAny_field te td t1 ?_)
    rw [if_neg (by simp)]
    rw [hL]
    refine flight_set tr fun h'' kl tr' => ?_
    have ks4 : Ks s₀ { s₃ with heap := h'' } := by
      have k3p := k₃.kp
      obtain ⟨h₁, t₁, e₁, _⟩ := k₃
      refine ⟨h'', s₃.toks, by rw [e₁], k3p.thenL (N := [e, T]) (fun a ma => ?_) ((KpL.ofE kpe (.head _)).trans kl)⟩
      rcases List.mem_cons.mp ma with rfl | ma
      · exact ⟨hnew, fun o ho => by rw [he] at ho; obtain rfl := Option.some.inj ho; exact .inr ⟨by rw [hcls]; decide, by rw [hcls]; decide⟩⟩
      · rw [List.mem_singleton.mp ma]; exact ⟨newT, fun o ho => by rw [hTn] at ho; injection ho⟩
    exact hend e T _ (fun m u a e => hsk m u a (by have := (List.getElem?_eq_some_iff.mp e).1; lia) e) ks4 t₃ hnew newT tr'
end
end Mine
end
section
open PySem PySem.Calls PySem.W PyProof.Rows
namespace Mine
variable [iO : Old]
variable (w : World)
theorem c70_next : findIn (cx w).K (.ref 70) "__next__" = some (some (.ref 66)) := by kernel_rfl
theorem c70_iter : findIn (cx w).K (.ref 70) "__iter__" = some (some (.ref 59)) := by kernel_rfl
theorem c70_init : findIn (cx w).K (.ref 70) "__init__" = some (some (.ref 52)) := by kernel_rfl
theorem c70_ga : findIn (cx w).K (.ref 70) "__getattribute__" = some (some (.builtin "object.__getattribute__")) := by kernel_rfl
theorem c70_gn : findIn (cx w).K (.ref 70) "__getattr__" = some none := by kernel_rfl
theorem c70_len : findIn (cx w).K (.ref 70) "__len__" = some none := by kernel_rfl
theorem c70_hint : findIn (cx w).K (.ref 70) "__length_hint__" = some none := by kernel_rfl
theorem c70_sa : findIn (cx w).K (.ref 70) "__setattr__" = some (some (.builtin "object.__setattr__")) := by kernel_rfl
theorem c70_pl : plainOver (cx w).K 70 = true := by kernel_rfl
end Mine
end
section
open PySem PySem.Calls PySem.W PyProof.Rows
namespace Mine
variable [iO : Old]
theorem lookup_nodup {x : Str} {v : Value} : ∀ {l : List (Str × Value)}, (l.map (·.1)).Nodup → (x, v) ∈ l → l.lookup x = some v := by
  intro xs
  induction xs with
  | nil =>
    intro _ h; cases h
  | cons a r ih =>
    obtain ⟨n, u⟩ := a
    intro hn hm
    simp only [List.map_cons, List.nodup_cons] at hn
    rw [List.lookup_cons]
    rcases List.mem_cons.mp hm with e | hm
    · cases e; rw [show (x == x) = true from beq_self_eq_true x]
    · rw [beq_false_of_ne fun z => hn.1 (by rw [← z]; exact List.mem_map_of_mem (f := (·.1)) hm)]
      exact ih hn.2 hm
section
variable {c : Cx} {k : Nat} {A : Around} {s : Shared}
theorem raw_fnC {a : Addr} {fd : FuncData} {body : List Stmt} {ns : List Str} {es : List Ent} {vals : List Value} {X : List Addr} {h₀ : Heap} {F₀ : Fz} {Rr : Result → Shared → Prop} (H : FnOk c a fd body ns) (hnc : fd.scope.names.all (fun x => x.2 != .cell) = true) (hln : ns.length = es.length)
    (R : Room (k + 1) A) (g : Gd c.K A.frames s) (g₀ : GdH c.K h₀) (k₀ : Kp h₀ s.heap) (hX : ∀ b ∈ X, h₀.get? b = none ∧ b ≠ tab0 ∧ ∃ o, s.heap.get? b = some o) (hF : ∀ b, F₀ b → ∃ o, h₀.get? b = some o) (hv : HoldsAll F₀ s.heap es vals)
    (hb : bindArgs fd ⟨vals, []⟩ = pure (ns.zip vals))
    (hx : ∀ env L s', EnvT env fd.scope.names [L] → env.frame = some L → s.heap.get? L = none → GdS c.K (A.deeper env).frames { s with heap := h₀ } s' → InFn { s with heap := h₀ } F₀ [L] X env (ns.zip es) s' → (∀ y cc, env.cells.lookup y = some cc → False) → KsT s s' →
      wpAny (model c.prog c.w) (A.deeper env) (execs body env) (fun f s' => Rr (.ok (.ret (match f with | .ret v => v | _ => .none))) s')
        (fun e s' => wpAny (model c.prog c.w) (A.deeper env) (leaving env e) (fun _ s'' => Rr (.error e) s'') (fun e' s'' => Rr (.error e') s'') s') s') :
    codeAny (model c.prog c.w) A (.call (.ref a) ⟨vals, []⟩) Rr s := by
  obtain ⟨o, ho, hd⟩ := H.ho
  have nocell : ∀ x kd, (x, kd) ∈ fd.scope.names → kd ≠ .cell := fun x kd m => by
    have := List.all_eq_true.mp hnc _ m
    simpa using this
  have loc : ∀ x ∈ ns, fd.scope.names.lookup x = some .local := fun x m => by
    rcases H.hkind x m with h | ⟨h, _⟩
    · exact h
    · exact absurd rfl (nocell _ _ (mem_of_lookup h))
  have lv : vals.length = ns.length := by rw [hv.len, hln]
  have keys : (ns.zip vals).map (·.1) = ns := by rw [List.map_fst_zip]; omega
  refine raw_call R.depth g.tab g.lim (g.inK _ _ ho) hd H.hco H.hgen H.hbody (codeRec_of g.inK H.hcode) H.hk hb (fun x hx => nocell x.1 x.2 hx) (fun x hx => loc x.1 (by rw [← keys]; exact List.mem_map_of_mem (f := (·.1)) hx)) fun L h' nL Lt hn hfr k2 => ?_
  have h0L : h₀.get? L = none := k₀.gone Lt nL
  have kp2 := k2.1.kp
  have T : EnvT (rawEnv fd L a) fd.scope.names [L] := ⟨⟨H.hk, H.hgl, H.hbi⟩, fun h _ => h, fun x hx => by
    have := List.all_eq_true.mp H.hnf _ (mem_of_lookup hx)
    simp at this, fun x hx => absurd rfl (nocell _ _ (mem_of_lookup hx))⟩
  have nocl : ∀ y cc, (rawEnv fd L a).cells.lookup y = some cc → False := fun y cc h => by
    have : (rawEnv fd L a).cells = fd.closure := rfl
    rw [this, H.hclo] at h; injection h
  have nFL : ¬ Ff F₀ h₀ ([L] ++ X) L := fun f => by
    rcases f with f | ⟨_, f⟩
    · obtain ⟨o, e⟩ := hF L f; rw [h0L] at e; injection e
    · exact f (.head _)
  have g3 : GdS c.K (A.deeper (rawEnv fd L a)).frames { s with heap := h₀ } { s with heap := h', toks := s.toks + (ns.zip vals).length } :=
    ⟨g₀, g.tok, (g.fr.kp kp2).deeper (by show fd.scope.kind ≠ _; rw [H.hk]; decide) rfl Lt (g.nold nL) hfr⟩
  refine hx (rawEnv fd L a) L _ T rfl nL g3 ⟨⟨h', _, rfl, k₀.trans kp2⟩, Nat.le_add_right _ _, ⟨⟨_, hn, fun x ex hx => ?_⟩, nFL, Lt, fun y cc h => (nocl y cc h).elim, fun y z cc h => (nocl y cc h).elim⟩, fun b m => ?_, fun b m => ?_, .head _, fun m => ?_, hF⟩ nocl k2
  · obtain ⟨v, hm, hh⟩ := (bindAll hln hv).get hx
    refine ⟨v, hh.mono (fun _ _ f => .inl f) fun a o _ n c e => kp2.keep a o n c e, .inl ⟨loc x (by rw [← keys]; exact List.mem_map_of_mem (f := (·.1)) hm), ?_⟩⟩
    exact lookup_nodup (by rw [List.map_reverse, keys]; exact (List.reverse_perm ns).nodup_iff.mpr H.hnd) (List.mem_reverse.mpr hm)
  · rcases List.mem_cons.mp m with rfl | m
    · exact h0L
    · exact (hX b m).1
  · rcases List.mem_cons.mp m with rfl | m
    · exact ns_some hn
    · obtain ⟨_, n, o, e⟩ := hX b m; exact kp2.live n e
  · rcases List.mem_cons.mp m with z | m
    · exact Lt z.symm
    · exact (hX _ m).2.1 rfl
theorem raw_fn {a : Addr} {fd : FuncData} {body : List Stmt} {ns : List Str} {es : List Ent} {vals : List Value} {X : List Addr} {h₀ : Heap} {F₀ : Fz} {Q : Value → Shared → Prop} {E : Value → Shared → Prop} (H : FnOk c a fd body ns) (hnc : fd.scope.names.all (fun x => x.2 != .cell) = true) (hln : ns.length = es.length)
    (R : Room (k + 1) A) (g : Gd c.K A.frames s) (g₀ : GdH c.K h₀) (k₀ : Kp h₀ s.heap) (hX : ∀ b ∈ X, h₀.get? b = none ∧ b ≠ tab0 ∧ ∃ o, s.heap.get? b = some o) (hF : ∀ b, F₀ b → ∃ o, h₀.get? b = some o) (hv : HoldsAll F₀ s.heap es vals)
    (hb : bindArgs fd ⟨vals, []⟩ = pure (ns.zip vals))
    (hx : ∀ env L s', EnvT env fd.scope.names [L] → env.frame = some L → s.heap.get? L = none → GdS c.K (A.deeper env).frames { s with heap := h₀ } s' → InFn { s with heap := h₀ } F₀ [L] X env (ns.zip es) s' → (∀ y cc, env.cells.lookup y = some cc → False) → KsT s s' →
      wpAny (model c.prog c.w) (A.deeper env) (execs body env) (fun f s' => Q (match f with | .ret v => v | _ => .none) s')
        (fun e s' => wpAny (model c.prog c.w) (A.deeper env) (leaving env e) (fun _ s'' => E e s'') (fun e' s'' => E e' s'') s') s') :
    wpAny (model c.prog c.w) A (call (.ref a) vals) Q E s := wpAny_call (raw_fnC H hnc hln R g g₀ k₀ hX hF hv hb hx)
end
end Mine
end
section
open PySem PySem.Calls PySem.W PyProof.Rows
namespace Mine
variable [iO : Old]
theorem Op2.isRefNone {c : Cx} {k : Nat} {b : Addr} : Op2 c k (compareOp .Is) (.v (.ref b)) (.d .none) (.d (.bool false)) := by
  constructor; intro A F s v₁ v₂ R g h₁ h₂
  obtain rfl : v₁ = .ref b := h₁
  cases h₂
  exact PyProof.Rows.is_ref_none ⟨Ks.refl _, .bool _⟩
theorem Op2.isRefType {c : Cx} {k : Nat} {b : Addr} {T : String} : Op2 c k (compareOp .Is) (.v (.ref b)) (.v (.type T)) (.d (.bool false)) := by
  constructor; intro A F s v₁ v₂ R g h₁ h₂
  obtain rfl : v₁ = .ref b := h₁
  obtain rfl : v₂ = .type T := h₂
  exact wpAny_is_other (by rfl) (by intro x; injection x) ⟨Ks.refl _, .bool _⟩
theorem Ev.up {c c' : Cx} {k : Nat} {env : Env} {σ : Loc} {x : PySem.Expr} {e : Ent} (h : Ev c k env σ x e) (hp : c'.prog = c.prog) (hw : c'.w = c.w) (u : ∀ b o, List.lookup b c.K = some o → List.lookup b c'.K = some o) : Ev c' k env σ x e := by
  constructor; intro A F s R G g L
  rw [hp, hw]
  refine h.run A F s R G ⟨⟨fun b o e => g.inK b o (u b o e), ?_, g.gl, g.bi, g.lim, g.tab, fun b o e => g.nf b o (u b o e), g.bm, g.old⟩, g.tok, g.fr⟩ L
  cases e : List.lookup tab0 c.K with
  | none => rfl
  | some o =>
    have := u _ _ e
    rw [show List.lookup tab0 c'.K = none from g.no] at this; injection this
theorem codeIn_up {K K' : Frag} (u : ∀ b o, List.lookup b K = some o → List.lookup b K' = some o) {v : Value} {q : Str} (h : codeIn K v q = true) : codeIn K' v q = true := by
  cases v with
  | ref ci =>
    cases e : List.lookup ci K with
    | none => exact absurd h (by show ¬ (match List.lookup ci K with | some ⟨_, _, .fields vs, _⟩ => (match vs.toList with | _ :: .str n _ :: _ => n == q | _ => false) | _ => false) = true; rw [e]; exact Bool.false_ne_true)
    | some o =>
      have h' : (match List.lookup ci K with | some ⟨_, _, .fields vs, _⟩ => (match vs.toList with | _ :: .str n _ :: _ => n == q | _ => false) | _ => false) = true := h
      rw [e] at h'
      show (match List.lookup ci K' with | some ⟨_, _, .fields vs, _⟩ => (match vs.toList with | _ :: .str n _ :: _ => n == q | _ => false) | _ => false) = true
      rw [u _ _ e]
      exact h'
  | _ => injection h
theorem FnOk.up {c c' : Cx} {a : Addr} {fd : FuncData} {body : List Stmt} {ns : List Str} (H : FnOk c a fd body ns) (u : ∀ b o, List.lookup b c.K = some o → List.lookup b c'.K = some o) : FnOk c' a fd body ns :=
  ⟨(by obtain ⟨o, e, d⟩ := H.ho; exact ⟨o, u _ _ e, d⟩), H.hbody, codeIn_up u H.hcode, H.hclo, H.hgl, H.hbi, H.hco, H.hgen, H.hk, H.hnd, H.hcn, H.hnf, H.hkind⟩
end Mine
end
section
open PySem PySem.Calls PySem.W PyProof.Rows
namespace Mine
variable [iO : Old]
noncomputable abbrev ffObj (dx b it : Addr) : Obj := { instObj 70 dx with slots := #[some (.ref b), some (.ref it)] }
theorem hide_kp {it : Addr} {h : Heap} : Kp (hide it h) h := Kp.of fun b o e => by
  by_cases z : b = it
  · rw [z, hide_self] at e; injection e
  · rwa [hide_other z] at e
theorem c70_itD (w : World) : ∃ p, findObj (cx w).K 70 (some emptyDict) "_it" = some (.bind (.builtin "member_descriptor.__get__") (.ref p)) ∧ slotIn (cx w).K p 70 = some 1 := ⟨_, by first | rfl | kernel_rfl, by first | rfl | kernel_rfl⟩
theorem c70_funcD (w : World) : ∃ p, findObj (cx w).K 70 (some emptyDict) "_func" = some (.bind (.builtin "member_descriptor.__get__") (.ref p)) ∧ slotIn (cx w).K p 70 = some 0 := ⟨_, by first | rfl | kernel_rfl, by first | rfl | kernel_rfl⟩
section
variable {c : Cx} {k : Nat} {env : Env} {σ : Loc}
theorem Ev.slotD {n attr : Str} {np pos : Pos} {x C p b dx : Addr} {ox od : Obj} {i : Nat} {K0 : Frag} (hx : Ev c k env σ (.Name n np) (.v (.ref x))) (up : ∀ b o, List.lookup b K0 = some o → List.lookup b c.K = some o)
    (l1 : List.lookup x c.K = some ox) (l2 : List.lookup dx c.K = some od) (hc : ox.cls = .ref C) (hd : ox.dict = some dx) (hn : notCls ox = true) (ga : findIn K0 (.ref C) "__getattribute__" = some (some (.builtin "object.__getattribute__"))) (gn : findIn K0 (.ref C) "__getattr__" = some none)
    (hf : findObj K0 C (some od) attr = some (.bind (.builtin "member_descriptor.__get__") (.ref p))) (hp : slotIn K0 p C = some i) (hv : (ox.slots[i]?).join = some (.ref b)) : Ev c k env σ (.Attribute (.Name n np) attr pos) (.v (.ref b)) := by
  constructor; intro A F s R G g L
  refine Attribute_Name_ ((hx.run A F s R G g L).use fun v s₁ k₁ t₁ h₁ => ?_)
  obtain rfl : v = .ref x := h₁
  have g₁ := g.ks k₁ t₁
  refine get_slot (K := K0) (fun b o e => g₁.inK b o (up b o e)) ⟨g₁.inK _ _ l1, hc, hn, by rw [hd]; exact g₁.inK _ _ l2⟩ ga gn hf hp hv rfl ⟨k₁.trans Ks.tok, rfl⟩
theorem Ev.callB {id : Str} {p pos : Pos} {b a : Addr} {x : PySem.Expr} {ex e : Ent} (hf : Ev c k env σ (.Name id p) (.v (.ref b))) (lb : List.lookup b c.K = some (bcO a)) (hx : Ev c k env σ x ex) (hc : FnC c k (.ref b) [ex] e) (hn : ∀ y p, x ≠ .Starred y p := by intro _ _ h; injection h) :
    Ev c k env σ (.Call (.Name id p) [x] [] pos) e := by
  constructor; intro A F s R G g L
  refine PyProof.Rows.Call_ ((hf.run A F s R G g L).use fun v s₁ k₁ t₁ h₁ => ?_)
  obtain rfl : v = .ref b := h₁
  have g₁ := g.ks k₁ t₁
  have hst : starEach [x] env = [(false, eval x env)] := by rw [star_cons hn]; rfl
  rw [hst]
  refine callWith_of (P := fun h => h.get? b = some (bcO a)) rfl (fun h e => ⟨.machine, .inr (.inl rfl), (Looks.ld (part := none) e).andThen .now⟩) ?_
  refine evalArgs_plain (spliced_cons ((hx.run A F s₁ R G g₁ (L.kp k₁.kp)).use fun v s₂ k₂ t₂ h₂ => spliced_nil ?_))
  have g₂ := g₁.ks k₂ t₂
  refine ⟨g₂.inK _ _ lb, (hc.run A _ s₂ [v] R g₂ (.cons h₂ .nil)).use fun v s₃ k₃ t₃ h₃ => ⟨(k₁.trans k₂).trans k₃, ?_⟩⟩
  exact h₃.mono (fun a n f => Fz.ext_kp k₁.kp n (Fz.ext_ext k₂.kp n f)) fun _ _ _ _ _ e => e
end
section
variable {w : World} {k : Nat} {A : Around} {s : Shared}
theorem ff_next {x dx it b a l : Addr} {sks : List Value} {n i : Nat} {items : Array Value} {ts sk : List Str} {Q E : Value → Shared → Prop}
    (R : Room (k + 2) A) (g : Gd (cx w).K A.frames s) (hx : s.heap.get? x = some (ffObj dx b it)) (hdx : s.heap.get? dx = some emptyDict) (hb : s.heap.get? b = some (bcO a)) (ha : s.heap.get? a = some (llObj sks n)) (hsk : Txts sks sk)
    (hit : s.heap.IsListIter it l i) (hl : s.heap.IsList l items) (nlt : l ≠ tab0) (hT : Txts items.toList ts) (hi : i ≤ ts.length) (nit : it ≠ tab0) (hK : List.lookup it (cx w).K = none) (nold : ¬ Old.at_ it)
    (hret : ∀ j t s' v, i ≤ j → ts[j]? = some t → sk.any (· == t) = false → (∀ m u, i ≤ m → m < j → ts[m]? = some u → sk.any (· == u) = true) → KI it s s' → s'.heap.IsListIter it l (j + 1) → (∃ kt, v = .str t kt) → Q v s')
    (hend : ∀ e s', (∀ m u, i ≤ m → ts[m]? = some u → sk.any (· == u) = true) → KI it s s' → (∃ oe, s'.heap.get? e = some oe ∧ oe.cls = .type "StopIteration") → E (.ref e) s') :
    wpAny (model (cx w).prog (cx w).w) A (call (.ref 66) [.ref x]) Q E s := by
  have four : ∀ {P : Addr × Obj → Prop}, P (x, ffObj dx b it) → P (dx, emptyDict) → P (b, bcO a) → P (a, llObj sks n) → ∀ p ∈ [(x, ffObj dx b it), (dx, emptyDict), (b, bcO a), (a, llObj sks n)], P p := fun h1 h2 h3 h4 => fa h1 (fa h2 (fa h3 (fa h4 fan)))
  obtain ⟨X2, hm, up2⟩ := frag_add (l := [(x, ffObj dx b it), (dx, emptyDict), (b, bcO a), (a, llObj sks n)]) (K := (cx w).K) (h := s.heap) (four hx hdx hb ha) g.inK
  have no2 := frag_tab (l := [(x, ffObj dx b it), (dx, emptyDict), (b, bcO a), (a, llObj sks n)]) (K := (cx w).K) (h := s.heap) (four hx hdx hb ha) (four (fun z => by injection z) (show Value.type "dict" ≠ .none by decide) (show Value.type "method-wrapper" ≠ .none by decide) (show Value.type "list" ≠ .none by decide)) g.no g.tab.obj
  have nf2 := frag_nf (l := [(x, ffObj dx b it), (dx, emptyDict), (b, bcO a), (a, llObj sks n)]) (K := (cx w).K) (four (fun z => by injection z) (nfr_of (T := "dict") rfl) (nfr_of (T := "method-wrapper") rfl) (nfr_of (T := "list") rfl)) g.nf
  have ne : ∀ {y o}, s.heap.get? y = some o → o.cls ≠ .type "list_iterator" → it ≠ y := fun {y o} e c z => by
    obtain ⟨o', e', c', _⟩ := hit
    rw [z, e] at e'; cases e'; exact c c'
  have lk : List.lookup it ([(x, ffObj dx b it), (dx, emptyDict), (b, bcO a), (a, llObj sks n)] ++ (cx w).K) = none := by
    simp only [List.cons_append, List.nil_append, List.lookup_cons, beq_false_of_ne (ne hx (fun z => by injection z)), beq_false_of_ne (ne hdx (show Value.type "dict" ≠ .type "list_iterator" by decide)), beq_false_of_ne (ne hb (show Value.type "method-wrapper" ≠ .type "list_iterator" by decide)), beq_false_of_ne (ne ha (show Value.type "list" ≠ .type "list_iterator" by decide))]
    exact hK
  have l1 := hm _ (.head _)
  have l2 := hm _ (.tail _ (.head _))
  have l3 := hm _ (.tail _ (.tail _ (.head _)))
  have l4 := hm _ (.tail _ (.tail _ (.tail _ (.head _))))
  clear hm
  generalize ([(x, ffObj dx b it), (dx, emptyDict), (b, bcO a), (a, llObj sks n)] ++ (cx w).K : Frag) = K2 at *
  have g2 : Gd K2 A.frames s := g.up X2 no2 nf2
  have gH : GdH K2 (hide it s.heap) := g2.toGdH.hide lk (listIter_soft hit) (fun m hn => by
    obtain ⟨o, e, _, d⟩ := hit
    obtain ⟨o', es, ep, e', d', _⟩ := hn
    rw [e] at e'; cases e'; rw [d] at d'; injection d') (fun o ho => by
    obtain ⟨o', e', c', _⟩ := hit
    rw [ho] at e'; cases e'; rw [c']; decide) nold
  obtain ⟨pi, q1, q2⟩ := c70_itD w
  obtain ⟨pf, q3, q4⟩ := c70_funcD w
  refine' raw_fn (c := ⟨(cx w).prog, (cx w).w, K2⟩) (k := k + 1) (ns := ["self"]) (es := [.v (.ref x)]) (X := [it]) (h₀ := hide it s.heap) (F₀ := fun _ => False) (FnOk.up (c := cx w) ?ok up2) ?hnc rfl R g2 gH hide_kp ?hX (fun _ h => h.elim) (.cons rfl .nil) ?hb ?hx
  case ok => (refine' ⟨⟨_, rfl, rfl⟩, rfl, rfl, rfl, rfl, rfl, rfl, rfl, rfl, _, _, _, _⟩ <;> decide)
  case hnc => decide
  case hb => rfl
  case hX => intro b m; rw [List.mem_singleton.mp m]; exact ⟨hide_self, nit, (by obtain ⟨o, e, _⟩ := hit; exact ⟨o, e⟩)⟩
  intro env L s' T hfrm hL g3 I nocl k2
  have hit' : s'.heap.IsListIter it l i := li_nf hit fun o c e => k2.1.kp.keep it o nit c e
  have hl' : s'.heap.IsList l items := l_nf hl fun o c e => k2.1.kp.keep l o nlt c e
  have R1 : Room (k + 1) (A.deeper env) := R.deeper env
  refine wpAny_execs_cons (wpAny_mono ((Ex1.assign (Ev.slotD (K0 := (cx w).K) (Ev.name rfl) up2 l1 l2 rfl rfl rfl (c70_ga w) (c70_gn w) q3 q4 rfl) (T.store (by decide))).run (A.deeper env) _ _ _ s' R1 T.g g3 I) (fun f s1 q => ?_) fun _ _ x => x.elim)
  obtain ⟨⟨rfl, I1⟩, kb1⟩ := q
  have nW : it ∉ [L] := fun m => by
    rw [List.mem_singleton] at m
    obtain ⟨o, e, _⟩ := hit
    rw [m, hL] at e; injection e
  have nlL : l ≠ L := fun z => by
    obtain ⟨o, e, _⟩ := hl
    rw [z, hL] at e; injection e
  have nli : l ≠ it := fun z => by
    obtain ⟨o, e, c, _⟩ := hl
    exact ne e (by rw [c]; decide) z.symm
  have hit1 : s1.heap.IsListIter it l i := li_nf hit' fun o c e => kb1.keep it o nW nit c e
  have hl1 : s1.heap.IsList l items := l_nf hl' fun o c e => kb1.keep l o (fun m => nlL (List.mem_singleton.mp m)) nlt c e
  have toKI : ∀ {s'' : Shared}, Ks { s with heap := hide it s.heap } s'' → s.toks ≤ s''.toks → KI it s s'' := fun {s''} ks t => by
    obtain ⟨h', tk, rfl, kp⟩ := ks
    exact ⟨⟨h', tk, rfl⟩, t, kp⟩
  obtain ⟨lfr, hlfr, _⟩ := g.fr
  refine wpAny_execs_cons (ff_loop (sk := fun t => sk.any (· == t)) (ts := ts) (outer := lfr) (L := L) R1 T.g (g3.kb kb1) I1 (T.store (by decide)) (.head _) nW rfl (fun y cc h => (nocl y cc h).elim) (Ev.up (c := cx w) (Ev.biT T rfl rfl rfl) rfl rfl up2) (Ev.slotD (K0 := (cx w).K) (Ev.name rfl) up2 l1 l2 rfl rfl rfl (c70_ga w) (c70_gn w) q1 q2 rfl) (fun _ _ h => by injection h) ?hif
    (by show A.frames.map _ = _; rw [hlfr]; rfl) hfrm hit1 hl1 nlt (fun m => by
      rcases List.mem_cons.mp m with z | m
      · exact nli z
      · exact nlL (List.mem_singleton.mp m)) hT hi ?ret ?fin)
  case hif =>
    intro t
    have test := fun (p1 p2 p3 p4 p5 p6 p7 : Pos) (m : Nat) => show EvB (⟨(cx w).prog, (cx w).w, K2⟩ : Cx) (k + 1) env [(("item" : Str), .d (.str t)), (("func" : Str), .v (.ref b)), (("self" : Str), .v (.ref x))] (.BoolOp .Or [.Compare (.Name "func" p1) [.Is] [.Constant .none m p2] p3, .Compare (.Name "func" p4) [.Is] [.Name "bool" p5] p6] p7) false from
      EvB.or (a := false) (b := false) (EvB.cmp (Ev.name rfl) Ev.cnone Op2.isRefNone) fun _ => EvB.or (a := false) (b := false) (EvB.cmp (Ev.name rfl) (Ev.up (c := cx w) (Ev.biT T rfl rfl rfl) rfl rfl up2) Op2.isRefType) fun _ => EvB.or_nil
    have inner := fun (p1 p2 p3 p4 : Pos) => show EvB (⟨(cx w).prog, (cx w).w, K2⟩ : Cx) (k + 1) env [(("item" : Str), .d (.str t)), (("func" : Str), .v (.ref b)), (("self" : Str), .v (.ref x))] (.UnaryOp .Not (.Call (.Name "func" p1) [.Name "item" p2] [] p3) p4) (!sk.any (· == t)) from
      EvB.not (EvB.plain (Ev.callB (Ev.name rfl) l3 (Ev.name rfl) (bc_c l3 l4 hsk)) Tru.bool)
    cases hst : sk.any (· == t) with
    | true =>
      rw [hst] at inner
      exact Ex1.ite (test _ _ _ _ _ _ _ _) (fun h => nomatch h) fun _ => Ex.one (Ex1.ite (inner _ _ _ _) (fun h => nomatch h) fun _ => Ex.nil)
    | false =>
      rw [hst] at inner
      exact Ex1.ite (test _ _ _ _ _ _ _ _) (fun h => nomatch h) fun _ => Ex.one (Ex1.ite (inner _ _ _ _) (fun _ => Ex.one (Ex1.ret (Ev.name rfl))) fun h => nomatch h)
  case ret =>
    intro j t s'' v a1 a2 a3 a4 a5 a6 a7 a8
    exact hret j t s'' v a1 a2 a3 a4 (toKI a5 a6) a7 a8
  case fin =>
    intro e T' s'' a1 a2 a3 a4 a5 tr
    show wpAny _ _ (leaving env (.ref e)) _ _ s''
    unfold leaving
    refine wpAny_bind (note_again tr hfrm (flight_set tr fun h' kl tr' => ?_))
    obtain ⟨oe, vs, oT, tt, z1, z2, z3, z4, z5, z6, z7, z8, z9⟩ := tr
    obtain ⟨oe', vs', oT', tt', y1, y2, _⟩ := tr'
    refine hend e _ a1 ?_ ⟨oe', y1, y2⟩
    have kp := a2.kp
    obtain ⟨hh, th, rfl, _⟩ := a2
    refine ⟨⟨h', th, rfl⟩, a3, kp.thenL (N := [e, T']) (fun y my => ?_) kl⟩
    rcases List.mem_cons.mp my with rfl | my
    · exact ⟨a4, fun o ho => by rw [z1] at ho; cases ho; exact .inr ⟨by rw [z2]; decide, by rw [z2]; decide⟩⟩
    · rw [List.mem_singleton.mp my]
      exact ⟨a5, fun o ho => by rw [z6] at ho; cases ho; exact .inr ⟨by rw [z7]; decide, by rw [z7]; decide⟩⟩
end
end Mine
end
section
open PySem PySem.Calls PySem.W PyProof.Rows
namespace Mine
variable [iO : Old]
section
variable {c : Cx} {k : Nat} {A : Around} {s : Shared}
end
section
variable (w : World)
theorem c70_makes : makesIn (cx w).K 70 = true := by kernel_rfl
theorem c52_ty : typeIn (cx w).K (.ref 52) = some (.type "function") := by kernel_rfl
theorem c70_setIt : ∃ p, takerIn (cx w).K 70 "_it" = some (some (.ref p)) ∧ typeIn (cx w).K (.ref p) = some (.type "member_descriptor") ∧ slotIn (cx w).K p 70 = some 1 := ⟨72, by kernel_rfl, by kernel_rfl, by kernel_rfl⟩
theorem c70_setFunc : ∃ p, takerIn (cx w).K 70 "_func" = some (some (.ref p)) ∧ typeIn (cx w).K (.ref p) = some (.type "member_descriptor") ∧ slotIn (cx w).K p 70 = some 0 := ⟨71, by kernel_rfl, by kernel_rfl, by kernel_rfl⟩
end
section
variable {w : World} {k : Nat} {env : Env} {W X : List Addr} {σ : Loc} {A : Around} {s₀ s : Shared} {F₀ : Fz}
theorem slot_stmt {x dx i : Addr} {ox : Obj} {name : Str} {p1 p2 p3 : Pos} {value : PySem.Expr} {P : Value → Shared → Prop} {Q : Flow → Shared → Prop} {E : Value → Shared → Prop}
    (R : Room k A) (G : EnvG env) (g : GdS (cx w).K A.frames s₀ s) (I : InFn s₀ F₀ W X env σ s) (mX : x ∈ X) (nW : x ∉ W) (hc : ∀ y cc, env.cells.lookup y = some cc → cc ≠ x)
    (hself : Ev (cx w) k env σ (.Name "self" p1) (.v (.ref x))) (hx : s.heap.get? x = some ox) (hcl : ox.cls = .ref 70) (hdi : ox.dict = some dx) (hda : ox.data = .plain) (hdx : s.heap.get? dx = some emptyDict) (ndt : dx ≠ tab0)
    (hp : ∃ p, takerIn (cx w).K 70 name = some (some (.ref p)) ∧ typeIn (cx w).K (.ref p) = some (.type "member_descriptor") ∧ slotIn (cx w).K p 70 = some i) (hi : i < 1000)
    (hv : ∀ Q' : Value → Shared → Prop, (∀ v s₁, InFn s₀ F₀ W X env σ s₁ → Ks s s₁ → P v s₁ → Q' v s₁) → wpAny (model (cx w).prog (cx w).w) A (eval value env) Q' E s)
    (hk : ∀ v s₁ s₂, P v s₁ → InFn s₀ F₀ W X env σ s₂ → s₂.heap.get? x = some (slotF i v ox) → KB (x :: W) s s₂ → (∀ b o, b ≠ x → b ≠ tab0 → NFr o → s₁.heap.get? b = some o → s₂.heap.get? b = some o) → Q .next s₂)
    (hs : swapsWith value (some (.Attribute (.Name "self" p1) name p2)) p3.line env = pure false := by rfl) :
    wpAny (model (cx w).prog (cx w).w) A (exec (.Assign [.Attribute (.Name "self" p1) name p2] value p3) env) Q E s := by
  have nT : x ≠ tab0 := fun z => I.nmu (z ▸ List.mem_append_right _ mX)
  have nf : NFr ox := fun z => by rw [hcl] at z; injection z
  refine plainObj_wpAny_Assign_Attribute (hv _ fun v s₁ I₁ k₁ hP => ?_) hs
  refine hself.here R G (g.ks k₁) I₁ fun u s₂ I₂ h₂ k₂ t₂ => ?_
  obtain rfl : u = .ref x := h₂
  have k12 := k₁.trans k₂
  have hx₂ : s₂.heap.get? x = some ox := k12.kp.keep x ox nT nf hx
  have hdx₂ : s₂.heap.get? dx = some emptyDict := k12.kp.keep dx _ ndt (nfr_of (T := "dict") rfl) hdx
  have gd₂ := I₂.gd ((g.ks k₁).ks k₂)
  obtain ⟨p, q1, q2, q3⟩ := hp
  have hno : notCls ox = true := by
    obtain ⟨a, b, c, d⟩ := ox
    dsimp only at hda; subst hda; rfl
  refine set_slot (od := some emptyDict) gd₂.inK ⟨hx₂, hcl, hno, by rw [hdi]; exact hdx₂⟩ (c70_sa w) (c70_pl w) q1 q2 q3 hi ?_
  have hx₃ : (s₂.heap.update x (slotF i v)).get? x = some (slotF i v ox) := get_slotF hx₂ (by
    obtain ⟨a, b, c, d⟩ := ox
    dsimp only at hda; subst hda; rfl)
  have kb' : KeepBut [x] s₂.heap (s₂.heap.update x (slotF i v)) := fun b o n e => (Heap.get?_update_other _ _ fun z => n (by rw [z]; exact .head _)).trans e
  have so : Soft ox := .inl fun vs z => by rw [hda] at z; injection z
  have I₃ := I₂.turn (wr := [x]) (tk := s₂.toks + 1) kb' (Nat.le_succ _) (fun a m => by rw [List.mem_singleton.mp m]; exact mX) (fun a m => by rw [List.mem_singleton.mp m]; exact nW) (fun y cc h m => hc y cc h (List.mem_singleton.mp m))
    (fun a m => by rw [List.mem_singleton.mp m]; exact ⟨_, hx₃⟩) (fun T => T.one hx₂ so fun b o n e => kb' b o (fun m => n (List.mem_singleton.mp m)) e)
  have kbT : KB [x] s₂ { s₂ with heap := s₂.heap.update x (slotF i v), toks := s₂.toks + 1 } := KB.turn kb' fun b m f => by
    rw [List.mem_singleton.mp m] at f
    obtain ⟨o, _, _, e, c', _⟩ := f
    rw [hx₂] at e; obtain rfl := Option.some.inj e; exact nf c'
  refine hk v s₁ _ hP I₃ hx₃ ((KB.ks k12).trans ⟨fun b o n t c e => kbT.keep b o (fun m => n (by rw [List.mem_singleton.mp m]; exact .head _)) t c e, kbT.fr, fun L m n t h => kbT.ns L m (fun z => n (by rw [List.mem_singleton.mp z]; exact .head _)) t h⟩) fun b o n t c e => ?_
  exact kb' b o (fun m => n (List.mem_singleton.mp m)) (k₂.kp.keep b o t c e)
end
end Mine
end
section
open PySem PySem.Calls PySem.W PyProof.Rows
namespace Mine
variable [iO : Old]
theorem slotF2 (dx b it : Addr) : slotF 0 (.ref b) (slotF 1 (.ref it) (instObj 70 dx)) = ffObj dx b it := by first | rfl | (simp [slotF]; rfl) | (simp [slotF]; decide)
section
variable {w : World} {k : Nat} {A : Around} {s : Shared}
set_option maxHeartbeats 1000000 in
theorem ff_new {b l : Addr} {items : Array Value} {Q E : Value → Shared → Prop} (R : Room (k + 2) A) (g : Gd (cx w).K A.frames s) (hl : s.heap.IsList l items) (nlt : l ≠ tab0)
    (q : ∀ x dx it s', KsT s s' → s.heap.get? x = none → x ≠ tab0 → s.heap.get? dx = none → dx ≠ tab0 → s.heap.get? it = none → it ≠ tab0 → s'.heap.get? x = some (ffObj dx b it) → s'.heap.get? dx = some emptyDict → s'.heap.IsListIter it l 0 → Q (.ref x) s') :
    wpAny (model (cx w).prog (cx w).w) A (call (.ref 70) [.ref b, .ref l]) Q E s := by
  obtain ⟨h, gg, dr, t, os⟩ := s
  refine wpAny_call (make_core (makes_of g.inK (c70_makes w)) (looks_findIn g.inK (c70_init w)) (fun self => bind_fn g.inK self (c52_ty w)) (.inl rfl) ?_)
  have k1 : KsT ⟨h, gg, dr, t, os⟩ ⟨(h.push emptyDict).push (instObj 70 h.objs.size), gg, dr, t, os⟩ := (KsT.refl ⟨h, gg, dr, t, os⟩).push.push
  have g1 : Gd (cx w).K A.frames ⟨(h.push emptyDict).push (instObj 70 h.objs.size), gg, dr, t, os⟩ := k1.gd g
  have hx1 : ((h.push emptyDict).push (instObj 70 h.objs.size)).get? (h.objs.size + 1) = some (instObj 70 h.objs.size) := by
    have := Heap.get?_push_size (h.push emptyDict) (o := instObj 70 h.objs.size) rfl
    rwa [Heap.size_push] at this
  have hd1 : ((h.push emptyDict).push (instObj 70 h.objs.size)).get? h.objs.size = some emptyDict := Heap.get?_push_of_some _ (Heap.get?_push_size _ rfl)
  obtain ⟨fx, nx⟩ := beyond (Ks.refl ⟨h, gg, dr, t, os⟩) g (a := h.objs.size + 1) (Nat.le_succ _)
  obtain ⟨fd, nd⟩ := beyond (Ks.refl ⟨h, gg, dr, t, os⟩) g (a := h.objs.size) (Nat.le_refl _)
  have ndx : h.objs.size ≠ h.objs.size + 1 := Nat.ne_of_lt (Nat.lt_succ_self _)
  generalize (h.push emptyDict).push (instObj 70 h.objs.size) = H1 at *
  generalize h.objs.size + 1 = x at *
  generalize h.objs.size = dx at *
  have lk : List.lookup x (cx w).K = none := by
    cases e : List.lookup x (cx w).K with
    | none => rfl
    | some o => have := g.inK _ _ e; rw [fx] at this; injection this
  have soX : Soft (instObj 70 dx) := .inl fun vs z => by injection z
  have gH : GdH (cx w).K (hide x H1) := g1.toGdH.hide lk ⟨_, hx1, soX⟩ (fun m hn => by
    obtain ⟨o', es, ep, e', d', _⟩ := hn
    have e' : H1.get? x = some o' := e'
    rw [hx1] at e'; obtain rfl := Option.some.inj e'; injection d') (fun o ho => by
    have ho : H1.get? x = some o := ho
    rw [hx1] at ho; obtain rfl := Option.some.inj ho; intro z; injection z) (g.nold fx)
  have R' : Room (k + 1) (A.under (.builtin "type.__call__" ⟨[.ref 70, .ref b, .ref l], []⟩)) := ⟨R.1, by show A.depth + 1 + 2 * (k + 1) ≤ 999; have := R.2.1; lia, by show A.units + 1 + 40 * (k + 1) ≤ 9800; have := R.2.2; lia⟩
  have g1' : Gd (cx w).K (A.under (.builtin "type.__call__" ⟨[.ref 70, .ref b, .ref l], []⟩)).frames ⟨H1, gg, dr, t, os⟩ := by
    have e : (A.under (.builtin "type.__call__" ⟨[.ref 70, .ref b, .ref l], []⟩)).frames = A.frames := by first | rfl | (show A.frames.map _ = A.frames; simp) | (cases h : A.frames <;> rfl)
    rw [e]; exact g1
  generalize (A.under (.builtin "type.__call__" ⟨[.ref 70, .ref b, .ref l], []⟩)) = A' at *
  refine' raw_fnC (k := k) (c := cx w) (ns := ["self", "function", "iterable"]) (es := [.v (.ref x), .v (.ref b), .v (.ref l)]) (X := [x]) (h₀ := hide x H1) (F₀ := fun _ => False) ?ok ?hnc rfl R' g1' gH hide_kp ?hX (fun _ h => h.elim) (.cons rfl (.cons rfl (.cons rfl .nil))) ?hb ?hx
  case ok => (refine' ⟨⟨_, rfl, rfl⟩, rfl, rfl, rfl, rfl, rfl, rfl, rfl, rfl, _, _, _, _⟩ <;> decide)
  case hnc => decide
  case hb => rfl
  case hX => intro b m; rw [List.mem_singleton.mp m]; exact ⟨hide_self, nx, ⟨_, hx1⟩⟩
  intro env L s' T hfrm hL g3 I nocl k2
  have hx' : s'.heap.get? x = some (instObj 70 dx) := k2.get nx hx1 (by intro z; injection z)
  have hd' : s'.heap.get? dx = some emptyDict := k2.get nd hd1 (nfr_of (T := "dict") rfl)
  have xL : x ∉ [L] := fun m => by
    rw [List.mem_singleton] at m
    rw [m] at hx1
    exact absurd (hL.symm.trans hx1) (by simp)
  have dL : dx ∉ [L] := fun m => by
    rw [List.mem_singleton] at m
    rw [m] at hd1
    exact absurd (hL.symm.trans hd1) (by simp)
  have hl' : s'.heap.IsList l items := l_nf (l_nf hl fun o c e => k1.1.kp.keep l o nlt c e) fun o c e => k2.1.kp.keep l o nlt c e
  have R1 : Room k (A'.deeper env) := R'.deeper env
  refine wpAny_execs_cons (slot_stmt (dx := dx) (i := 1) (P := fun v s₁ => ∃ it, v = .ref it ∧ s₁.heap.IsListIter it l 0 ∧ h.get? it = none ∧ it ≠ tab0 ∧ it ≠ x ∧ it ≠ L) R1 T.g g3 I (.head _) xL (fun y cc h => (nocl y cc h).elim) (Ev.name rfl) hx' rfl rfl rfl hd' nd (c70_setIt w) (by decide) ?v1 ?k1)
  case v1 =>
    intro Q' hQ
    refine PyProof.Rows.Call_ ((Ev.biT T rfl rfl rfl : Ev (cx w) k env _ (.Name "iter" _) (.v (.builtin "iter"))).here R1 T.g g3 I fun fv s₁ I₁ h₁ k₁ t₁ => ?_)
    obtain rfl : fv = .builtin "iter" := h₁
    refine callWith_builtin rfl (evalArgs_plain (spliced_cons ((Ev.name rfl : Ev (cx w) k env _ (.Name "iterable" _) (.v (.ref l))).here R1 T.g (g3.ks k₁) I₁ fun v s₂ I₂ h₂ k₂ t₂ => spliced_nil ?_)))
    obtain rfl : v = .ref l := h₂
    have hl₂ : s₂.heap.IsList l items := l_nf hl' fun o c e => (k₁.trans k₂).kp.keep l o nlt c e
    refine call_iter (wpAny_pyIter_list hl₂ ?_)
    have gd₂ := I₂.gd ((g3.ks k₁).ks k₂)
    obtain ⟨f1, f2⟩ := beyond (k1.1.trans (k2.1.trans (k₁.trans k₂))) gd₂ (a := s₂.heap.objs.size) (Nat.le_refl _)
    have k₃ : Ks s₂ { s₂ with heap := s₂.heap.push { cls := .type "list_iterator", data := .fields #[.ref l, .int 0 0] } } := Ks.mk (tk := s₂.toks) (Kp.push _ _)
    have live : ∀ y ∈ [L] ++ [x], s₂.heap.objs.size ≠ y := fun y m z => by
      obtain ⟨o, e⟩ := I₂.live y m
      rw [← z, size_none] at e; injection e
    refine hQ _ _ (I₂.step k₃ (Nat.le_refl _)) ((k₁.trans k₂).trans k₃) ⟨_, rfl, ⟨_, Heap.get?_push_size _ rfl, rfl, rfl⟩, f1, f2, live x (.tail _ (.head _)), live L (.head _)⟩
  case k1 =>
    rintro v s₁ s₂ ⟨it, rfl, hit, fit, nit, nix, niL⟩ I₂ hx₂ kb₂ keep₂
    have hd₂ : s₂.heap.get? dx = some emptyDict := kb₂.keep dx _ (fun m => by
      rcases List.mem_cons.mp m with z | m
      · exact ndx z
      · exact dL m) nd (nfr_of (T := "dict") rfl) hd'
    have hit₂ : s₂.heap.IsListIter it l 0 := li_nf hit fun o c e => keep₂ it o nix nit c e
    refine wpAny_execs_cons (slot_stmt (dx := dx) (i := 0) (P := fun v _ => v = .ref b) R1 T.g (g3.kb kb₂) I₂ (.head _) xL (fun y cc h => (nocl y cc h).elim) (Ev.name rfl) hx₂ rfl rfl rfl hd₂ nd (c70_setFunc w) (by decide) (fun Q' hQ => (Ev.name rfl : Ev (cx w) k env _ (.Name "function" _) (.v (.ref b))).here R1 T.g (g3.kb kb₂) I₂ fun v s₃ I₃ h₃ k₃ _ => hQ _ _ I₃ k₃ h₃) ?k2)
    rintro v s₃ s₄ rfl I₄ hx₄ kb₄ keep₄
    refine wpAny_execs_nil ⟨rfl, ?_⟩
    have ki : KI x ⟨H1, gg, dr, t, os⟩ s₄ := by
      obtain ⟨h', tk, e, kp⟩ := I₄.ks
      have tk' := I₄.tk
      exact ⟨⟨h', tk, e⟩, tk', by rw [e]; exact kp⟩
    have nL : ∀ {y : Addr}, y ≠ x → y ∉ [L] → y ∉ x :: [L] := fun {y} a c m => by
      rcases List.mem_cons.mp m with z | m
      · exact a z
      · exact c m
    have kst : KsT ⟨h, gg, dr, t, os⟩ s₄ := by
      refine ⟨ki.ks k1.1 fx fun o ho => ?_, Nat.le_trans k1.2 ki.tk⟩
      have ho : H1.get? x = some o := ho
      rw [hx1] at ho; obtain rfl := Option.some.inj ho; exact soX
    have hx5 : s₄.heap.get? x = some (ffObj dx b it) := hx₄.trans (congrArg some (slotF2 dx b it))
    have hd5 : s₄.heap.get? dx = some emptyDict := kb₄.keep dx _ (nL ndx dL) nd (nfr_of (T := "dict") rfl) hd₂
    have hit5 : s₄.heap.IsListIter it l 0 := li_nf hit₂ fun o c e => kb₄.keep it o (nL nix fun m => niL (List.mem_singleton.mp m)) nit c e
    exact q x dx it s₄ kst fx nx fd nd fit nit hx5 hd5 hit5
theorem ffiter_c (x : Addr) : FnC (cx w) (k + 1) (.ref 59) [.v (.ref x)] (.v (.ref x)) := by
  refine' FnOk.plain (ns := ["self"]) ?ok rfl ?hx (binds1 ?hb)
  case ok => (refine' ⟨⟨_, rfl, rfl⟩, rfl, rfl, rfl, rfl, rfl, rfl, rfl, rfl, _, _, _, _⟩ <;> decide)
  case hb => intro v; rfl
  intro env W T
  exact Ex.one (Ex1.ret (Ev.name rfl))
end
end Mine
end
section
open PySem PySem.Calls PySem.W PyProof.Rows
namespace Mine
variable [iO : Old]
theorem filt_step {p : Str → Bool} {ts : List Str} {j j' : Nat} {t : Str} (h : j ≤ j') (ht : ts[j']? = some t) (hp : p t = true) (hm : ∀ m u, j ≤ m → m < j' → ts[m]? = some u → p u = false) :
    (ts.take (j' + 1)).filter p = (ts.take j).filter p ++ [t] := by
  have hlt : j' < ts.length := (List.getElem?_eq_some_iff.mp ht).1
  have all : ∀ d, j + d ≤ j' → (ts.take (j + d)).filter p = (ts.take j).filter p := by
    intro d
    induction d with
    | zero => intro _; rfl
    | succ d ihd =>
      intro hd
      have hl : j + d < ts.length := by lia
      have ht' : ts[j + d]? = some (ts[j + d]'hl) := List.getElem?_eq_getElem hl
      rw [show j + (d + 1) = (j + d) + 1 from rfl, List.take_add_one, ht', List.filter_append, ihd (by lia)]
      simp [hm (j + d) _ (by lia) (by lia) ht']
  have e := all (j' - j) (by lia)
  rw [show j + (j' - j) = j' by lia] at e
  rw [List.take_add_one, ht, List.filter_append, e]; simp [hp]
theorem filt_end {p : Str → Bool} {ts : List Str} {j : Nat} (hm : ∀ m u, j ≤ m → ts[m]? = some u → p u = false) : (ts.take j).filter p = ts.filter p := by
  conv => rhs; rw [← List.take_append_drop j ts]
  rw [List.filter_append]
  have : (ts.drop j).filter p = [] := by
    rw [List.filter_eq_nil_iff]
    intro u hu
    obtain ⟨m, e⟩ := List.getElem?_of_mem hu
    rw [List.getElem?_drop] at e
    rw [hm _ u (by lia) e]; decide
  rw [this, List.append_nil]
theorem Txts.snoc {v : Value} {t : Str} {vs : List Value} {ts : List Str} (r : Txts vs ts) (h : ∃ k, v = .str t k) : Txts (vs ++ [v]) (ts ++ [t]) :=
  Txts.ind (P := fun vs ts => Txts (vs ++ [v]) (ts ++ [t])) ⟨h, trivial⟩ (fun _ ih => ⟨⟨_, rfl⟩, ih⟩) r
theorem Txts.rep {F : Fz} {h : Heap} {vs : List Value} {ts : List Str} (r : Txts vs ts) : RepAll F h vs (ts.map .str) :=
  Txts.ind (P := fun vs ts => RepAll F h vs (ts.map .str)) .nil (fun _ ih => .cons (.str _ _) ih) r
section
variable {w : World} {k : Nat} {A : Around} {sb s : Shared}
structure FfAt (sb : Shared) (x dx it b a l : Addr) (sks : List Value) (n : Nat) (items : Array Value) (ts sk : List Str) (S : Addr) (i : Nat) (acc : List Value) (s : Shared) : Prop where
  ks : KsT sb s
  hx : s.heap.get? x = some (ffObj dx b it)
  hdx : s.heap.get? dx = some emptyDict
  hb : s.heap.get? b = some (bcO a)
  ha : s.heap.get? a = some (llObj sks n)
  hl : s.heap.IsList l items
  hS : LL s.heap S acc
  hi : acc.length = i
  hit : ∃ j, j ≤ ts.length ∧ s.heap.IsListIter it l j ∧ Txts acc ((ts.take j).filter fun t => !sk.any (· == t))
theorem ff_pynext {x dx it b a l S : Addr} {sks : List Value} {n i : Nat} {items : Array Value} {ts sk : List Str} {acc : List Value} {Q : Option Value → Shared → Prop}
    (R : Room (k + 3) A) (g : Gd (cx w).K A.frames sb) (J : FfAt sb x dx it b a l sks n items ts sk S i acc s) (hsk : Txts sks sk) (hT : Txts items.toList ts) (fit : sb.heap.get? it = none) (nit : it ≠ tab0) (nlt : l ≠ tab0) (nt : x ≠ tab0 ∧ dx ≠ tab0 ∧ b ≠ tab0 ∧ a ≠ tab0 ∧ S ≠ tab0) (fS : sb.heap.get? S = none) (nSa : a ≠ S) (nSl : l ≠ S)
    (hnext : ∀ v s', i < (ts.filter fun t => !sk.any (· == t)).length → LL s'.heap S acc → (∀ h', LL h' S (acc ++ [v]) → Heap.SameBut S s'.heap h' → FfAt sb x dx it b a l sks n items ts sk S (i + 1) (acc ++ [v]) { s' with heap := h' }) → Q (some v) s')
    (hend : ∀ s', Txts acc (ts.filter fun t => !sk.any (· == t)) → KsT sb s' → LL s'.heap S acc → Q none s') :
    wpAny (model (cx w).prog (cx w).w) A (pyNext (.ref x)) Q (fun _ _ => False) s := by
  have gd := J.ks.gd g
  have X := gd.inK
  have hK : List.lookup it (cx w).K = none := by
    cases e : List.lookup it (cx w).K with
    | none => rfl
    | some o => have := g.inK _ _ e; rw [fit] at this; injection this
  have I : InstAt s.heap x (ffObj dx b it) 70 (some emptyDict) := ⟨J.hx, rfl, rfl, J.hdx⟩
  obtain ⟨j, hj, hit, hacc⟩ := J.hit
  have ne : ∀ {y o}, s.heap.get? y = some o → o.cls ≠ .type "list_iterator" → y ≠ it := fun {y o} e c z => by
    obtain ⟨o', e', c', _⟩ := hit
    rw [← z, e] at e'; obtain rfl := Option.some.inj e'; exact c c'
  have kept : ∀ {s' : Shared}, KI it s s' → ∀ {y o}, s.heap.get? y = some o → o.cls ≠ .type "list_iterator" → NFr o → y ≠ tab0 → s'.heap.get? y = some o := fun {s'} ki {y o} e c f t => ki.kp.keep y o t f ((hide_other (ne e c)).trans e)
  refine next_inst X I (c70_next w) (by kernel_rfl) ?_
  refine ff_next (k := k) (R.mono (by lia)) gd J.hx J.hdx J.hb J.ha hsk hit J.hl nlt hT hj nit hK (g.nold fit) ?r ?e
  case r =>
    intro j' t s' v h1 h2 h3 h4 ki hit' hv
    have ks' : KsT sb s' := ⟨ki.ks J.ks.1 fit fun o ho => by
      obtain ⟨o', e', so⟩ := listIter_soft hit
      rw [ho] at e'; obtain rfl := Option.some.inj e'; exact so, Nat.le_trans J.ks.2 ki.tk⟩
    have hjl : j' < ts.length := (List.getElem?_eq_some_iff.mp h2).1
    have st := filt_step (p := fun t => !sk.any (· == t)) h1 h2 (by rw [h3]; rfl) fun m u a1 a2 a3 => by rw [h4 m u a1 a2 a3]; rfl
    have hx' := kept ki J.hx (fun z => by injection z) (fun z => by injection z) nt.1
    have hd' := kept ki J.hdx (show Value.type "dict" ≠ .type "list_iterator" by decide) (nfr_of (T := "dict") rfl) nt.2.1
    have hb' := kept ki J.hb (show Value.type "method-wrapper" ≠ .type "list_iterator" by decide) (nfr_of (T := "method-wrapper") rfl) nt.2.2.1
    have ha' := kept ki J.ha (show Value.type "list" ≠ .type "list_iterator" by decide) (nfr_of (T := "list") rfl) nt.2.2.2.1
    have hl' : s'.heap.IsList l items := by
      obtain ⟨o, e, c, m, d⟩ := J.hl
      exact ⟨o, kept ki e (by rw [c]; decide) (by rw [NFr, c]; decide) nlt, c, m, d⟩
    have hS' : LL s'.heap S acc := by
      obtain ⟨m, e⟩ := J.hS
      exact ⟨m, kept ki e (show Value.type "list" ≠ .type "list_iterator" by decide) (nfr_of (T := "list") rfl) nt.2.2.2.2⟩
    have hlen : i < (ts.filter fun t => !sk.any (· == t)).length := by
      have e1 := hacc.len
      have e2 : ((ts.take (j' + 1)).filter fun t => !sk.any (· == t)).length ≤ (ts.filter fun t => !sk.any (· == t)).length := (List.Sublist.filter _ (List.take_sublist _ _)).length_le
      rw [st, List.length_append, ← e1, J.hi] at e2
      exact e2
    refine hnext v s' hlen hS' fun h' hS₂ sb₂ => ?_
    obtain ⟨m₀, eS⟩ := hS'
    have nS : ∀ {y o}, s'.heap.get? y = some o → y ≠ S → h'.get? y = some o := fun {y o} e n => sb₂.extBut y o n e
    have cS : ∀ {y o}, s'.heap.get? y = some o → o.cls ≠ .type "list" → y ≠ S := fun {y o} e c z => by
      rw [z, eS] at e; obtain rfl := Option.some.inj e; exact c rfl
    refine ⟨ks'.upd fS eS (.inl fun vs z => by injection z) sb₂ (Nat.le_refl _), nS hx' (cS hx' fun z => by injection z), nS hd' (cS hd' (show Value.type "dict" ≠ .type "list" by decide)), nS hb' (cS hb' (show Value.type "method-wrapper" ≠ .type "list" by decide)), nS ha' nSa,
      ((by obtain ⟨o, e, r⟩ := hl'; exact ⟨o, nS e nSl, r⟩)), hS₂, by rw [List.length_append, J.hi]; rfl, j' + 1, hjl, ?_, ?_⟩
    · obtain ⟨o, e, c, d⟩ := hit'
      exact ⟨o, nS e (cS e (by rw [c]; decide)), c, d⟩
    · rw [st]; exact hacc.snoc hv
  case e =>
    intro e s' h1 ki hc
    obtain ⟨oe, e1, e2⟩ := hc
    have ks' : KsT sb s' := ⟨ki.ks J.ks.1 fit fun o ho => by
      obtain ⟨o', e', so⟩ := listIter_soft hit
      rw [ho] at e'; obtain rfl := Option.some.inj e'; exact so, Nat.le_trans J.ks.2 ki.tk⟩
    refine stop_inst e1 e2 (hend s' ?_ ks' ?_)
    · rw [← filt_end (p := fun t => !sk.any (· == t)) fun m u a1 a2 => by rw [h1 m u a1 a2]; rfl]
      exact hacc
    · obtain ⟨m, e⟩ := J.hS
      exact ⟨m, kept ki e (show Value.type "list" ≠ .type "list_iterator" by decide) (nfr_of (T := "list") rfl) nt.2.2.2.2⟩
end
end Mine
end
section
open PySem PySem.Calls PySem.W PyProof.Rows
namespace Mine
variable [iO : Old]
theorem Gd.down {K K' : Frag} {fr : Option (List Env)} {s : Shared} (g : Gd K' fr s) (u : ∀ b o, List.lookup b K = some o → List.lookup b K' = some o) : Gd K fr s := by
  refine ⟨⟨fun b o e => g.inK b o (u b o e), ?_, g.gl, g.bi, g.lim, g.tab, fun b o e => g.nf b o (u b o e), g.bm, g.old⟩, g.tok, g.fr⟩
  cases e : List.lookup tab0 K with
  | none => rfl
  | some o =>
    have := u _ _ e
    rw [g.no] at this; injection this
section
variable {w : World} {k : Nat} {A : Around} {sb s : Shared}
theorem ff_list {x dx it b a l : Addr} {sks : List Value} {n : Nat} {items : Array Value} {ts sk : List Str} {Q E : Value → Shared → Prop}
    (R : Room (k + 5) A) (g : Gd (cx w).K A.frames sb) (k0 : KsT sb s) (hx : s.heap.get? x = some (ffObj dx b it)) (hdx : s.heap.get? dx = some emptyDict) (hb : s.heap.get? b = some (bcO a)) (ha : s.heap.get? a = some (llObj sks n)) (hit : s.heap.IsListIter it l 0) (hl : s.heap.IsList l items)
    (hsk : Txts sks sk) (hT : Txts items.toList ts) (fit : sb.heap.get? it = none) (nit : it ≠ tab0) (nlt : l ≠ tab0) (nt : x ≠ tab0 ∧ dx ≠ tab0 ∧ b ≠ tab0 ∧ a ≠ tab0) (hts : ts.length ≤ sizeLine)
    (q : ∀ D acc s', KsT sb s' → sb.heap.get? D = none → D ≠ tab0 → LL s'.heap D acc → Txts acc (ts.filter fun t => !sk.any (· == t)) → Q (.ref D) s') :
    wpAny (model (cx w).prog (cx w).w) A (call (.type "list") [.ref x]) Q E s := by
  have gs := k0.gd g
  have R2 : Room (k + 4) A.in1.in1 := R.in2
  refine callType_codes (Q₁ := fun obj s₁ => obj = .ref s.heap.objs.size ∧ s₁ = { s with heap := s.heap.push { cls := .type "list", data := .seq #[] } }) PySem.F.called_list (PySem.F.typeCall_list_1 _) PySem.F.entry_list_init
    (code_list_new _ ⟨rfl, rfl⟩) fun obj s₁ h₁ => ?_
  obtain ⟨rfl, rfl⟩ := h₁
  obtain ⟨fS, nS⟩ := beyond k0.1 gs (a := s.heap.objs.size) (Nat.le_refl _)
  have lt : ∀ {y o}, s.heap.get? y = some o → y ≠ s.heap.objs.size := fun {y o} e => Nat.ne_of_lt (Heap.lt_size e)
  have kp1 : ∀ y o, s.heap.get? y = some o → (s.heap.push { cls := .type "list", data := .seq #[] }).get? y = some o := fun y o e => Heap.get?_push_of_some _ e
  have hS : (s.heap.push { cls := .type "list", data := .seq #[] }).get? s.heap.objs.size = some { cls := .type "list", data := .seq #[] } := Heap.get?_push_size _ rfl
  have k1 : KsT sb { s with heap := s.heap.push { cls := .type "list", data := .seq #[] } } := k0.push
  have la := lt ha
  have ll : l ≠ s.heap.objs.size := by obtain ⟨o, e, _⟩ := hl; exact lt e
  refine ⟨⟨_, hS, rfl⟩, PySem.F.args_list_init_2 _ _, ?_⟩
  generalize s.heap.push { cls := .type "list", data := .seq #[] } = H1 at *
  generalize s.heap.objs.size = S at *
  show wpAny _ _ (do let old ← Builtin.List.listItems (.ref S); Builtin.List.listUpdate (.ref S) (fun _ => #[]); letGo old.toList.reverse; Builtin.List.listExtendWith (.ref S) (.ref x) .none) _ _ _
  refine wpAny_bind ?_
  unfold Builtin.List.listItems
  refine wpAny_bind (wpAny_seqItems hS rfl (wpAny_pure ?_))
  show wpAny _ _ (updateSeq S (fun _ => #[]) >>= fun _ => letGo (#[] : Array Value).toList.reverse >>= fun _ => Builtin.List.listExtendWith (.ref S) (.ref x) .none) _ _ _
  refine wpAny_bind (wpAny_updateSeq hS rfl ?_)
  have hS₂ := Heap.get?_update_self (Obj.mapSeq (fun _ => (#[] : Array Value))) hS rfl
  have oth : ∀ b o, b ≠ S → s.heap.get? b = some o → (H1.update S (Obj.mapSeq (fun _ => (#[] : Array Value)))).get? b = some o :=
    fun b o hb e => (Heap.get?_update_other _ _ (Ne.symm hb)).trans (kp1 b o e)
  refine wpAny_bind (wpAny_letGo ?_)
  have k2 : KsT sb { s with heap := H1.update S (Obj.mapSeq (fun _ => (#[] : Array Value))), toks := s.toks } := k1.upd fS hS (.inl fun vs z => by injection z) (Heap.SameBut.update _ _ _) (Nat.le_refl _)
  generalize H1.update S (Obj.mapSeq (fun _ => (#[] : Array Value))) = H2 at *
  have hx₂ := oth x _ (lt hx) hx
  have hd₂ := oth dx _ (lt hdx) hdx
  have I₂ : InstAt H2 x (ffObj dx b it) 70 (some emptyDict) := ⟨hx₂, rfl, rfl, hd₂⟩
  have g₂ := k2.gd g
  have X₂ := g₂.inK
  unfold Builtin.List.listExtendWith
  refine wpAny_bind (I₂.type.here ?_)
  have h1 : Builtin.List.listSameRef (.ref S) (.ref x) = false := by simp [Builtin.List.listSameRef, Ne.symm (lt hx)]
  have h2 : (Value.ref 70 == Value.type "list") = false := by rfl
  have h3 : (Value.ref 70 == Value.type "tuple") = false := by rfl
  simp only [h1, h2, h3, Bool.or_false, Bool.false_eq_true, if_false]
  refine wpAny_bind (iter_inst (K := (cx w).K) X₂ I₂ (c70_iter w) (by kernel_rfl) (c70_next w) (((ffiter_c (w := w) (k := k) x).run A.in1.in1 (fun _ => False) _ [.ref x] (R2.mono (by lia)) g₂ (.cons rfl .nil)).use fun v s₃ k₃ t₃ h₃ => ?_))
  obtain rfl : v = .ref x := h₃
  have k23 : KsT _ s₃ := ⟨k₃, t₃⟩
  have k3 : KsT sb s₃ := k2.trans k23
  have g₃ := k3.gd g
  have hx₃ := k23.get nt.1 hx₂ (fun z => by injection z)
  have hd₃ := k23.get nt.2.1 hd₂ (nfr_of (T := "dict") rfl)
  have I₃ : InstAt s₃.heap x (ffObj dx b it) 70 (some emptyDict) := ⟨hx₃, rfl, rfl, hd₃⟩
  have X₃ := g₃.inK
  refine ⟨rfl, X₃, I₃, ?_⟩
  refine wpAny_bind (wpAny_holding ?_)
  unfold Builtin.List.listLengthHint
  refine wpAny_bind (wpAny_bind (I₃.type.here ((looks_findIn X₃ (c70_len w)).here ?_)))
  show wpAny _ _ (specialOf (Value.ref x) (Str.ofString "__length_hint__") >>= _) _ _ _
  refine wpAny_bind (wpAny_bind (I₃.type.here ((looks_findIn X₃ (c70_hint w)).here ?_)))
  refine wpAny_pure ?_
  show wpAny _ _ (rule "list.extend.makes-room" >>= fun _ => Builtin.List.listTouch (.ref S) >>= fun _ => again (.builtin "list.extend.loop" ⟨[.ref S, .ref x, .none], []⟩)) _ _ _
  refine wpAny_bind (wpAny_rule (wpAny_bind ?_))
  show wpAny _ _ (updateSeq S (·.push .none) >>= fun _ => updateSeq S (·.pop)) _ _ _
  obtain ⟨n₀, z₀⟩ := mapSeq_eq #[] 0 (fun _ => (#[] : Array Value))
  have hS₃ : s₃.heap.get? S = some (Obj.mapSeq (fun _ => (#[] : Array Value)) { cls := .type "list", data := .seq #[] }) := k23.get nS hS₂ (by rw [show Obj.mapSeq (fun _ => (#[] : Array Value)) { cls := .type "list", data := .seq #[] } = _ from z₀]; exact nfr_of (T := "list") rfl)
  rw [show Obj.mapSeq (fun _ => (#[] : Array Value)) { cls := .type "list", data := .seq #[] } = _ from z₀] at hS₃
  refine wpAny_bind (wpAny_updateSeq hS₃ rfl ?_)
  obtain ⟨n₁, z₁⟩ := mapSeq_eq #[] n₀ (·.push Value.none)
  have hS₄ := Heap.get?_update_self (Obj.mapSeq (·.push Value.none)) hS₃ (by rw [z₁]; rfl)
  rw [z₁] at hS₄
  refine wpAny_updateSeq hS₄ rfl ?_
  obtain ⟨n₂, z₂⟩ := mapSeq_eq (#[].push Value.none) n₁ (·.pop)
  have hS₅ := Heap.get?_update_self (Obj.mapSeq (·.pop)) hS₄ (by rw [z₂]; rfl)
  rw [z₂] at hS₅
  have k4 : KsT sb { s₃ with heap := s₃.heap.update S (Obj.mapSeq (·.push Value.none)), toks := s₃.toks } := k3.upd fS hS₃ (.inl fun vs z => by injection z) (Heap.SameBut.update _ _ _) (Nat.le_refl _)
  have k5 : KsT sb { s₃ with heap := (s₃.heap.update S (Obj.mapSeq (·.push Value.none))).update S (Obj.mapSeq (·.pop)), toks := s₃.toks } := k4.upd fS hS₄ (.inl fun vs z => by injection z) (Heap.SameBut.update _ _ _) (Nat.le_refl _)
  have oth2 : ∀ y o, y ≠ S → s₃.heap.get? y = some o → ((s₃.heap.update S (Obj.mapSeq (·.push Value.none))).update S (Obj.mapSeq (·.pop))).get? y = some o := fun y o n e => (Heap.get?_update_other _ _ (Ne.symm n)).trans ((Heap.get?_update_other _ _ (Ne.symm n)).trans e)
  generalize (s₃.heap.update S (Obj.mapSeq (·.push Value.none))).update S (Obj.mapSeq (·.pop)) = H5 at *
  have nf5 : ∀ {y o}, s.heap.get? y = some o → y ≠ tab0 → NFr o → H5.get? y = some o := fun {y o} e t f => oth2 y o (lt e) (k23.get t (oth y o (lt e) e) f)
  have J0 : FfAt sb x dx it b a l sks n items ts sk S 0 [] { s₃ with heap := H5 } := by
    refine ⟨k5, nf5 hx nt.1 (fun z => by injection z), nf5 hdx nt.2.1 (nfr_of (T := "dict") rfl), nf5 hb nt.2.2.1 (nfr_of (T := "method-wrapper") rfl), nf5 ha nt.2.2.2 (nfr_of (T := "list") rfl), ?_, ⟨n₂, by rw [hS₅]; rfl⟩, rfl, 0, Nat.zero_le _, ?_, trivial⟩
    · obtain ⟨o, e, c, m, d⟩ := hl
      exact ⟨o, nf5 e nlt (by rw [NFr, c]; decide), c, m, d⟩
    · obtain ⟨o, e, c, d⟩ := hit
      exact ⟨o, nf5 e nit (by rw [NFr, c]; decide), c, d⟩
  have hn : (ts.filter fun t => !sk.any (· == t)).length ≤ sizeLine := Nat.le_trans (List.length_filter_le _ _) hts
  have nt5 : x ≠ tab0 ∧ dx ≠ tab0 ∧ b ≠ tab0 ∧ a ≠ tab0 ∧ S ≠ tab0 := ⟨nt.1, nt.2.1, nt.2.2.1, nt.2.2.2, nS⟩
  refine wpAny_pure ⟨plainId_quiet PySem.F.plain_extend_loop _, ?_⟩
  have R1 : Room (k + 3) A.in1.in1 := R2.mono (by lia)
  refine codeAny_mono (extend_loop (n := (ts.filter fun t => !sk.any (· == t)).length) (fun i acc s => FfAt sb x dx it b a l sks n items ts sk S i acc s) (fun acc s' => Txts acc (ts.filter fun t => !sk.any (· == t)) ∧ KsT sb s' ∧ LL s'.heap S acc) hn
    (fun i vs s' hi J _ => ff_pynext (k := k) R1 g J hsk hT fit nit nlt nt5 fS la ll (fun v s'' _ hS' hJ => ⟨v, rfl, hS', hJ⟩) fun s'' hT' _ _ => ?_)
    (fun vs s' J hv => ff_pynext (k := k) R1 g J hsk hT fit nit nlt nt5 fS la ll (fun v s'' hi _ _ => absurd hi (by lia)) fun s'' hT' k' hS' => ⟨rfl, hT', k', hS'⟩) .none _ 0 [] _ rfl (Nat.zero_le _) rfl J0) fun r s' hr => ?_
  · exact absurd (hT'.len.symm.trans J.hi) (by lia)
  · obtain ⟨rfl, acc, h1, h2, h3⟩ := hr
    exact ⟨rfl, q S acc s' h2 fS nS h3 h1⟩
end
end Mine
end
section
open PySem PySem.Calls PySem.W PyProof.Rows
namespace Mine
variable [iO : Old]
theorem c70_keep (w : World) : keepIn (cx w).K (.ref 70) = true := by kernel_rfl
section
variable {w : World} {k : Nat}
theorem filter_c {K' : Frag} {a : Addr} {sks : List Value} {n : Nat} {ts sk : List Str} (up : ∀ b o, List.lookup b (cx w).K = some o → List.lookup b K' = some o) (la : List.lookup a K' = some (llObj sks n)) (hsk : Txts sks sk) (nat : a ≠ tab0) (hts : ts.length ≤ sizeLine) :
    FnC ⟨(cx w).prog, (cx w).w, K'⟩ (k + 6) (.ref 81) [.d (encRow ts), .v (.ref a)] (.d (encRow (filtOut ts sk))) := by
  refine' FnOk.plain (ns := ["flist", "skip"]) (FnOk.up (c := cx w) ?ok up) rfl ?hx (binds2 ?hb)
  case ok => (refine' ⟨⟨_, rfl, rfl⟩, rfl, rfl, rfl, rfl, rfl, rfl, rfl, rfl, _, _, _, _⟩ <;> decide)
  case hb => intro v u; rfl
  intro env W T
  refine Ex.one (Ex1.ret ?_)
  constructor; intro A F s R G g L
  have gd := g.down up
  refine PyProof.Rows.Call_ (((Ev.biT T rfl rfl rfl : Ev (cx w) (k + 5) env _ (.Name "list" _) (.v (.type "list"))).run A F s R G gd L).use fun v1 s₁ k₁ t₁ q1 => ?_)
  obtain rfl : v1 = .type "list" := q1
  have g₁ := g.ks k₁ t₁
  have L₁ := L.kp k₁.kp
  refine PyProof.Rows.callWith_type rfl (evalArgs_plain (spliced_cons ?_))
  refine PyProof.Rows.Call_ (((Ev.globT T rfl rfl : Ev (cx w) (k + 5) env _ (.Name "filterfalse" _) (.v (.ref 70))).run A F s₁ R G (g₁.down up) L₁).use fun v2 s₂ k₂ t₂ q2 => ?_)
  obtain rfl : v2 = .ref 70 := q2
  have g₂ := g₁.ks k₂ t₂
  have L₂ := L₁.kp k₂.kp
  refine callWith_K (g₂.down up).inK (c70_keep w) ?_
  refine spliced_cons (Attribute_Name_ (((Ev.name rfl : Ev (cx w) (k + 5) env _ (.Name "skip" _) (.v (.ref a))).run A F s₂ R G (g₂.down up) L₂).use fun v3 s₃ k₃ t₃ q3 => ?_))
  obtain rfl : v3 = .ref a := q3
  have g₃ := g₂.ks k₃ t₃
  have L₃ := L₂.kp k₃.kp
  obtain ⟨h, gg, dr, t, os⟩ := s₃
  have ha : h.get? a = some (llObj sks n) := g₃.inK _ _ la
  refine attr_contains ha ?_
  have k4 : KsT ⟨h, gg, dr, t, os⟩ ⟨h.push (bcO a), gg, dr, t + 1, os⟩ := ⟨Ks.mk (Kp.push _ _), Nat.le_succ _⟩
  have k34 : KsT s ⟨h, gg, dr, t, os⟩ := ⟨(k₁.trans k₂).trans k₃, Nat.le_trans (Nat.le_trans t₁ t₂) t₃⟩
  obtain ⟨fb, nb⟩ := beyond k34.1 g₃ (a := h.objs.size) (Nat.le_refl _)
  have hb : (h.push (bcO a)).get? h.objs.size = some (bcO a) := Heap.get?_push_size _ rfl
  have k04 := k34.trans k4
  have g₄ := k04.gd g
  have L₄ := L₃.kp k4.1.kp
  generalize h.push (bcO a) = h4 at *
  generalize h.objs.size = b at *
  refine spliced_cons (((Ev.name rfl : Ev (cx w) (k + 5) env _ (.Name "flist" _) (.d (encRow ts))).run A F _ R G (g₄.down up) L₄).use fun v5 s₅ k₅ t₅ q5 => spliced_nil ?_)
  obtain ⟨l, vs, rfl, fl, nl, hl, rl⟩ := Holds.isList q5
  have k45 : KsT _ s₅ := ⟨k₅, t₅⟩
  have k05 := k04.trans k45
  have g₅ := k05.gd g
  refine ⟨(g₅.down up).inK, ?_⟩
  have hT : Txts vs.toArray.toList ts := Txts.of (F := F.ext h4) (h := s₅.heap) rl
  refine ff_new (k := k + 3) (R.mono (by lia)) (g₅.down up) hl nl fun x dx it s₆ k6 fx nx fd nd fi ni hx hdx hit => ?_
  refine spliced_nil ?_
  have k06 := k05.trans k6
  have old : ∀ {y : Addr}, s₅.heap.get? y = none → y ≠ tab0 → s.heap.get? y = none := fun {y} e t => k05.1.kp.gone t e
  have hb6 : s₆.heap.get? b = some (bcO a) := k6.get nb (k45.get nb hb (nfr_of (T := "method-wrapper") rfl)) (nfr_of (T := "method-wrapper") rfl)
  have ha6 : s₆.heap.get? a = some (llObj sks n) := (k06.gd g).inK _ _ la
  have hl6 : s₆.heap.IsList l vs.toArray := l_nf hl fun o c e => k6.1.kp.keep l o nl c e
  refine ff_list (k := k) (R.mono (by lia)) (g.down up) k06 hx hdx hb6 ha6 hit hl6 hsk hT (old fi ni) ni nl ⟨nx, nd, nb, nat⟩ hts fun D acc s₇ k7 fD nD hD hacc => ⟨k7.1, ?_⟩
  exact Rep.mkList (.inr fD) nD hD.isList (Txts.rep hacc)
end
end Mine
end
section
open PySem PySem.Calls PySem.W PyProof.Rows
namespace Mine
variable [iO : Old]
section
variable {c : Cx} {k : Nat} {env : Env} {σ : Loc}
theorem Ev.callN {id : Str} {p pos : Pos} {f : Value} {x y : PySem.Expr} {e1 e : Ent} {sk : List Str} (hf : Ev c k env σ (.Name id p) (.v f)) (hok : keepIn c.K f = true) (h1 : Ev c k env σ x e1) (h2 : EvN c k env σ y (sk.map .str))
    (hc : ∀ (K' : Frag) l vs n, (∀ b o, List.lookup b c.K = some o → List.lookup b K' = some o) → List.lookup l K' = some (llObj vs n) → l ≠ tab0 → Txts vs sk → FnC ⟨c.prog, c.w, K'⟩ k f [e1, .v (.ref l)] e)
    (n1 : ∀ y p, x ≠ .Starred y p := by intro _ _ h; injection h) (n2 : ∀ z p, y ≠ .Starred z p := by intro _ _ h; injection h) :
    Ev c k env σ (.Call (.Name id p) [x, y] [] pos) e := by
  constructor; intro A F s R G g L
  refine PyProof.Rows.Call_ ((hf.run A F s R G g L).use fun v s₁ k₁ t₁ h₁ => ?_)
  obtain rfl : v = f := h₁
  have g₁ := g.ks k₁ t₁
  have L₁ := L.kp k₁.kp
  have hst : starEach [x, y] env = [(false, eval x env), (false, eval y env)] := by rw [star_cons n1, star_cons n2]; rfl
  refine callWith_K g₁.inK hok ?_ (star_cons n1) (by rw [star_cons n2]; rfl)
  rw [hst]
  refine spliced_cons ((h1.run A F s₁ R G g₁ L₁).use fun v1 s₂ k₂ t₂ q2 => ?_)
  have g₂ := g₁.ks k₂ t₂
  have L₂ := L₁.kp k₂.kp
  refine spliced_cons (wpAny_mono (wpAny_toks_of (n := s₂.toks) (Nat.le_refl _) (h2.run A F s₂ R G g₂ L₂)) (fun v2 s₃ q => ?_) fun _ _ x => x.2.elim)
  obtain ⟨t₃, k₃, l, vs, rfl, fl, nl, ⟨n, hl⟩, hr⟩ := q
  refine spliced_nil ?_
  have g₃ := g₂.ks k₃ t₃
  refine ⟨g₃.inK, ?_⟩
  have one : ∀ {P : Addr × Obj → Prop}, P (l, llObj vs n) → ∀ p ∈ [(l, llObj vs n)], P p := fun h p hp => by rw [List.mem_singleton.mp hp]; exact h
  obtain ⟨X2, hm, up2⟩ := frag_add (l := [(l, llObj vs n)]) (K := c.K) (h := s₃.heap) (one hl) g₃.inK
  have no2 := frag_tab (l := [(l, llObj vs n)]) (K := c.K) (h := s₃.heap) (one hl) (one (show Value.type "list" ≠ .none by decide)) g₃.no g₃.tab.obj
  have nf2 := frag_nf (l := [(l, llObj vs n)]) (K := c.K) (one (nfr_of (T := "list") rfl)) g₃.nf
  have la := hm _ (.head _)
  have gu := g₃.up X2 no2 nf2
  generalize ([(l, llObj vs n)] ++ c.K : Frag) = K' at *
  have k12 := k₁.trans k₂
  have k123 := k12.trans k₃
  refine ((hc K' l vs n up2 la nl (Txts.of hr)).run A (F.ext s₁.heap) s₃ [v1, .ref l] R gu (.cons (q2.kp k₃.kp) (.cons rfl .nil))).use fun v s₄ k₄ t₄ h₄ => ⟨k123.trans k₄, ?_⟩
  refine h₄.mono (fun a n f => ?_) fun _ _ _ _ _ e => e
  rcases f with f | f
  · exact Fz.ext_kp k₁.kp n f
  · exact .inr (k123.kp.gone n f)
end
theorem covered_c2 (w : World) (k : Nat) (kepts : List (List Str)) (path : Str) (h : CovOk kepts path) :
    FnC (cx w) (k + 7) (.ref 218) [.d (encRows kepts), .d (.str path)] (.d (encRows (coveredOf kepts path))) := by
  have hS := sizeLine_eq
  have hl := h.hl
  have hll := h.hll
  have hc := h.hc
  have hn := h.hn
  refine' FnOk.plain (ns := ["kepts", "path"]) ?ok rfl ?hx (binds2 ?hb)
  case ok => (refine' ⟨⟨_, rfl, rfl⟩, rfl, rfl, rfl, rfl, rfl, rfl, rfl, rfl, _, _, _, _⟩ <;> decide)
  case hb => intro v u; rfl
  intro env W T
  unfold coveredOf
  dsimp only
  generalize hlast : kepts.getLast?.getD [] = last at hll hc
  have lastE : ∀ {σ : Loc} {p1 p2 p3 p4 : Pos} {m : Nat} {W' : List Addr} {e : Env}, σ.lookup ("kepts" : Str) = some (.d (encRows kepts)) → Ev (cx w) (k + 6) e σ (.Subscript (.Name "kepts" p1) (.UnaryOp .USub (.Constant (.int 1) m p2) p3) p4) (.d (encRow last)) :=
    fun {σ p1 p2 p3 p4 m W' e} hx => hlast ▸ Ev.lastOf hx hn rfl rfl
  refine Ex.cons (Ex1.assignComp (ds := last.map fun one => .tuple [.str one, .str (commonTxt path one)]) T (by constructor <;> decide) (SrcX.listMap (f := .str) (xs := last) (lastE (W' := W) rfl)) (by decide) (T.store (by decide)) (fun cenv W' Tc => CompR.mapR (as := last) (ent := fun x => .d (.str x)) (bnd := fun x => [("one", .d (.str x))]) (fun _ _ => .name) (fun x hx => ?c1)) (by rw [List.length_map]; lia) (swaps_list T rfl rfl rfl)) ?_
  case c1 => exact Ev.tupD (ds := [_, _]) (EvAll.two (Ev.name rfl) (Ev.call (Ev.globT Tc rfl rfl) (.inr (.inr rfl)) (EvAll.one (Ev.listD (ds := [_, _]) (EvAll.two (Ev.name rfl) (Ev.name rfl)) (by show 2 ≤ _; lia))) (commonpath_c w (k + 2) path x (hc x hx).1))) (by show 2 ≤ _; lia)
  have hstr : ∀ {f : Str → Bool}, ∀ x ∈ last.filter f, PyData.strOk x = true := fun {f} x hx => (hc x (List.mem_filter.mp hx).1).2
  have hfl : ∀ (f : Str → Bool), (last.filter f).length ≤ 100 := fun f => Nat.le_trans (List.length_filter_le _ _) hll
  have e1 : (!PyData.eqv (encRow (last.filter fun one => (commonTxt path one == one))) (.list [])) = !(last.filter fun one => (commonTxt path one == one)).isEmpty := by
    have := eqv_row (last.filter fun one => (commonTxt path one == one)) []
    show (!PyData.eqv _ (encRow [])) = _
    rw [this]
    cases last.filter fun one => (commonTxt path one == one) <;> rfl
  cases hb : (last.filter fun one => (commonTxt path one == one)).isEmpty with
  | false =>
    rw [if_neg (by decide)]
    refine Ex.stop (Ex1.ite (v := true) ((EvB.cmp (Ev.comp (ds := (last.filter fun one => (commonTxt path one == one)).map .str) T (by constructor <;> decide) (SrcX.listMap (f := fun one => .tuple [.str one, .str (commonTxt path one)]) (xs := last) (Ev.name rfl)) (by decide) (fun cenv W' Tc => CompR.gen (as := last) (ent := fun x => .d (.tuple [.str x, .str (commonTxt path x)])) (bnd := fun x => [("meet", .d (.str (commonTxt path x))), ("one", .d (.str x))]) (f := fun one => (commonTxt path one == one)) (g := .str) (fun _ _ => .two) (fun x hx => .one (EvB.cmp (Ev.name rfl) (Ev.name rfl) Op2.eqStr)) (fun x _ _ => Ev.name rfl)) (by rw [List.length_map]; have := hfl fun one => (commonTxt path one == one); lia)) (Ev.listD (ds := []) .nil (Nat.zero_le _)) (Op2.ne (Good.row hstr) (show Good (.list []) from (Good.row (xs := []) (fun _ h => nomatch h))))).eq (by rw [e1, hb]; rfl)) (fun _ => Ex.one (Ex1.ret ?r1)) (fun h => nomatch h)) (fun _ h => nomatch h)
    case r1 => exact (Ev.bin (Ev.name rfl) (Ev.listD (ds := [_]) (EvAll.one (lastE (W' := W) rfl)) (by show 1 ≤ _; lia)) (Op2.addList (by rw [List.length_map]; show _ + 1 ≤ _; lia))).eq (by simp [encRows])
  | true =>
    rw [if_pos rfl]
    refine Ex.cons (Ex1.ite (v := false) ((EvB.cmp (Ev.comp (ds := (last.filter fun one => (commonTxt path one == one)).map .str) T (by constructor <;> decide) (SrcX.listMap (f := fun one => .tuple [.str one, .str (commonTxt path one)]) (xs := last) (Ev.name rfl)) (by decide) (fun cenv W' Tc => CompR.gen (as := last) (ent := fun x => .d (.tuple [.str x, .str (commonTxt path x)])) (bnd := fun x => [("meet", .d (.str (commonTxt path x))), ("one", .d (.str x))]) (f := fun one => (commonTxt path one == one)) (g := .str) (fun _ _ => .two) (fun x hx => .one (EvB.cmp (Ev.name rfl) (Ev.name rfl) Op2.eqStr)) (fun x _ _ => Ev.name rfl)) (by rw [List.length_map]; have := hfl fun one => (commonTxt path one == one); lia)) (Ev.listD (ds := []) .nil (Nat.zero_le _)) (Op2.ne (Good.row hstr) (show Good (.list []) from (Good.row (xs := []) (fun _ h => nomatch h))))).eq (by rw [e1, hb]; rfl)) (fun h => nomatch h) (fun _ => Ex.nil)) (Ex.one (Ex1.ret ?r2))
    case r2 =>
      have hin : ∀ {σ : Loc} {e : Env}, True := fun {_ _} => trivial
      refine Ev.eq (Ev.bin (Ev.name rfl) (Ev.listD (ds := [encRow (filtOut last (last.filter fun one => (commonTxt path one == path)) ++ [path])]) (EvAll.one (Ev.eq (Ev.bin (Ev.callN (Ev.globT T rfl rfl) rfl (lastE (W' := W) rfl) (EvN.comp (ds := (last.filter fun one => (commonTxt path one == path)).map .str) T (by constructor <;> decide) (SrcX.listMap (f := fun one => .tuple [.str one, .str (commonTxt path one)]) (xs := last) (Ev.name rfl)) (by decide) (fun cenv W' Tc => CompR.gen (as := last) (ent := fun x => .d (.tuple [.str x, .str (commonTxt path x)])) (bnd := fun x => [("meet", .d (.str (commonTxt path x))), ("one", .d (.str x))]) (f := fun one => (commonTxt path one == path)) (g := .str) (fun _ _ => .two) (fun x hx => .one (EvB.cmp (Ev.name rfl) (Ev.name rfl) Op2.eqStr)) (fun x _ _ => Ev.name rfl)) (by rw [List.length_map]; have := hfl fun one => (commonTxt path one == path); lia)) (fun K' l vs n up la nl hT => filter_c (k := k) up la hT nl (by lia))) (Ev.listD (ds := [.str path]) (EvAll.one (Ev.name rfl)) (by show 1 ≤ _; lia)) (Op2.addList ?s1)) ?e2)) (by show 1 ≤ _; lia)) (Op2.addList (by rw [List.length_map]; show _ + 1 ≤ _; lia))) (by simp [encRows])
      case s1 =>
        rw [List.length_map]
        have : (filtOut last (last.filter fun one => (commonTxt path one == path))).length ≤ 100 := Nat.le_trans (List.length_filter_le _ _) hll
        show _ + 1 ≤ _; lia
      case e2 => simp [encRow]
end Mine
end
section
open PySem
namespace Mine
variable [iO : Old]
noncomputable def steps3 : List Str := ["a", "ab", "b"]
noncomputable def allRows : List (List Str) := [[]] ++ steps3.map (fun a => [a]) ++ steps3.flatMap (fun a => steps3.map fun b => [a, b]) ++ steps3.flatMap (fun a => steps3.flatMap fun b => steps3.map fun c => [a, b, c])
noncomputable def normOkB (p : Str) : Bool :=
  (Txt.slice p none (some 1) == "/") && !(Txt.slice p (some 1) (some 2) == "/") && decide (p.length ≤ 1000) && decide ((Txt.slice p (some 1) none).length ≤ 1000)
  && decide ((Builtin.Str.partsBetween (Txt.slice p (some 1) none) (Builtin.Str.occurrences (Txt.slice p (some 1) none) "/" 0 (Txt.slice p (some 1) none).length ((Txt.slice p (some 1) none).length + 1)) (("/" : Str).length)).length ≤ 1000)
  && decide ((Txt.split (Txt.slice p (some 1) none) "/").length ≤ 500) && (Txt.split (Txt.slice p (some 1) none) "/").all (fun c => decide (c.length ≤ 1000))
  && JoinOk "/" ((Txt.split (Txt.slice p (some 1) none) "/").foldl nstep []) && decide ((Txt.join "/" ((Txt.split (Txt.slice p (some 1) none) "/").foldl nstep [])).length ≤ 1000)
theorem normOk_of {p : Str} (h : normOkB p = true) : NormOk p := by
  unfold normOkB at h
  simp only [Bool.and_eq_true, beq_iff_eq, Bool.not_eq_true', decide_eq_true_eq, List.all_eq_true] at h
  obtain ⟨⟨⟨⟨⟨⟨⟨⟨h1, h2⟩, h3⟩, h4⟩, h5⟩, h6⟩, h7⟩, h8⟩, h9⟩ := h
  exact ⟨h1, by simpa using h2, h3, h4, h5, h6, h7, h8, h9⟩
noncomputable def pathOkB (r : List Str) (j : Nat) : Bool :=
  JoinOk "/" r && decide ((Txt.join "/" r).length ≤ 100) && decide ((Txt.replace (Txt.join "/" r) "/" "//").length ≤ 300) && normOkB (jn (variant r j)) && decide ((variant r j).length ≤ 1000) && (pathTxt r j == textOf r)
theorem pathOk_of {r : List Str} {j : Nat} (h : pathOkB r j = true) : PathOk r j ∧ pathTxt r j = textOf r := by
  unfold pathOkB at h
  simp only [Bool.and_eq_true, beq_iff_eq, decide_eq_true_eq] at h
  obtain ⟨⟨⟨⟨⟨h1, h2⟩, h3⟩, h4⟩, h5⟩, h6⟩ := h
  exact ⟨⟨h1, h2, h3, normOk_of h4, h5⟩, h6⟩
theorem allPaths : (allRows.all fun r => (List.range 4).all fun j => pathOkB r j) = true := by decide +kernel
end Mine
end
section
open PySem
namespace Mine
variable [iO : Old]
noncomputable def preOf : List Str → List Str → List Str
  | x :: xs, y :: ys => if x == y then x :: preOf xs ys else []
  | _, _ => []
noncomputable def splitOkB (p : Str) : Bool :=
  decide (p.length ≤ 1000) && decide ((Builtin.Str.partsBetween p (Builtin.Str.occurrences p "/" 0 p.length (p.length + 1)) (("/" : Str).length)).length ≤ 1000) && decide ((Txt.split p "/").length ≤ 500) && (Txt.split p "/").all (fun c => decide (c.length ≤ 1000)) && Txt.startswith p "/"
theorem splitOk_of {p : Str} (h : splitOkB p = true) : SplitOk p := by
  unfold splitOkB at h
  simp only [Bool.and_eq_true, decide_eq_true_eq, List.all_eq_true] at h
  obtain ⟨⟨⟨⟨h1, h2⟩, h3⟩, h4⟩, h5⟩ := h
  exact ⟨h1, h2, h3, h4, h5⟩
noncomputable def rowOkB (r : List Str) : Bool := splitOkB (textOf r) && (compsOf (textOf r) == r) && PyData.strOk (textOf r) && JoinOk "/" r && decide ((Txt.join "/" r).length ≤ 1000)
theorem allRowsOk : (allRows.all rowOkB) = true := by decide +kernel
theorem allPairs : (allRows.all fun r => allRows.all fun q => okp (min2 r q) (max2 r q) && (commonGo (min2 r q) (max2 r q) == preOf r q)) = true := by decide +kernel
end Mine
end
section
open PySem PySem.Builtin PySem.Builtin.Str
namespace Mine
variable [iO : Old]
noncomputable def dirOkB (p : Str) : Bool :=
  decide (p.length ≤ 1000) && PyData.strOk (dirTxt p) && !tooLong (dirHead p).length && decide ((dirHead p).length ≤ 1000)
theorem dirOk_of {p : Str} (h : dirOkB p = true) : DirOk p := by
  unfold dirOkB at h
  simp only [Bool.and_eq_true, decide_eq_true_eq, Bool.not_eq_true'] at h
  obtain ⟨⟨⟨h1, h2⟩, h3⟩, h4⟩ := h
  refine ⟨h1, ⟨?_, fun _ _ => ?_, fun _ _ => ?_⟩, h2⟩
  · simp; lia
  · have : ((("/" : Str).length : Nat) : Int) = 1 := by decide +kernel
    rw [this]
    intro hc
    have hn : ((dirHead p).length : Int) ≤ 1000 := by lia
    have h0 : (1 : Int) ≤ ((dirHead p).length : Int) := by lia
    have := Int.le_ediv_of_mul_le (a := 1) (b := (2 ^ 63 - 1 : Int)) (c := ((dirHead p).length : Int)) (by lia) (by lia)
    lia
  · have : (("/" : Str).length) = 1 := by decide +kernel
    rw [this, Int.toNat_natCast, Nat.one_mul]; exact h3
theorem allDirs : (allRows.all fun r => dirOkB (textOf r) && (r.isEmpty || (dirTxt (textOf r) == textOf r.dropLast && !(textOf r == "/")))) = true := by decide +kernel
end Mine
end
section
open PySem
namespace Mine
variable [iO : Old]
theorem abc_cases (n : Nat) : abc n = "a" ∨ abc n = "ab" ∨ abc n = "b" := by
  unfold abc
  by_cases h : n = 0
  · left; rw [if_pos h]
  · rw [if_neg h]
    by_cases h2 : n = 1
    · right; left; rw [if_pos h2]
    · right; right; rw [if_neg h2]
theorem stepsOf_mem (x : Int) : stepsOf x ∈ allRows := by
  have h4 : (x.fmod 4).toNat = 0 ∨ (x.fmod 4).toNat = 1 ∨ (x.fmod 4).toNat = 2 ∨ (x.fmod 4).toNat = 3 := by
    have : x.fmod 4 = x % 4 := Int.fmod_eq_emod_of_nonneg _ (by decide)
    rw [this]; lia
  unfold stepsOf
  have m0 : ∀ a : Str, (a = "a" ∨ a = "ab" ∨ a = "b") → a ∈ steps3 := fun a h => by rcases h with rfl | rfl | rfl <;> decide
  rcases h4 with h | h | h | h <;> rw [h]
  · simp [allRows]
  · show [abc _] ∈ allRows
    rcases abc_cases (stepIx x 0).toNat with e | e | e <;> rw [e] <;> decide +kernel
  · show [abc _, abc _] ∈ allRows
    rcases abc_cases (stepIx x 0).toNat with e | e | e <;> rcases abc_cases (stepIx x 1).toNat with e2 | e2 | e2 <;> rw [e, e2] <;> decide +kernel
  · show [abc _, abc _, abc _] ∈ allRows
    rcases abc_cases (stepIx x 0).toNat with e | e | e <;> rcases abc_cases (stepIx x 1).toNat with e2 | e2 | e2 <;> rcases abc_cases (stepIx x 2).toNat with e3 | e3 | e3 <;> rw [e, e2, e3] <;> decide +kernel
end Mine
end
section
open PySem PySem.Calls PySem.W PyProof.Rows
namespace Mine
variable [iO : Old]
noncomputable def toldAll (rows : List (List Str)) : List (List (List Str)) := (List.range (rows.length + 1)).map fun n => toldOf (rows.take n)
noncomputable def keptsAll (rows : List (List Str)) : List (List Str) := (toldAll rows).map fun one => one.map textOf
noncomputable def depthKey (one : List (List Str)) (i : Nat) : Int := -((one.getD i []).length : Int)
noncomputable def underOf (rows : List (List Str)) (r : List Str) : List (List Str) := (toldOf rows).filter fun one => r.take one.length == one
structure LawOk (c : Cx) (k : Nat) (rows : List (List Str)) : Prop where
  hlen : rows.length ≤ 20
  hrow : ∀ r ∈ rows, (∀ x ∈ r, PyData.strOk x = true) ∧ r.length ≤ 100 ∧ JoinOk "/" r = true ∧ (Txt.join "/" r).length ≤ 1000 ∧ PyData.strOk (textOf r) = true
  hpath : ∀ (j : Nat) r, rows[j]? = some r → PathOk r j ∧ pathTxt r j = textOf r
  hred : Red c k (.ref 218) [encRow []] (rows.map fun r => .str (textOf r)) ((keptsAll rows).map encRow)
  hin : ∀ one ∈ toldAll rows, ∀ r ∈ one, r ∈ rows
  hol : ∀ one ∈ toldAll rows, one.length ≤ 20
  hsort : ∀ one ∈ toldAll rows, sortK (one.map textOf) = (ordOf (depthKey one) one.length).map fun i => textOf (one.getD i [])
  hled : ∀ r ∈ rows, LedOk 3 (textOf r) ∧ ledTxt 3 (textOf r) ((keptsAll rows).getLast?.getD []) = (underOf rows r).map textOf
theorem rangeGetD {α β : Type} (f : α → β) (d : α) (xs : List α) : (List.range xs.length).map (fun i => f (xs.getD i d)) = xs.map f := by
  apply List.ext_getElem
  · simp
  · intro i h1 h2
    have hi : i < xs.length := by simpa using h2
    simp [List.getD_eq_getElem?_getD, List.getElem?_eq_getElem hi]
theorem getD_some {α : Type} {xs : List α} {i : Nat} {d : α} (h : i < xs.length) : xs[i]? = some (xs.getD i d) := by
  rw [List.getD_eq_getElem?_getD, List.getElem?_eq_getElem h]; rfl
theorem Ev.lastMap {c : Cx} {k : Nat} {env : Env} {σ : Loc} {α : Type} {f : α → PyData} {x : Str} {p1 p2 p3 p4 : Pos} {m : Nat} {xs : List α} {a : α} (hx : σ.lookup x = some (.d (.list (xs.map f)))) (ha : xs.getLast? = some a) (h1 : (x == ("__debug__" : Str)) = false) (h2 : (x == ("__classdict__" : Str)) = false) :
    Ev c k env σ (.Subscript (.Name x p1) (.UnaryOp .USub (.Constant (.int 1) m p2) p3) p4) (.d (f a)) := by
  have hn : xs ≠ [] := fun z => by rw [z] at ha; injection ha
  have hl := List.length_pos_iff.mpr hn
  refine Ev.idxNeg (Ev.name hx h1 h2) (Ev.un Ev.cint Op1.negInt) (by decide) (by rw [List.length_map]; lia) (by decide) ?_
  have e : ((-1 : Int) + (xs.map f).length).toNat = xs.length - 1 := by rw [List.length_map]; lia
  rw [e, List.getElem?_map, ← List.getLast?_eq_getElem?, ha]; rfl
theorem zip_told {α β : Type} (f : α → PyData) (g : α → PyData) : ∀ xs : List α, zipEnts (xs.map f) (xs.map g) = xs.map fun x => Ent.d (.tuple [f x, g x]) := by
  intro xs
  induction xs with
  | nil =>
    exact rfl
  | cons x xs ih =>
    have := ih
    unfold zipEnts at this ⊢
    simp only [List.map_cons, List.zipWith_cons_cons, this]
theorem swaps_cell {env : Env} {names : List (Str × NameKind)} {W : List Addr} {elt : PySem.Expr} {gens : List Comprehension} {scope : Scope} {pos py : Pos} {y : Str} {line : Nat} (T : EnvT env names W) (hy : names.lookup y = some .cell) : swapsWith (.ListComp elt gens scope pos) (some (.Name y py)) line env = pure false := by
  have b1 : env.kindOf y = some .cell := T.kind hy (by decide)
  show (pure (env.blockKind == .function && env.kindOf y == some .local && py.line == pos.line && !(scope.names.any fun (n, k) => n == y && (k == .local || k == .cell))) : Sem Bool) = pure false
  rw [b1]
  congr 1
  simp
theorem eqv_refl_row (a : List Str) : PyData.eqv (encRow a) (encRow a) = true := by rw [eqv_row]; exact beq_self_eq_true a
theorem eqv_refl_rows (a : List (List Str)) : PyData.eqv (encRows a) (encRows a) = true := by rw [eqv_rows]; exact beq_self_eq_true a
theorem LoopR.each {c : Cx} {k : Nat} {env : Env} {W : List Addr} {tgt : PySem.Expr} {body : List Stmt} {σ : Loc} {α : Type} {ent : α → Ent} {bnd : α → Loc} : ∀ {xs : List α}, (∀ x ∈ xs, Binds tgt (ent x) (bnd x)) → (∀ x ∈ xs, ∀ p ∈ bnd x, CanStore env W p.1) → (∀ x ∈ xs, Ex c k env W (bnd x ++ σ) body (.next σ)) → LoopR c k env W tgt body (xs.map ent) σ (.next σ) := by
  intro xs
  induction xs with
  | nil =>
    intro _ _ _
    exact .done
  | cons x xs ih =>
    intro h1 h2 h3
    exact .next (h1 x (.head _)) (h2 x (.head _)) (h3 x (.head _)) (ih (fun y m => h1 y (.tail _ m)) (fun y m => h2 y (.tail _ m)) fun y m => h3 y (.tail _ m))
theorem law_c (w : World) (k : Nat) (s : List Int) (hs : s.length ≤ 1000) (H : LawOk (cx w) (k + 7) (rowsOf s)) :
    ∃ fd body, FnOk (cx w) 249 fd body ["script"] ∧ fd.scope.names.lookup ("script" : Str) = some .local ∧ (∀ v : Value, bindArgs fd ⟨[v], []⟩ = pure [(("script" : Str), v)]) ∧
      ∀ env W, EnvT env fd.scope.names W → Ex (cx w) (k + 8) env W (([("script" : Str)]).zip [.d (.list (s.map .int))]) body (.ret (.d (.bool true))) := by
  have hS := sizeLine_eq
  refine' ⟨_, _, ?ok, ?loc, ?hb, ?hx⟩
  case ok => (refine' ⟨⟨_, rfl, rfl⟩, rfl, rfl, rfl, rfl, rfl, rfl, rfl, rfl, _, _, _, _⟩ <;> decide)
  case loc => rfl
  case hb => intro v; rfl
  intro env W T
  generalize hR : rowsOf s = rows at H
  have hlen := H.hlen
  have gtext : ∀ {xs : List (List Str)}, (∀ r ∈ xs, r ∈ rows) → ∀ x ∈ xs.map textOf, PyData.strOk x = true := fun {xs} h x hx => by
    obtain ⟨r, hr, rfl⟩ := List.mem_map.mp hx
    exact (H.hrow r (h r hr)).2.2.2.2
  have text : ∀ {σ : Loc} {e : Env} {x : PySem.Expr} {p1 p2 : Pos} {r : List Str} {names : List (Str × NameKind)} {Mu : List Addr}, EnvT e names Mu → names.lookup ("_law_text" : Str) = some .globalImplicit → (∀ y p, x ≠ .Starred y p) → r ∈ rows → Ev (cx w) (k + 8) e σ x (.d (encRow r)) → Ev (cx w) (k + 8) e σ (.Call (.Name "_law_text" p1) [x] [] p2) (.d (.str (textOf r))) := fun {σ e x p1 p2 r names Mu} Te hn ns hr hx =>
    Ev.call (Ev.globT Te rfl hn) (.inr (.inr rfl)) (EvAll.one hx ns) (text_c w (k + 7) r (H.hrow r hr).2.2.1 (H.hrow r hr).2.2.2.1)
  refine Ex.cons (Ex1.assign ((Ev.call (Ev.globT T rfl rfl) (.inr (.inr rfl)) (EvAll.one (Ev.name rfl)) (steps_c w (k + 7) s hs)).eq (by rw [hR])) (T.store (by decide))) ?_
  refine Ex.cons (Ex1.assignComp (ds := rows.map fun r => .str (textOf r)) T (by constructor <;> decide) (SrcX.range (n := rows.length) (Ev.biT T rfl rfl rfl) (Ev.call (Ev.biT T rfl rfl rfl) (.inl ⟨_, rfl⟩) (EvAll.one (Ev.name rfl)) (FnC.lenMap (xs := rows) (by lia))) (by lia)) (by decide) (T.store (by decide)) (fun cenv W' Tc => ?c2) (by rw [List.length_map]; lia) (swaps_list T rfl rfl rfl)) ?_
  case c2 =>
    rw [← rangeGetD (fun r => PyData.str (textOf r)) [] rows]
    refine CompR.mapR (as := List.range rows.length) (ent := fun (i : Nat) => .d (.int (i : Int))) (bnd := fun j => [("k", .d (.int (j : Int)))]) (fun _ _ => .name) fun j hj => ?_
    have hj' := List.mem_range.mp hj
    obtain ⟨q1, q2⟩ := H.hpath j _ (getD_some (d := []) hj')
    refine (Ev.call (Ev.globT Tc rfl rfl) (.inr (.inr rfl)) (EvAll.two (Ev.idx (xs := rows.map encRow) (n := (j : Int)) (Ev.name rfl) (Ev.name rfl) (by lia) (by lia) (by rw [Int.toNat_natCast, List.getElem?_map, getD_some (d := []) hj']; rfl)) (Ev.name rfl)) (path_c w (k + 4) _ j q1)).eq (by rw [q2])
  refine Ex.cons (Ex1.ite (v := false) ((EvB.cmp (Ev.name rfl) (Ev.comp (ds := rows.map fun r => .str (textOf r)) T (by constructor <;> decide) (SrcX.listMap (f := encRow) (xs := rows) (Ev.name rfl)) (by decide) (fun cenv W' Tc => CompR.mapR (bnd := fun r => [("row", .d (encRow r))]) (fun _ _ => .name) (fun r hr => text Tc rfl (by intro _ _ h; injection h) hr (Ev.name rfl))) (by rw [List.length_map]; lia)) (Op2.ne ?g1 ?g1)).eq ?e1) (fun h => nomatch h) (fun _ => Ex.nil)) ?_
  case g1 =>
    have := Good.row (gtext (xs := rows) fun _ h => h)
    rwa [show encRow (rows.map textOf) = .list (rows.map fun r => .str (textOf r)) by rw [encRow, List.map_map]; rfl] at this
  case e1 =>
    have := eqv_refl_row (rows.map textOf)
    rw [show encRow (rows.map textOf) = .list (rows.map fun r => .str (textOf r)) by rw [encRow, List.map_map]; rfl] at this
    rw [this]; rfl
  refine Ex.cons (Ex1.assign (Ev.call (Ev.globT T rfl rfl) (.inr (.inr rfl)) (EvAll.three (Ev.globT T rfl rfl) (Ev.name rfl) (Ev.listD (ds := [encRow []]) (EvAll.one (Ev.listD (ds := []) .nil (Nat.zero_le _))) (by show 1 ≤ _; lia))) (reduce_c w (k + 7) (.ref 218) _ _ _ (.inr (.inr rfl)) H.hred)) (T.store (by decide))) ?_
  have hta : (toldAll rows).length ≤ 21 := by unfold toldAll; rw [List.length_map, List.length_range]; lia
  refine Ex.cons (Ex1.assign (Ev.comp (ds := (toldAll rows).map encRows) T (by constructor <;> decide) (SrcX.range (n := rows.length + 1) (Ev.biT T rfl rfl rfl) ((Ev.bin (Ev.call (Ev.biT T rfl rfl rfl) (.inl ⟨_, rfl⟩) (EvAll.one (Ev.name rfl)) (FnC.lenMap (xs := rows) (by lia))) Ev.cint Op2.addInt).eq (by rw [Int.natCast_succ])) (by lia)) (by decide) (fun cenv W' Tc => ?c5) (by rw [List.length_map]; lia)) (T.store (by decide)) (swaps_cell T rfl)) ?_
  case c5 =>
    unfold toldAll
    rw [List.map_map]
    refine CompR.mapR (as := List.range (rows.length + 1)) (ent := fun (i : Nat) => .d (.int (i : Int))) (bnd := fun j => [("count", .d (.int (j : Int)))]) (fun _ _ => .name) fun j hj => ?_
    refine Ev.call (Ev.globT Tc rfl rfl) (.inr (.inr rfl)) (EvAll.one (Ev.uptoMap (f := encRow) (xs := rows) (Ev.name rfl) (Ev.name rfl) (by lia))) (told_c w (k + 7) (rows.take j) (fun r hr => ?_) (by rw [List.length_take]; lia))
    have := H.hrow r (List.mem_of_mem_take hr)
    exact ⟨this.1, this.2.1⟩
  have hka : (keptsAll rows).length ≤ 21 := by unfold keptsAll; rw [List.length_map]; exact hta
  have hlastT : (toldAll rows).getLast? = some (toldOf rows) := by
    unfold toldAll
    rw [List.range_succ, List.map_append, List.map_singleton, List.getLast?_append, List.take_length]; rfl
  have hlastK : (keptsAll rows).getLast? = some ((toldOf rows).map textOf) := by
    unfold keptsAll
    rw [List.getLast?_map, hlastT]; rfl
  have hmemT : toldOf rows ∈ toldAll rows := List.mem_of_getLast? hlastT
  refine Ex.cons (Ex1.ite (v := false) ((EvB.cmp (Ev.name rfl) (Ev.comp (ds := (keptsAll rows).map encRow) T (by constructor <;> decide) (SrcX.listMap (f := encRows) (xs := toldAll rows) (Ev.name rfl)) (by decide) (fun cenv W' Tc => ?c6) (by rw [List.length_map]; lia)) (Op2.ne ?g6 ?g6)).eq (by rw [eqv_refl_rows]; rfl)) (fun h => nomatch h) (fun _ => Ex.nil)) ?_
  case c6 =>
    unfold keptsAll
    rw [List.map_map]
    refine CompR.mapR (bnd := fun one => [("one", .d (encRows one))]) (fun _ _ => .name) fun one ho => ?_
    have := H.hol one ho
    refine (Ev.comp (ds := one.map fun r => .str (textOf r)) Tc (by constructor <;> decide) (SrcX.listMap (f := encRow) (xs := one) (Ev.name rfl)) (by decide) (fun cenv2 W2 Tc2 => CompR.mapR (bnd := fun r => [("row", .d (encRow r))]) (fun _ _ => .name) (fun r hr => text Tc2 rfl (by intro _ _ h; injection h) (H.hin one ho r hr) (Ev.name rfl))) (by rw [List.length_map]; lia)).eq ?_
    show _ = Ent.d (.list ((one.map textOf).map .str))
    rw [List.map_map]; rfl
  case g6 =>
    refine Good.rows fun r hr => ?_
    obtain ⟨one, ho, rfl⟩ := List.mem_map.mp (show r ∈ (toldAll rows).map fun one => one.map textOf from hr)
    exact gtext (H.hin one ho)
  refine Ex.cons (σ₁ := [("told", .d (.list ((toldAll rows).map encRows))), ("kepts", .d (.list ((keptsAll rows).map encRow))), ("paths", .d (.list (rows.map fun r => .str (textOf r)))), ("rows", .d (encRows rows)), ("script", .d (.list (s.map .int)))]) (Ex1.for2 (SrcX2.zip (Ev.biT T rfl rfl rfl) (Ev.name rfl) (Ev.name rfl)) ?loop) ?_
  case loop =>
    rw [show (keptsAll rows).map encRow = (toldAll rows).map fun one => encRow (one.map textOf) by unfold keptsAll; rw [List.map_map]; rfl, zip_told (β := Unit)]
    refine LoopR.each (bnd := fun one => [("one", .d (encRows one)), ("kept", .d (encRow (one.map textOf)))]) (fun _ _ => .two) (fun one ho p hp => ?_) fun one ho => ?_
    · have hone : CanStore env W "one" := T.store (by decide)
      have hkept : CanStore env W "kept" := T.store (by decide)
      rcases List.mem_cons.mp hp with rfl | hp
      · exact hone
      · rw [List.mem_singleton.mp hp]; exact hkept
    have hol := H.hol one ho
    have hin := H.hin one ho
    have hord : ∀ i ∈ ordOf (depthKey one) one.length, i < one.length := fun i hi => List.mem_range.mp ((ordOf_perm _ _).mem_iff.mp hi)
    have hordl : (ordOf (depthKey one) one.length).length = one.length := by rw [(ordOf_perm _ _).length_eq, List.length_range]
    have getOne : ∀ {i : Nat}, i < one.length → (one.map encRow)[((i : Int)).toNat]? = some (encRow (one.getD i [])) := fun {i} hi => by
      rw [Int.toNat_natCast, List.getElem?_map, getD_some (d := []) hi]; rfl
    have hmem : ∀ {i : Nat}, i < one.length → one.getD i [] ∈ rows := fun {i} hi => hin _ (List.mem_of_getElem? (getD_some (d := []) hi))
    refine Ex.weak (Ex.cons (Ex1.assign (Ev.call (Ev.biT T rfl rfl rfl) (.inl ⟨_, rfl⟩) (EvAll.one (Ev.comp (ds := (List.range one.length).map fun i => pairD (depthKey one i) i) T (by constructor <;> decide) (SrcX.range (n := one.length) (Ev.biT T rfl rfl rfl) (Ev.call (Ev.biT T rfl rfl rfl) (.inl ⟨_, rfl⟩) (EvAll.one (Ev.name rfl)) (FnC.lenMap (xs := one) (by lia))) (by lia)) (by decide) (fun cenv W' Tc => CompR.mapR (as := List.range one.length) (ent := fun (i : Nat) => .d (.int (i : Int))) (bnd := fun j => [("k", .d (.int (j : Int)))]) (fun _ _ => .name) fun j hj => ?el) (by rw [List.length_map, List.length_range]; lia))) (sortPairs_c (k := k + 7) (n := one.length) (a := depthKey one) (by lia))) (T.store (by decide)))
      (Ex.one (Ex1.ite (v := false) ((EvB.cmp ((Ev.sortKey (k := k + 2) (xs := one.map textOf) (Ev.biT T rfl rfl rfl) (Ev.name rfl) (Ev.globT T rfl rfl) (Ev.globT T rfl rfl) (by rw [List.length_map]; lia)).eq (b := .d (encRow ((ordOf (depthKey one) one.length).map fun i => textOf (one.getD i [])))) (by rw [H.hsort one ho])) (Ev.comp (ds := ((ordOf (depthKey one) one.length).map fun i => textOf (one.getD i [])).map .str) T (by constructor <;> decide) (SrcX.listMap (f := fun i => pairD (depthKey one i) i) (xs := ordOf (depthKey one) one.length) (Ev.name rfl)) (by decide) (fun cenv W' Tc => ?c7) (by rw [List.length_map, List.length_map]; lia)) (Op2.ne ?g7 ?g7)).eq (by rw [eqv_refl_row]; rfl)) (fun h => nomatch h) (fun _ => Ex.nil)))) (subList fun p hp => ?_)
    case el =>
      have hj' := List.mem_range.mp hj
      have := (H.hrow _ (hmem hj')).2.1
      exact Ev.tupD (ds := [.int (depthKey one j), .int j]) (EvAll.two (Ev.un (Ev.call (Ev.biT Tc rfl rfl rfl) (.inl ⟨_, rfl⟩) (EvAll.one (Ev.idx (xs := one.map encRow) (n := (j : Int)) (Ev.name rfl) (Ev.name rfl) (by lia) (by lia) (getOne hj'))) (FnC.lenMap (f := .str) (xs := one.getD j []) (by lia))) Op1.negInt) (Ev.name rfl)) (by show 2 ≤ _; lia)
    case c7 =>
      rw [List.map_map]
      refine CompR.mapR (bnd := fun (i : Nat) => [("k", .d (.int (i : Int))), ("depth", .d (.int (depthKey one i)))]) (fun _ _ => .two) fun i hi => ?_
      have hi' := hord i hi
      exact text Tc rfl (by intro _ _ h; injection h) (hmem hi') (Ev.idx (xs := one.map encRow) (n := (i : Int)) (Ev.name rfl) (Ev.name rfl) (by lia) (by lia) (getOne hi'))
    case g7 =>
      refine Good.row fun x hx => ?_
      obtain ⟨i, hi, rfl⟩ := List.mem_map.mp hx
      exact (H.hrow _ (hmem (hord i hi))).2.2.2.2
    simp only [List.mem_cons, List.not_mem_nil, or_false] at hp
    rcases hp with rfl | rfl | rfl | rfl | hp
    · rfl
    · rfl
    · rfl
    · rfl
    · rw [List.mem_singleton.mp (show p ∈ [(("script" : Str), Ent.d (.list (s.map .int)))] from hp)]; rfl
  refine Ex.cons (Ex1.assignComp (ds := rows.map fun r => encRow ((underOf rows r).map textOf)) T (by constructor <;> decide) (SrcX.listMap (f := fun r => .str (textOf r)) (xs := rows) (Ev.name rfl)) (by decide) (T.store (by decide)) (fun cenv W' Tc => CompR.mapR (bnd := fun r => [("path", .d (.str (textOf r)))]) (fun _ _ => .name) fun r hr => ?c8) (by rw [List.length_map]; lia) (swaps_list T rfl rfl rfl)) ?_
  case c8 =>
    have hl := H.hled r hr
    rw [hlastK] at hl
    exact (Ev.call (Ev.globT Tc rfl rfl) (.inr (.inr rfl)) (EvAll.two (Ev.name rfl) (Ev.lastMap (f := encRow) (xs := keptsAll rows) rfl hlastK rfl rfl)) (led_c w (k + 5) 3 (textOf r) ((toldOf rows).map textOf) hl.1 (H.hrow r hr).2.2.2.2 (gtext (H.hin _ hmemT)) (by decide))).eq (by rw [← hl.2]; rfl)
  have hunder : ∀ r, ∀ q ∈ underOf rows r, q ∈ rows := fun r q hq => H.hin _ hmemT q (List.mem_filter.mp hq).1
  have hunl : ∀ r, (underOf rows r).length ≤ 20 := fun r => Nat.le_trans (List.length_filter_le _ _) (H.hol _ hmemT)
  have e9 : (rows.map fun r => encRow ((underOf rows r).map textOf)) = (rows.map fun r => (underOf rows r).map textOf).map encRow := by rw [List.map_map]; rfl
  refine Ex.one (Ex1.ret ((Ev.cmp (Ev.name rfl) (Ev.comp (ds := rows.map fun r => encRow ((underOf rows r).map textOf)) T (by constructor <;> decide) (SrcX.listMap (f := encRow) (xs := rows) (Ev.name rfl)) (by decide) (fun cenv W' Tc => CompR.mapR (bnd := fun r => [("row", .d (encRow r))]) (fun _ _ => .name) fun r hr => ?c9) (by rw [List.length_map]; lia)) (Op2.eq ?g9 ?g9)).eq (by rw [e9, eqv_refl_rows])))
  case c9 =>
    have hr' := H.hrow r hr
    refine (Ev.comp (ds := (underOf rows r).map fun one => .str (textOf one)) Tc (by constructor <;> decide) (SrcX.listMap (f := encRow) (xs := toldOf rows) (Ev.lastMap (f := encRows) (xs := toldAll rows) rfl hlastT rfl rfl)) (by decide) (fun cenv2 W2 Tc2 => CompR.gen (bnd := fun one => [("one", .d (encRow one))]) (f := fun one => r.take one.length == one) (g := fun one => .str (textOf one)) (fun _ _ => .name) (fun one ho => .one ?_) (fun one ho _ => text Tc2 rfl (by intro _ _ h; injection h) (H.hin _ hmemT one ho) (Ev.name rfl))) (by rw [List.length_map]; have := hunl r; lia)).eq ?_
    · have ho' := H.hrow one (H.hin _ hmemT one ho)
      exact (EvB.cmp (Ev.uptoMap (f := .str) (xs := r) (n := one.length) (Ev.name rfl) (Ev.call (Ev.biT Tc2 rfl rfl rfl) (.inl ⟨_, rfl⟩) (EvAll.one (Ev.name rfl)) (FnC.lenMap (f := .str) (xs := one) (by lia))) (by lia)) (Ev.name rfl) (Op2.eq (Good.row (fun x hx => hr'.1 x (List.mem_of_mem_take hx))) (Good.row ho'.1))).eq (by rw [eqv_row])
    · show _ = Ent.d (.list (((underOf rows r).map textOf).map .str))
      rw [List.map_map]; rfl
  case g9 =>
    rw [e9]
    refine Good.rows fun x hx => ?_
    obtain ⟨r, hr, rfl⟩ := List.mem_map.mp hx
    exact gtext (hunder r)
end Mine
end
section
open PySem
namespace Mine
variable [iO : Old]
noncomputable def pf (one r : List Str) : Bool := r.take one.length == one
theorem pf_iff {one r : List Str} : pf one r = true ↔ one <+: r := by
  unfold pf
  rw [beq_iff_eq, List.prefix_iff_eq_take]
  exact eq_comm
noncomputable def mn (R : List (List Str)) (x : List Str) : Bool := (R.filter (isAbove x)).isEmpty
theorem above_iff {x one : List Str} : isAbove x one = true ↔ one ≠ x ∧ one <+: x := by
  have : isAbove x one = (!(one == x) && (pf one x && true)) := rfl
  rw [this, Bool.and_true, Bool.and_eq_true, pf_iff]
  simp
theorem mn_iff {R : List (List Str)} {x : List Str} : mn R x = true ↔ ∀ one ∈ R, one <+: x → one = x := by
  unfold mn
  rw [List.isEmpty_iff, List.filter_eq_nil_iff]
  constructor
  · intro h one ho hp
    by_cases e : one = x
    · exact e
    · exact absurd (above_iff.mpr ⟨e, hp⟩) (h one ho)
  · intro h one ho ha
    obtain ⟨h1, h2⟩ := above_iff.mp ha
    exact h1 (h one ho h2)
noncomputable def ustep (acc : List (List Str)) (x : List Str) : List (List Str) := if acc.any (· == x) then acc else acc ++ [x]
noncomputable def uniq (R : List (List Str)) : List (List Str) := R.foldl ustep []
theorem any_iff {acc : List (List Str)} {x : List Str} : acc.any (· == x) = true ↔ x ∈ acc := by simp
theorem any_false {acc : List (List Str)} {x : List Str} (h : x ∉ acc) : acc.any (· == x) = false := by
  cases e : acc.any (· == x) with
  | false => rfl
  | true => exact absurd (any_iff.mp e) h
theorem told_go (p : List Str → Bool) : ∀ (xs acc : List (List Str)), xs.foldl (fun acc x => if p x && !(acc.any (· == x)) then acc ++ [x] else acc) (acc.filter p) = (xs.foldl ustep acc).filter p := by
  intro xs
  induction xs with
  | nil =>
    intro acc
    exact rfl
  | cons x xs ih =>
    intro acc
    rw [List.foldl_cons, List.foldl_cons, ← ih (ustep acc x)]
    congr 1
    unfold ustep
    by_cases hx : x ∈ acc
    · rw [any_iff.mpr hx, if_pos rfl]
      by_cases hp : p x = true
      · rw [any_iff.mpr (List.mem_filter.mpr ⟨hx, hp⟩)]; simp
      · rw [Bool.not_eq_true] at hp; rw [hp]; simp
    · rw [any_false hx, if_neg Bool.false_ne_true, List.filter_append]
      have : x ∉ acc.filter p := fun h => hx (List.mem_filter.mp h).1
      rw [any_false this]
      cases hp : p x <;> simp [hp]
theorem told_eq (R : List (List Str)) : toldOf R = (uniq R).filter (mn R) := told_go (mn R) R []
theorem uniq_snoc (R : List (List Str)) (r : List Str) : uniq (R ++ [r]) = ustep (uniq R) r := by unfold uniq; rw [List.foldl_append]; rfl
theorem ugo_mem : ∀ (xs acc : List (List Str)) (x : List Str), x ∈ xs.foldl ustep acc ↔ x ∈ acc ∨ x ∈ xs := by
  intro xs
  induction xs with
  | nil =>
    intro acc x
    simp
  | cons y xs ih =>
    intro acc x
    rw [List.foldl_cons, ih]
    unfold ustep
    by_cases hy : y ∈ acc
    · rw [any_iff.mpr hy, if_pos rfl, List.mem_cons]
      constructor
      · rintro (h | h)
        · exact .inl h
        · exact .inr (.inr h)
      · rintro (h | rfl | h)
        · exact .inl h
        · exact .inl hy
        · exact .inr h
    · rw [any_false hy, if_neg (by decide), List.mem_append, List.mem_singleton, List.mem_cons, or_assoc]
theorem uniq_mem {R : List (List Str)} {x : List Str} : x ∈ uniq R ↔ x ∈ R := by unfold uniq; rw [ugo_mem]; simp
theorem ugo_nodup : ∀ (xs acc : List (List Str)), acc.Nodup → (xs.foldl ustep acc).Nodup := by
  intro xs
  induction xs with
  | nil =>
    intro acc h
    exact h
  | cons y xs ih =>
    intro acc h
    rw [List.foldl_cons]
    refine ih _ ?_
    unfold ustep
    by_cases hy : y ∈ acc
    · rw [any_iff.mpr hy, if_pos rfl]; exact h
    · rw [any_false hy, if_neg (by decide), List.nodup_append]
      refine ⟨h, by simp, fun a ha b hb => ?_⟩
      rw [List.mem_singleton.mp hb]
      rintro rfl
      exact hy ha
theorem ugo_len : ∀ (xs acc : List (List Str)), (xs.foldl ustep acc).length ≤ acc.length + xs.length := by
  intro xs
  induction xs with
  | nil =>
    intro acc
    exact Nat.le_refl _
  | cons y xs ih =>
    intro acc
    rw [List.foldl_cons, List.length_cons]
    have := ih (ustep acc y)
    have h2 : (ustep acc y).length ≤ acc.length + 1 := by unfold ustep; split <;> simp
    lia
theorem told_nodup (R : List (List Str)) : (toldOf R).Nodup := by rw [told_eq]; exact (ugo_nodup R [] List.nodup_nil).filter _
theorem told_len (R : List (List Str)) : (toldOf R).length ≤ R.length := by
  rw [told_eq]
  have := ugo_len R []
  exact Nat.le_trans (List.length_filter_le _ _) (by simpa [uniq] using this)
theorem told_mem {R : List (List Str)} {x : List Str} : x ∈ toldOf R ↔ x ∈ R ∧ ∀ one ∈ R, one <+: x → one = x := by rw [told_eq, List.mem_filter, uniq_mem, mn_iff]
theorem told_below {R : List (List Str)} : ∀ (n : Nat) (q : List Str), q.length ≤ n → q ∈ R → ∃ m ∈ toldOf R, m <+: q
  | n, q, hn, hq => by
    by_cases h : ∀ one ∈ R, one <+: q → one = q
    · exact ⟨q, told_mem.mpr ⟨hq, h⟩, List.prefix_rfl⟩
    · obtain ⟨one, h⟩ := Classical.not_forall.mp h
      obtain ⟨ho, h⟩ := Classical.not_imp.mp h
      obtain ⟨hp, he⟩ := Classical.not_imp.mp h
      have hl : one.length < q.length := by
        have := hp.length_le
        rcases Nat.lt_or_ge one.length q.length with h | h
        · exact h
        · exact absurd (hp.eq_of_length (by lia)) he
      match n, hn with
      | 0, hn => lia
      | n + 1, hn =>
        obtain ⟨m, h1, h2⟩ := told_below n one (by lia) ho
        exact ⟨m, h1, h2.trans hp⟩
theorem told_one {R : List (List Str)} {r m m' : List Str} (h : m ∈ toldOf R) (h' : m' ∈ toldOf R) (p : m <+: r) (p' : m' <+: r) : m = m' := by
  obtain ⟨a1, a2⟩ := told_mem.mp h
  obtain ⟨b1, b2⟩ := told_mem.mp h'
  rcases List.prefix_or_prefix_of_prefix p p' with q | q
  · exact b2 m a1 q
  · exact (a2 m' b1 q).symm
noncomputable def cstep (L : List (List Str)) (r : List Str) : List (List Str) := if (L.filter fun q => pf q r).isEmpty then (L.filter fun q => !(pf r q)) ++ [r] else L
theorem mn_snoc (R : List (List Str)) (r x : List Str) : mn (R ++ [r]) x = (mn R x && !(isAbove x r)) := by
  unfold mn
  rw [List.filter_append]
  have e : ∀ l l' : List (List Str), (l ++ l').isEmpty = (l.isEmpty && l'.isEmpty) := fun l l' => by cases l <;> simp
  rw [e]
  congr 1
  cases h : isAbove x r <;> simp [h]
theorem told_snoc (R : List (List Str)) (r : List Str) : toldOf (R ++ [r]) = cstep (toldOf R) r := by
  have e0 : toldOf (R ++ [r]) = (ustep (uniq R) r).filter fun x => mn R x && !(isAbove x r) := by
    rw [told_eq, uniq_snoc]
    congr 1
    funext x; exact mn_snoc R r x
  rw [e0]
  unfold cstep
  cases hE : ((toldOf R).filter fun q => pf q r).isEmpty with
  | false =>
    rw [if_neg (by decide)]
    obtain ⟨q, hq⟩ : ∃ q, q ∈ (toldOf R).filter fun q => pf q r := by
      cases h : (toldOf R).filter fun q => pf q r with
      | nil => rw [h] at hE; injection hE
      | cons a l => exact ⟨a, .head _⟩
    obtain ⟨hq1, hq2⟩ := List.mem_filter.mp hq
    have hq2 := pf_iff.mp hq2
    obtain ⟨hqR, hqm⟩ := told_mem.mp hq1
    have same : (uniq R).filter (fun x => mn R x && !(isAbove x r)) = toldOf R := by
      rw [told_eq]
      refine List.filter_congr fun x hx => ?_
      cases hm : mn R x with
      | false => rfl
      | true =>
        cases ha : isAbove x r with
        | false => rfl
        | true =>
          obtain ⟨h1, h2⟩ := above_iff.mp ha
          have e := (mn_iff.mp hm) q hqR (hq2.trans h2)
          subst e
          exact absurd (h2.eq_of_length (Nat.le_antisymm h2.length_le hq2.length_le)) h1
    unfold ustep
    by_cases hr : r ∈ uniq R
    · rw [any_iff.mpr hr, if_pos rfl, same]
    · rw [any_false hr, if_neg (by decide), List.filter_append, same]
      have : mn R r = false := by
        cases hm : mn R r with
        | false => rfl
        | true =>
          have := (mn_iff.mp hm) q hqR hq2
          subst this
          exact absurd (uniq_mem.mpr hqR) hr
      simp [this]
  | true =>
    rw [if_pos rfl]
    have none_ : ∀ q ∈ R, ¬ q <+: r := fun q hq hp => by
      obtain ⟨m, h1, h2⟩ := told_below q.length q (Nat.le_refl _) hq
      have := List.filter_eq_nil_iff.mp (List.isEmpty_iff.mp hE) m h1
      exact this (pf_iff.mpr (h2.trans hp))
    have hr : r ∉ uniq R := fun h => none_ r (uniq_mem.mp h) List.prefix_rfl
    unfold ustep
    rw [any_false hr, if_neg (by decide), List.filter_append, told_eq, List.filter_filter]
    congr 1
    · refine List.filter_congr fun x hx => ?_
      have hxr : r ≠ x := fun e => hr (e ▸ hx)
      have : isAbove x r = pf r x := by
        cases h : isAbove x r with
        | true => exact (pf_iff.mpr (above_iff.mp h).2).symm
        | false =>
          cases h2 : pf r x with
          | false => rfl
          | true =>
            have := above_iff.mpr ⟨hxr, pf_iff.mp h2⟩
            rw [h] at this; injection this
      rw [this, Bool.and_comm]
    · have h1 : mn R r = true := mn_iff.mpr fun one ho hp => absurd hp (none_ one ho)
      have h2 : isAbove r r = false := by
        cases h : isAbove r r with
        | false => rfl
        | true => exact absurd rfl (above_iff.mp h).1
      simp [h1, h2]
theorem filter_self {l : List (List Str)} {r : List Str} (nd : l.Nodup) (hr : r ∈ l) {p : List Str → Bool} (hp : ∀ x ∈ l, p x = true ↔ x = r) : l.filter p = [r] := by
  induction l with
  | nil => cases hr
  | cons a l ih =>
    rw [List.nodup_cons] at nd
    by_cases e : a = r
    · subst e
      rw [List.filter_cons_of_pos ((hp a (.head _)).mpr rfl)]
      congr 1
      rw [List.filter_eq_nil_iff]
      intro x hx h
      exact nd.1 ((hp x (.tail _ hx)).mp h ▸ hx)
    · rw [List.filter_cons_of_neg fun h => e ((hp a (.head _)).mp h)]
      rcases List.mem_cons.mp hr with z | hr
      · exact absurd z.symm e
      · exact ih nd.2 hr fun x hx => hp x (.tail _ hx)
theorem under_split (R : List (List Str)) (r : List Str) : ((toldOf R).filter fun one => pf one r) = (if (toldOf R).any (· == r) then [r] else []) ++ ((toldOf R).filter fun one => pf one r && !(one == r)) := by
  by_cases h : r ∈ toldOf R
  · rw [any_iff.mpr h, if_pos rfl]
    have u : ∀ x ∈ toldOf R, pf x r = true ↔ x = r := fun x hx => ⟨fun hp => told_one hx h (pf_iff.mp hp) List.prefix_rfl, fun e => by rw [e]; exact pf_iff.mpr List.prefix_rfl⟩
    rw [filter_self (told_nodup R) h u]
    have : ((toldOf R).filter fun one => pf one r && !(one == r)) = [] := by
      rw [List.filter_eq_nil_iff]
      intro x hx hp
      rw [Bool.and_eq_true] at hp
      have := (u x hx).mp hp.1
      rw [this] at hp
      simp at hp
    rw [this]; rfl
  · rw [any_false h, if_neg (by decide), List.nil_append]
    refine List.filter_congr fun x hx => ?_
    have : (x == r) = false := beq_false_of_ne fun e => h (e ▸ hx)
    rw [this]; simp
theorem prefix_dropLast {x r : List Str} : (x <+: r ∧ x ≠ r) ↔ r ≠ [] ∧ x <+: r.dropLast := by
  constructor
  · rintro ⟨⟨t, rfl⟩, hn⟩
    have ht : t ≠ [] := fun e => hn (by rw [e, List.append_nil])
    refine ⟨fun e => ht (List.append_eq_nil_iff.mp e).2, ?_⟩
    rw [List.dropLast_append_of_ne_nil ht]
    exact List.prefix_append _ _
  · rintro ⟨hr, hp⟩
    refine ⟨hp.trans (List.dropLast_prefix r), ?_⟩
    rintro rfl
    have := hp.length_le
    rw [List.length_dropLast] at this
    have : 0 < x.length := List.length_pos_iff.mpr hr
    lia
end Mine
end
section
open PySem PySem.Calls
namespace Mine
variable [iO : Old]
noncomputable def moreB (r : List Str) : Bool :=
  r.all PyData.strOk && decide (r.length ≤ 3) && decide (slashes (textOf r) = -(r.length : Int)) && ((textOf r == "/") == r.isEmpty) && ((List.range 4).all fun n => allRows.any (· == r.take n))
theorem allMore : (allRows.all moreB) = true := by decide +kernel
structure RowOk (r : List Str) : Prop where
  st : ∀ x ∈ r, PyData.strOk x = true
  ln : r.length ≤ 3
  sl : slashes (textOf r) = -(r.length : Int)
  rt : (textOf r == "/") = r.isEmpty
  tk : ∀ n, r.take n ∈ allRows
  sp : SplitOk (textOf r)
  co : compsOf (textOf r) = r
  to : PyData.strOk (textOf r) = true
  jo : JoinOk "/" r = true
  jl : (Txt.join "/" r).length ≤ 1000
theorem row_ok {r : List Str} (h : r ∈ allRows) : RowOk r := by
  have h1 := List.all_eq_true.mp allMore r h
  have h2 := List.all_eq_true.mp allRowsOk r h
  unfold moreB at h1
  unfold rowOkB at h2
  simp only [Bool.and_eq_true, beq_iff_eq, decide_eq_true_eq] at h1 h2
  obtain ⟨⟨⟨⟨a1, a2⟩, a3⟩, a4⟩, a5⟩ := h1
  obtain ⟨⟨⟨⟨b1, b2⟩, b3⟩, b4⟩, b5⟩ := h2
  refine ⟨fun x hx => List.all_eq_true.mp a1 x hx, a2, a3, a4, fun n => ?_, splitOk_of b1, b2, b3, b4, b5⟩
  by_cases hn : n < 4
  · have := List.all_eq_true.mp a5 n (List.mem_range.mpr hn)
    simpa using this
  · rw [List.take_of_length_le (by lia)]; exact h
theorem text_inj {r q : List Str} (hr : r ∈ allRows) (hq : q ∈ allRows) : (textOf r == textOf q) = (r == q) := by
  by_cases e : r = q
  · rw [e]; simp
  · rw [beq_false_of_ne e, beq_false_of_ne fun h => e (by rw [← (row_ok hr).co, ← (row_ok hq).co, h])]
theorem preOf_nil {q : List Str} : preOf [] q = [] := by cases q <;> rfl
theorem preOf_cc {x y : Str} {xs ys : List Str} : preOf (x :: xs) (y :: ys) = if x == y then x :: preOf xs ys else [] := rfl
theorem pre_left (r : List Str) : ∀ (q : List Str), preOf r q <+: r := by
  induction r with
  | nil => intro q; rw [preOf_nil]; exact List.nil_prefix
  | cons x xs ih => intro q; cases q with
    | nil => exact List.nil_prefix
    | cons y ys =>
      rw [preOf_cc]
      split
      · exact List.cons_prefix_cons.mpr ⟨rfl, ih ys⟩
      · exact List.nil_prefix
theorem pre_right (r : List Str) : ∀ (q : List Str), preOf r q <+: q := by
  induction r with
  | nil => intro q; rw [preOf_nil]; exact List.nil_prefix
  | cons x xs ih => intro q; cases q with
    | nil => exact List.nil_prefix
    | cons y ys =>
      rw [preOf_cc]
      split
      · rename_i h
        exact List.cons_prefix_cons.mpr ⟨by simpa using h, ih ys⟩
      · exact List.nil_prefix
theorem pre_of_right (r : List Str) : ∀ (q : List Str), q <+: r → preOf r q = q := by
  induction r with
  | nil => intro q h; rw [List.prefix_nil.mp h]; rfl
  | cons x xs ih => intro q h; cases q with
    | nil => rfl
    | cons y ys =>
      obtain ⟨e, h2⟩ := List.cons_prefix_cons.mp h
      subst e
      rw [preOf_cc]
      rw [if_pos (by simp), ih ys h2]
theorem pre_of_left (r : List Str) : ∀ (q : List Str), r <+: q → preOf r q = r := by
  induction r with
  | nil => intro q h; exact preOf_nil
  | cons x xs ih => intro q h; cases q with
    | nil => have := List.prefix_nil.mp h; injection this
    | cons y ys =>
      obtain ⟨e, h2⟩ := List.cons_prefix_cons.mp h
      subst e
      rw [preOf_cc]
      rw [if_pos (by simp), ih ys h2]
theorem pre_mem {r q : List Str} (hr : r ∈ allRows) : preOf r q ∈ allRows := by
  rw [List.prefix_iff_eq_take.mp (pre_left r q)]; exact (row_ok hr).tk _
theorem pair_ok {r q : List Str} (hr : r ∈ allRows) (hq : q ∈ allRows) : okp (min2 r q) (max2 r q) = true ∧ commonOf (textOf r) (textOf q) = preOf r q := by
  have h := List.all_eq_true.mp (List.all_eq_true.mp allPairs r hr) q hq
  rw [Bool.and_eq_true, beq_iff_eq] at h
  refine ⟨h.1, ?_⟩
  unfold commonOf
  rw [(row_ok hr).co, (row_ok hq).co]; exact h.2
theorem common_ok {r q : List Str} (hr : r ∈ allRows) (hq : q ∈ allRows) : CommonOk (textOf r) (textOf q) ∧ commonTxt (textOf r) (textOf q) = textOf (preOf r q) := by
  obtain ⟨h1, h2⟩ := pair_ok hr hq
  have hp := row_ok (pre_mem (q := q) hr)
  refine ⟨⟨(row_ok hr).sp, (row_ok hq).sp, by rw [(row_ok hr).co, (row_ok hq).co]; exact h1, by rw [h2]; exact hp.jo, by rw [h2]; exact hp.jl⟩, ?_⟩
  unfold commonTxt
  rw [h2]; rfl
theorem pre_q {r q : List Str} : (preOf r q == q) = pf q r := by
  cases h : pf q r with
  | true => rw [pre_of_right r q (pf_iff.mp h)]; simp
  | false => refine beq_false_of_ne fun e => ?_; rw [pf_iff.mpr (e ▸ pre_left r q)] at h; injection h
theorem pre_r {r q : List Str} : (preOf r q == r) = pf r q := by
  cases h : pf r q with
  | true => rw [pre_of_left r q (pf_iff.mp h)]; simp
  | false => refine beq_false_of_ne fun e => ?_; rw [pf_iff.mpr (e ▸ pre_right r q)] at h; injection h
theorem filter_text {L : List (List Str)} {p : Str → Bool} {g : List Str → Bool} (h : ∀ q ∈ L, p (textOf q) = g q) : (L.map textOf).filter p = (L.filter g).map textOf := by
  rw [List.filter_map]
  congr 1
  exact List.filter_congr fun q hq => h q hq
theorem any_text {L : List (List Str)} {q : List Str} (hL : ∀ x ∈ L, x ∈ allRows) (hq : q ∈ allRows) : (L.map textOf).any (· == textOf q) = L.any (· == q) := by
  rw [List.any_map]
  induction L with
  | nil => rfl
  | cons a L ih =>
    simp only [List.any_cons, Function.comp]
    rw [text_inj (hL a (.head _)) hq]
    congr 1
    exact ih fun x hx => hL x (.tail _ hx)
theorem covered_step {kepts : List (List Str)} {L : List (List Str)} {r : List Str} (hk : kepts.getLast?.getD [] = L.map textOf) (hL : ∀ x ∈ L, x ∈ allRows) (hr : r ∈ allRows) : coveredOf kepts (textOf r) = kepts ++ [(cstep L r).map textOf] := by
  unfold coveredOf
  dsimp only
  rw [hk]
  have e1 : ((L.map textOf).filter fun one => (commonTxt (textOf r) one == one)) = (L.filter fun q => pf q r).map textOf :=
    filter_text fun q hq => by rw [(common_ok hr (hL q hq)).2, text_inj (pre_mem hr) (hL q hq), pre_q]
  have e2 : ((L.map textOf).filter fun one => (commonTxt (textOf r) one == textOf r)) = (L.filter fun q => pf r q).map textOf :=
    filter_text fun q hq => by rw [(common_ok hr (hL q hq)).2, text_inj (pre_mem hr) hr, pre_r]
  have e3 : filtOut (L.map textOf) ((L.filter fun q => pf r q).map textOf) = (L.filter fun q => !(pf r q)).map textOf := by
    unfold filtOut
    refine filter_text fun q hq => ?_
    rw [any_text (fun x hx => hL x (List.mem_filter.mp hx).1) (hL q hq)]
    congr 1
    cases h : pf r q with
    | true => exact any_iff.mpr (List.mem_filter.mpr ⟨hq, h⟩)
    | false =>
      refine any_false fun m => ?_
      have := (List.mem_filter.mp m).2
      rw [h] at this; injection this
  rw [e1, e2, e3]
  unfold cstep
  cases (L.filter fun q => pf q r) with
  | nil => simp
  | cons a l => simp
noncomputable def keptsUp (rows : List (List Str)) (n : Nat) : List (List Str) := (List.range (n + 1)).map fun i => (toldOf (rows.take i)).map textOf
theorem keptsUp_last (rows : List (List Str)) (n : Nat) : (keptsUp rows n).getLast?.getD [] = (toldOf (rows.take n)).map textOf := by
  unfold keptsUp
  rw [List.range_succ, List.map_append, List.map_singleton, List.getLast?_append]; rfl
theorem told_sub {R : List (List Str)} {x : List Str} (h : x ∈ toldOf R) : x ∈ R := (told_mem.mp h).1
theorem red_go (w : World) (k : Nat) {rows : List (List Str)} (hm : ∀ r ∈ rows, r ∈ allRows) (hn : rows.length ≤ 20) : ∀ (suf : List (List Str)) (n : Nat), rows.drop n = suf → n ≤ rows.length →
    Red (cx w) (k + 7) (.ref 218) ((keptsUp rows n).map encRow) (suf.map fun r => .str (textOf r)) ((keptsAll rows).map encRow) := by
  intro xs
  induction xs with
  | nil =>
    intro n h hle
    have : n = rows.length := by have := List.drop_eq_nil_iff.mp h; lia
    subst this
    have e : keptsAll rows = keptsUp rows rows.length := by unfold keptsAll toldAll keptsUp; rw [List.map_map]; rfl
    rw [e]
    exact .nil
  | cons r suf ih =>
    intro n h hle
    have hlt : n < rows.length := by
      rcases Nat.lt_or_ge n rows.length with z | z
      · exact z
      · rw [List.drop_eq_nil_iff.mpr z] at h; injection h
    have hr : rows[n]? = some r := by
      have := congrArg (fun l => l[0]?) h
      simpa using this
    have hra : r ∈ allRows := hm r (List.mem_of_getElem? hr)
    have hL : ∀ x ∈ toldOf (rows.take n), x ∈ allRows := fun x hx => hm x (List.mem_of_mem_take (told_sub hx))
    have tl : (toldOf (rows.take n)).length ≤ 20 := Nat.le_trans (told_len _) (by rw [List.length_take]; lia)
    have ct : rows.take (n + 1) = rows.take n ++ [r] := by rw [List.take_add_one, hr]; rfl
    have step : coveredOf (keptsUp rows n) (textOf r) = keptsUp rows (n + 1) := by
      rw [covered_step (keptsUp_last rows n) hL hra, ← told_snoc, ← ct]
      conv => rhs; unfold keptsUp; rw [List.range_succ, List.map_append, List.map_singleton]
      rfl
    have ok : CovOk (keptsUp rows n) (textOf r) := by
      refine ⟨fun z => ?_, by unfold keptsUp; rw [List.length_map, List.length_range]; lia, by rw [keptsUp_last, List.length_map]; lia, fun one ho => ?_⟩
      · have := congrArg List.length z
        unfold keptsUp at this
        rw [List.length_map, List.length_range] at this
        simp at this
      · rw [keptsUp_last] at ho
        obtain ⟨q, hq, rfl⟩ := List.mem_map.mp ho
        exact ⟨(common_ok hra (hL q hq)).1, (row_ok (hL q hq)).to⟩
    have c := covered_c2 w k (keptsUp rows n) (textOf r) ok
    rw [step] at c
    exact .cons c (ih (n + 1) (by rw [← List.drop_drop, h]; rfl) hlt)
theorem variant_mod (r : List Str) (j : Nat) : variant r j = variant r (j % 4) := by unfold variant; rw [Nat.mod_mod]
theorem path_ok {r : List Str} (h : r ∈ allRows) (j : Nat) : PathOk r j ∧ pathTxt r j = textOf r := by
  have h1 := List.all_eq_true.mp (List.all_eq_true.mp allPaths r h) (j % 4) (List.mem_range.mpr (Nat.mod_lt _ (by decide)))
  obtain ⟨⟨a1, a2, a3, a4, a5⟩, b⟩ := pathOk_of h1
  rw [← variant_mod] at a4 a5
  have e : pathTxt r j = pathTxt r (j % 4) := by unfold pathTxt; rw [variant_mod]
  exact ⟨⟨a1, a2, a3, a4, a5⟩, e.trans b⟩
theorem dir_ok {r : List Str} (h : r ∈ allRows) : DirOk (textOf r) ∧ (r ≠ [] → dirTxt (textOf r) = textOf r.dropLast ∧ textOf r ≠ "/") := by
  have h1 := List.all_eq_true.mp allDirs r h
  rw [Bool.and_eq_true, Bool.or_eq_true] at h1
  refine ⟨dirOk_of h1.1, fun hn => ?_⟩
  rcases h1.2 with z | z
  · exact absurd (List.isEmpty_iff.mp z) hn
  · rw [Bool.and_eq_true, beq_iff_eq, Bool.not_eq_true'] at z
    exact ⟨z.1, by simpa using z.2⟩
theorem led_ok : ∀ (n : Nat) (r : List Str), r ∈ allRows → r.length ≤ n → LedOk n (textOf r) := by
  intro xs
  induction xs with
  | zero =>
    intro r h hn
    have : r = [] := List.length_eq_zero_iff.mp (by lia)
    subst this
    show textOf [] = "/"
    decide +kernel
  | succ n ih =>
    intro r h hn
    by_cases e : r = []
    · subst e; exact .inl (by decide +kernel)
    · obtain ⟨h1, h2⟩ := (dir_ok h).2 e
      refine .inr ⟨h2, (dir_ok h).1, ?_⟩
      rw [h1]
      exact ih r.dropLast (by rw [List.dropLast_eq_take]; exact (row_ok h).tk _) (by rw [List.length_dropLast]; lia)
theorem led_nil {R : List (List Str)} (n : Nat) (found : List Str) : ledGo n (textOf []) ((toldOf R).map textOf) found = found ++ ((toldOf R).filter fun one => pf one [] && !(one == [])).map textOf := by
    have e : ((toldOf R).filter fun one => pf one [] && !(one == [])) = [] := by
      rw [List.filter_eq_nil_iff]
      intro x hx hp
      rw [Bool.and_eq_true] at hp
      have := List.prefix_nil.mp (pf_iff.mp hp.1)
      rw [this] at hp
      simp at hp
    rw [e, List.map_nil, List.append_nil]
    cases n with
    | zero => rfl
    | succ n => show (if textOf [] == "/" then _ else _) = _; rw [if_pos (by decide +kernel)]
theorem led_go {R : List (List Str)} (hR : ∀ x ∈ toldOf R, x ∈ allRows) (n : Nat) : ∀ (r : List Str) (found : List Str), r ∈ allRows → r.length ≤ n →
    ledGo n (textOf r) ((toldOf R).map textOf) found = found ++ ((toldOf R).filter fun one => pf one r && !(one == r)).map textOf := by
  induction n with
  | zero => intro r found h hn; obtain rfl := List.length_eq_zero_iff.mp (Nat.le_zero.mp hn); exact led_nil 0 found
  | succ n ih =>
    intro r found h hn
    cases r with
    | nil => exact led_nil _ found
    | cons a l =>
      obtain ⟨h1, h2⟩ := (dir_ok h).2 (by simp)
      generalize hr : a :: l = r at *
      have hne : r ≠ [] := by rw [← hr]; simp
      have hd : r.dropLast ∈ allRows := by rw [List.dropLast_eq_take]; exact (row_ok h).tk _
      unfold ledGo
      rw [beq_false_of_ne h2, if_neg (by decide), h1, ih r.dropLast _ hd (by rw [List.length_dropLast]; lia)]
      have e1 : ((toldOf R).filter fun one => pf one r && !(one == r)) = (toldOf R).filter fun one => pf one r.dropLast := by
        refine List.filter_congr fun x hx => ?_
        have := prefix_dropLast (x := x) (r := r)
        cases q : pf x r.dropLast with
        | true =>
          obtain ⟨b1, b2⟩ := this.mpr ⟨hne, pf_iff.mp q⟩
          rw [pf_iff.mpr b1, beq_false_of_ne b2]; rfl
        | false =>
          cases q2 : (pf x r && !(x == r)) with
          | false => rfl
          | true =>
            rw [Bool.and_eq_true] at q2
            have := (this.mp ⟨pf_iff.mp q2.1, by simpa using q2.2⟩).2
            rw [pf_iff.mpr this] at q; injection q
      rw [e1, under_split R r.dropLast, List.map_append, List.append_assoc]
      congr 2
      unfold pick
      rw [any_text hR hd]
      split <;> rfl
theorem led_told {R : List (List Str)} (hR : ∀ x ∈ toldOf R, x ∈ allRows) {r : List Str} (h : r ∈ allRows) : ledTxt 3 (textOf r) ((toldOf R).map textOf) = (underOf R r).map textOf := by
  unfold ledTxt underOf
  rw [led_go hR 3 r _ h (row_ok h).ln]
  have : ((toldOf R).filter fun one => r.take one.length == one) = (toldOf R).filter fun one => pf one r := rfl
  rw [this, under_split R r, List.map_append]
  congr 1
  unfold pick
  rw [any_text hR h]
  split <;> rfl
theorem sort_told {one : List (List Str)} (h : ∀ x ∈ one, x ∈ allRows) : sortK (one.map textOf) = (ordOf (depthKey one) one.length).map fun i => textOf (one.getD i []) := by
  unfold sortK
  rw [List.length_map]
  have gd : ∀ i, i < one.length → (one.map textOf).getD i "" = textOf (one.getD i []) := fun i hi => by
    rw [List.getD_eq_getElem?_getD, List.getElem?_map, getD_some (d := []) hi]; rfl
  have key : ∀ i, i < one.length → slashes ((one.map textOf).getD i "") = depthKey one i := fun i hi => by
    rw [gd i hi, (row_ok (h _ (List.mem_of_getElem? (getD_some (d := []) hi)))).sl]; rfl
  have e : ordOf (fun i => slashes ((one.map textOf).getD i "")) one.length = ordOf (depthKey one) one.length := ordOf_congr fun i j hi hj => by
    show SR (fun i => slashes ((one.map textOf).getD i "")) i j ↔ _
    unfold SR
    dsimp only
    rw [key i hi, key j hj]
  rw [e]
  refine List.map_congr_left fun i hi => gd i ?_
  exact List.mem_range.mp ((ordOf_perm _ _).mem_iff.mp hi)
theorem law_ok (w : World) (k : Nat) (s : List Int) : LawOk (cx w) (k + 7) (rowsOf s) := by
  have hm : ∀ r ∈ rowsOf s, r ∈ allRows := fun r hr => by
    obtain ⟨x, _, rfl⟩ := List.mem_map.mp hr
    exact stepsOf_mem x
  have hlen : (rowsOf s).length ≤ 20 := by
    unfold rowsOf
    rw [List.length_map, List.length_append, List.length_take]
    show min 4 _ + 8 ≤ 20
    lia
  generalize rowsOf s = rows at *
  have hall : ∀ one ∈ toldAll rows, ∃ n, one = toldOf (rows.take n) := fun one ho => by
    obtain ⟨n, _, rfl⟩ := List.mem_map.mp ho
    exact ⟨n, rfl⟩
  have hin : ∀ one ∈ toldAll rows, ∀ r ∈ one, r ∈ rows := fun one ho r hr => by
    obtain ⟨n, rfl⟩ := hall one ho
    exact List.mem_of_mem_take (told_sub hr)
  refine ⟨hlen, fun r hr => ?_, fun j r hr => path_ok (hm r (List.mem_of_getElem? hr)) j, ?_, hin, fun one ho => ?_, fun one ho => sort_told fun x hx => hm x (hin one ho x hx), fun r hr => ⟨led_ok 3 r (hm r hr) (row_ok (hm r hr)).ln, ?_⟩⟩
  · have q := row_ok (hm r hr)
    exact ⟨q.st, Nat.le_trans q.ln (by decide), q.jo, q.jl, q.to⟩
  · have := red_go w k hm hlen rows 0 rfl (Nat.zero_le _)
    exact this
  · obtain ⟨n, rfl⟩ := hall one ho
    exact Nat.le_trans (told_len _) (by rw [List.length_take]; lia)
  · have e : keptsAll rows = keptsUp rows rows.length := by unfold keptsAll toldAll keptsUp; rw [List.map_map]; rfl
    rw [e, keptsUp_last, List.take_length]
    exact led_told (fun x hx => hm x (told_sub hx)) (hm r hr)
end Mine
end
section
open PySem PySem.Calls PySem.W PyProof.Rows
namespace Mine
variable [iO : Old]
section
variable {M : Model} {A : Around} {E : Value → Shared → Prop} {s₀ s : Shared} {env : Env}
theorem stL1 {n : Str} {v : Value} {m cm : Str → Option Value} {Q : Unit → Shared → Prop} (x : InCallC s₀ env.locals m env.cells cm s) (f : FrameAt s.heap env.locals) (hk : env.scope.kind = .function) (hl : env.kindOf n = some .local)
    (h : ∀ s', InCallC s₀ env.locals (fun y => if y = n then some v else m y) env.cells cm s' → FrameAt s'.heap env.locals → 0 < s'.toks → Q () s') : wpAny M A (storeName env n v) Q E s := by
  rw [storeName_local hl (by rw [hk]; rfl)]
  refine nsSet_cls x.toInCall.ns fun h' hn hs hf => h _ ⟨⟨?_, hn, fun b o e => ?_, x.toInCall.fresh⟩, fun k c hc => (x.cell k c hc).sameBut hs (dict_ne_cell x.toInCall.ns (x.cell k c hc)), x.apart, x.above⟩ (hf f) (Nat.succ_pos _)
  · obtain ⟨h₁, tk, rfl⟩ := x.toInCall.same
    exact ⟨h', _, rfl⟩
  · exact hs.extBut b o (Nat.ne_of_lt (Nat.lt_of_lt_of_le (Heap.lt_size e) x.toInCall.fresh)) (x.toInCall.keep b o e)
theorem newEnv_one {scope : Scope} {globals : Addr} {n : Str} {v : Value} {qual : Str} {func : Option Addr} {code : Value} {builtins : Addr} {Q : Env → Shared → Prop}
    (hk : scope.kind = .function) (hl : scope.names.lookup n = some .local)
    (hQ : ∀ env, env = newEnv scope s.heap.objs.size globals (cellsFrom (s.heap.objs.size + 1) scope.names []) qual func code none builtins →
      ∀ s', InCallC s env.locals (fun y => if y = n then some v else none) env.cells (fun _ => none) s' → FrameAt s'.heap env.locals → 0 < s'.toks → Q env s') :
    wpAny M A (newFunctionEnv scope globals [] [(n, v)] qual func code none builtins) Q E s := by
  simp only [newFunctionEnv, Option.isSome_none, Bool.false_eq_true, if_false]
  refine wpAny_bind (wpAny_alloc ?_)
  refine wpAny_bind (wpAny_layCells _ (fun name kind cells => by cases hkc : kind == NameKind.cell <;> simp [hkc]) _ _ _ _ ?_)
  have ok := cellsFrom_ok scope.names (s.heap.push { cls := .type "frame", data := .dict #[] }) (s.heap.objs.size + 1) [] ⟨fun _ _ hm => (nomatch hm), List.Pairwise.nil⟩ (by rw [Heap.size_push]; exact Nat.le_refl _)
  rw [Heap.size_push] at ok
  rw [show ({ s with heap := s.heap.push { cls := .type "frame", data := .dict #[] } } : Shared).heap.objs.size = s.heap.objs.size + 1 from Heap.size_push ..]
  refine wpAny_bind ?_
  rw [List.forIn_cons]
  refine wpAny_bind (wpAny_bind (stL1 (s₀ := s) (env := newEnv scope s.heap.objs.size globals (cellsFrom (s.heap.objs.size + 1) scope.names []) qual func code none builtins) (m := fun _ => none) (cm := fun _ => none)
    ⟨⟨⟨_, _, rfl⟩, (Heap.Ns.new s.heap (.type "frame")).keeps (pushCells_keeps _ _), fun b o e => pushCells_keeps _ _ b o (Heap.get?_push_of_some _ e), Nat.le_refl _⟩,
      fun n c hc => (ok.empty n c (mem_of_lookup hc)).1, ok.apart, fun n c hm => (ok.empty n c hm).2⟩ ⟨_, _, _, pushCells_keeps _ _ _ _ (Heap.get?_push_size _ rfl), rfl, rfl⟩ hk hl fun s' x f t => wpAny_pure ?_))
  exact wpAny_pure (wpAny_pure (hQ _ rfl s' x f t))
end
section
variable {c : Cx} {k : Nat}
theorem fn_top {a : Addr} {fd : FuncData} {body : List Stmt} {x : Str} {d : PyData} {e : Ent} {v : Value} {A : Around} {s : Shared} (H : FnOk c a fd body [x]) (hloc : fd.scope.names.lookup x = some .local)
    (hb : bindArgs fd ⟨[v], []⟩ = pure [(x, v)]) (hx : ∀ env W, EnvT env fd.scope.names W → Ex c k env W ([x].zip [.d d]) body (.ret e))
    (R : Room (k + 1) A) (g : GdH c.K s.heap) (f : FrOk A.frames s.heap) (hv : Rep (fun b => ∃ o, s.heap.get? b = some o) s.heap v d) :
    wpAny (model c.prog c.w) A (call (.ref a) [v]) (fun u s' => Ks s s' ∧ ∃ F, Holds F s'.heap e u) (fun _ _ => False) s := by
  obtain ⟨o, ho, hd⟩ := H.ho
  refine wpAny_call (codeAny_call_function R.depth (g.inK _ _ ho) hd H.hco H.hgen H.hbody (codeRec_of g.inK H.hcode) ?_)
  rw [hb]
  refine wpAny_pure ?_
  rw [H.hclo]
  refine wpAny_mono (newEnv_one (Q := fun env s₂ => env = callEnvC fd s.heap.objs.size a ∧ FrameAt s₂.heap env.locals ∧ InCallC s env.locals (fun y => if y = x then some v else none) env.cells (fun _ => none) s₂ ∧ 0 < s₂.toks)
    (E := fun _ _ => False) H.hk hloc fun env he s' x f t => ⟨he, f, x, t⟩) (fun env s₂ q => ?_) fun _ _ x => x.elim
  obtain ⟨rfl, X0, X, t₂⟩ := q
  generalize hL : s.heap.objs.size = L at X X0
  have eL : (callEnvC fd L a).locals = L := rfl
  obtain ⟨h₂, tk₂, rfl⟩ := X.toInCall.same
  have kp₂ : Kp s.heap h₂ := Kp.of X.toInCall.keep
  have g₂ : GdH c.K h₂ := g.kp kp₂
  refine ⟨g₂.lim, codeAny_func ?_⟩
  have fresh : ∀ b ∈ muOf (callEnvC fd L a), s.heap.get? b = none ∧ b ≠ tab0 := fun b hb => by
    have hle : s.heap.objs.size ≤ b := by
      rcases List.mem_cons.mp hb with rfl | hb
      · exact X.toInCall.fresh
      · obtain ⟨p, hp, rfl⟩ := List.mem_map.mp hb
        exact Nat.le_of_lt (Nat.lt_of_le_of_lt X.toInCall.fresh (X.above p.1 p.2 hp))
    refine ⟨?_, fun z => ?_⟩
    · cases q : s.heap.get? b with
      | none => rfl
      | some o => exact absurd (Heap.lt_size q) (Nat.not_lt.mpr hle)
    · obtain ⟨o, q⟩ := g.tab.ex
      rw [z] at hle
      exact absurd (Heap.lt_size q) (Nat.not_lt.mpr hle)
  have notF : ∀ b ∈ muOf (callEnvC fd L a), ¬ Ff (fun b => ∃ o, s.heap.get? b = some o) s.heap (muOf (callEnvC fd L a) ++ []) b := fun b hb z => by
    rcases z with ⟨o, e⟩ | ⟨_, z⟩
    · rw [(fresh b hb).1] at e; injection e
    · exact z (by rw [List.append_nil]; exact hb)
  have cellMem : ∀ x cc, (callEnvC fd L a).cells.lookup x = some cc → cc ∈ muOf (callEnvC fd L a) := fun x cc h => .tail _ (List.mem_map_of_mem (f := (·.2)) (mem_of_lookup h))
  have I : InFn { s with toks := 1 } (fun b => ∃ o, s.heap.get? b = some o) (muOf (callEnvC fd L a)) [] (callEnvC fd L a) ([x].zip [.d d]) { s with heap := h₂, toks := tk₂ } := by
    refine ⟨⟨h₂, tk₂, rfl, kp₂⟩, t₂, ⟨⟨_, X.toInCall.ns, fun y ey hy => ?_⟩, notF _ (.head _), (fresh _ (.head _)).2, fun x cc h => ⟨⟨_, X.cell x cc h⟩, notF _ (cellMem x cc h), (fresh _ (cellMem x cc h)).2⟩, fun x y cc h1 h2 => name_of_addr X.apart (mem_of_lookup h1) (mem_of_lookup h2)⟩, fun b hb => (fresh b (by rwa [List.append_nil] at hb)).1, fun b hb => ?_, .head _, fun hb => (fresh tab0 (by rwa [List.append_nil] at hb)).2 rfl, fun a f => f⟩
    · have hy' : List.lookup y [(x, Ent.d d)] = some ey := hy
      rw [List.lookup_cons] at hy'
      by_cases q : y = x
      · subst q
        rw [show (y == y) = true from beq_self_eq_true y] at hy'
        obtain rfl := Option.some.inj hy'
        exact ⟨v, (show Holds _ _ (.d d) v from hv.mono (fun b _ f => .inl f) fun b o _ n c e => kp₂.keep b o n c e), .inl ⟨hloc, if_pos rfl⟩⟩
      · rw [beq_false_of_ne q] at hy'; injection hy'
    · rw [List.append_nil] at hb
      rcases List.mem_cons.mp hb with rfl | hb
      · exact ns_some X.toInCall.ns
      · obtain ⟨p, hp, rfl⟩ := List.mem_map.mp hb
        have hn2 : ((callEnvC fd L a).cells.map (·.1)).Nodup := by
          rw [show (callEnvC fd L a).cells.map (·.1) = (cellsFrom 0 fd.scope.names []).map (·.1) from PyProof.Rows.cellsFrom_names _ _ _ _ _ rfl]; exact H.hcn
        obtain ⟨o, e, _⟩ := X.cell p.1 p.2 (PyProof.Rows.lookup_of_mem_nodup hn2 hp)
        exact ⟨o, e⟩
  refine wpAny_mono ((hx _ _ (callT H.hk H.hgl H.hbi H.hnf)).run _ { s with toks := 1 } (fun b => ∃ o, s.heap.get? b = some o) [] _ (R.deeper _) ⟨H.hk, H.hgl, H.hbi⟩ ⟨g, Nat.one_pos, (f.kp kp₂).deeper (by show fd.scope.kind ≠ _; rw [H.hk]; decide) rfl (fresh L (.head _)).2 (g.nold (fresh L (.head _)).1) X0⟩ I) (fun f s' q => ?_) fun _ _ x => x.elim
  obtain ⟨⟨u, rfl, ⟨h', tk', rfl, kp'⟩, t', h'⟩, _⟩ := q
  exact ⟨⟨_, _, rfl, kp'⟩, _, h'⟩
end
end Mine
end
section
open PySem PySem.Calls PySem.W PyProof.Rows
namespace Mine
theorem intsAre_rep [Old] {F : Fz} {h : Heap} {vs : List Value} {xs : List Int} (r : IntsAre vs xs) : RepAll F h vs (xs.map .int) := by
  induction r with
  | nil => exact .nil
  | cons n t r ih => exact .cons (.int n t) ih
theorem mem_lookup {α : Type} {l : List (Addr × α)} {b : Addr} {o : α} (e : List.lookup b l = some o) : (b, o) ∈ l := by
  induction l with
  | nil => injection e
  | cons a r ih =>
    obtain ⟨c, oc⟩ := a
    rw [List.lookup_cons] at e
    by_cases q : b = c
    · rw [q, beq_self_eq_true] at e; cases e; rw [q]; exact .head _
    · rw [beq_false_of_ne q] at e; exact .tail _ (ih e)
theorem K_nf [Old] (w : World) : ((cx w).K.all fun p => match p.2.cls with | .type T => T != "frame" | _ => true) = true := by kernel_rfl
theorem K_tab [Old] (w : World) : List.lookup tab0 (cx w).K = none := by kernel_rfl
theorem K_law [Old] (w : World) : nsIn (cx w).K mainGlobals "law" = some (some (.ref 249)) := by kernel_rfl
theorem K_code [Old] (w : World) : codeHdIn (cx w).K 27 23 = true := by kernel_rfl
theorem walk (w : World) {s₁ : Shared} {mg mb : Str → Option Value} {l : Addr} {vs : List Value} {xs : List Int} (KX : (hd.heap_1 w.params).In s₁.heap) (hT : s₁.heap.get? 23 = some (tabObj #[])) (hg : s₁.heap.Ns mainGlobals mg) (hb : s₁.heap.Ns builtinsNs mb) (nl : s₁.heap.NoLimit)
    (hbi : ∀ x : Str, x ≠ "__name__" → mb x = bootBuiltins x) (bm : ∃ bm ob, mg "__builtins__" = some (.ref bm) ∧ bm ≠ builtinsNs ∧ s₁.heap.get? bm = some ob ∧ ob.cls = .type "module" ∧ ob.dict = some builtinsNs ∧ ob.data = .plain)
    (hL : s₁.heap.IsList l vs.toArray) (hI : IntsAre vs xs) (hlen : xs.length ≤ 63) :
    wpAny (model PySem.Challenge.pw_il0116_01 w) callerA (call (.ref 249) [.ref l]) (fun v s' => v = .bool true ∧ OldK s₁.heap s'.heap ∧ s'.os = s₁.os ∧ s'.gens = s₁.gens) (fun _ _ => False) s₁ := by
  letI : Old := ⟨fun b => ∃ o, s₁.heap.get? b = some o⟩
  have tb : Tab s₁.heap := .inl hT
  have g : GdH (cx w).K s₁.heap := by
    refine ⟨KX, K_tab w, ⟨mg, hg⟩, ⟨mb, hb, hbi⟩, nl, tb, fun b o e => ?_, ?_, fun b h => h⟩
    · have := List.all_eq_true.mp (K_nf w) _ (mem_lookup e)
      intro z
      dsimp only at this
      rw [z] at this
      exact absurd this (by decide)
    · obtain ⟨b, ob, h1, h2, h3, h4, h5⟩ := bm
      refine ⟨mg, b, ob, hg, h1, h2, fun z => ?_, h3, h4, h5⟩
      rw [z, show s₁.heap.get? tab0 = _ from hT] at h3
      cases h3; injection h4
  have f : FrOk callerA.frames s₁.heap := ⟨[], rfl, fun _ h => nomatch h⟩
  have lt : l ≠ tab0 := fun z => by
    obtain ⟨o, e, c, _⟩ := hL
    rw [z, show s₁.heap.get? tab0 = _ from hT] at e
    cases e; injection c
  have hv : Rep (fun b => ∃ o, s₁.heap.get? b = some o) s₁.heap (.ref l) (.list (xs.map .int)) := Rep.mkList ((by obtain ⟨o, e, _⟩ := hL; exact ⟨o, e⟩)) lt hL (intsAre_rep hI)
  have R : Room 9 callerA := ⟨rfl, by show 1 + claimMargin + 2 * 9 ≤ 999; decide, by show 4 + 40 * 9 ≤ 9800; decide⟩
  obtain ⟨fd, body, H, hloc, hbd, hx⟩ := law_c w 0 xs (by lia) (law_ok w 0 xs)
  refine wpAny_mono (fn_top (c := cx w) (k := 8) H hloc (hbd _) hx R g f hv) (fun u s' q => ?_) fun _ _ x => x.elim
  obtain ⟨⟨h', tk, rfl, kp⟩, F, hu⟩ := q
  obtain rfl : u = .bool true := Holds.isBool hu
  have C : CodeHd s₁.heap 27 23 := codeHd_of_K (c := 27) (P := 23) g.inK (K_code w)
  have ct : isCodeTable s₁.heap 23 := by
    obtain ⟨o, vs, _, _, _, _, _, _, _, e1, e2, e3, e4, _⟩ := C; exact ⟨27, o, vs, e1, e2, e3, e4⟩
  refine ⟨rfl, ⟨fun b o e => ?_, fun b o e => ?_⟩, rfl, rfl⟩
  · by_cases q : b = tab0
    · subst q
      rw [show s₁.heap.get? tab0 = _ from hT] at e
      cases e
      rcases kp.tab tb with t | ⟨c, t, _⟩
      · exact .inl t
      · exact .inr (.inl ⟨ct, rfl, #[], #[.int 7 0, .int 4 0, .ref c], rfl, by rw [show Heap.get? h' tab0 = _ from t]; rfl⟩)
    · by_cases c : o.cls = .type "frame"
      · obtain ⟨sl, e', z⟩ := kp.fr b o q c e
        have : sl = o.slots := z ⟨o, e⟩
        subst this
        exact .inl e'
      · exact .inl (kp.keep b o q c e)
  · by_cases q : b = tab0
    · rw [q]; exact (kp.tab tb).ex
    · exact kp.live q e
end Mine
set_option maxHeartbeats 4000000 in
theorem PySem.Challenge.cw_il0116_01_holds : PySem.Challenge.rw_il0116_01.Holds := by
  refine Mine.hd ?_
  intro w s₀ s₁ mg mb G Y fa o pm cd doc dV kV ho hdd hcd hD hmg hg args vals as hpre hlay hrd hwl hlo
  have KX := km_in_of Y
  have hT8 := km_tabs_of Y
  have hTg := G.T.g
  have hTb := G.T.b
  have hTn := G.T.nolimit
  have hTi := G.T.builtins
  have hTm := G.T.bmain
  have efa : fa = 249 := by
    letI : Mine.Old := ⟨fun _ => False⟩
    have h1 : mg "law" = some (.ref 249) := mg_of KX hTg (Mine.K_law w)
    have h2 : mg "law" = some (.ref fa) := hmg
    rw [h1] at h2
    exact (Value.ref.inj (Option.some.inj h2)).symm
  subst efa
  clear ho hdd hcd hD hmg G Y
  wrow_args hpre hlay hrd hwl hlo
  rename_i xs hs hlay0 hl1 hr1 hl2 as1 as2 l vs as3 hL ra w1 r0 hI hr hc1 hc2
  refine wpAny_mono (Mine.walk w KX (hT8 23 (.head _)) hTg hTb hTn hTi hTm hL hI (by lia)) (fun v s' q => ?_) fun _ _ x => x.elim
  obtain ⟨rfl, h1, h2, h3⟩ := q
  exact ⟨.inl ⟨_, .bool true, [], rfl, raisesW_false (by wrow_none_raised), .bool true, by wrow_post, fun _ => ⟨.nil, fun _ h => nomatch h⟩⟩, h1, h2, .of_eq (h3.trans hg)⟩
end
