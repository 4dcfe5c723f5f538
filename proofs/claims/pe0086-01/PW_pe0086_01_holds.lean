import PyProof.Rows.All

import Wide.All

import OpenK.AllK

import Wide.FinOn

import PySem.Challenge.RW_pe0086_01

set_option Elab.async false

set_option linter.all false

section
open PySem PySem.W PyProof.Rows
set_option maxRecDepth 100000
set_option maxHeartbeats 8000000
namespace Mine
open_top hd for PySem.Challenge.rw_pe0086_01
end Mine
end

section
open PySem PySem.W PyProof.Rows PySem.SeqAt
set_option maxRecDepth 100000
namespace Mine

/-! ## Heaps that grow; the two tables of codes may grow too -/

noncomputable def TABS : List Addr := [96, 89]

noncomputable def HExt (h h' : Heap) : Prop :=
  ∀ b o, h.get? b = some o → h'.get? b = some o ∨ (b ∈ TABS ∧ ∃ ps more, o = tabObj ps ∧ h'.get? b = some (tabObj (ps ++ more)))

noncomputable abbrev Keep (h h' : Heap) : Prop := ∀ b o, h.get? b = some o → h'.get? b = some o

theorem HExt.of_keep {h h' : Heap} (k : Keep h h') : HExt h h' := fun b o e => .inl (k b o e)
theorem HExt.refl (h : Heap) : HExt h h := fun _ _ e => .inl e
theorem HExt.trans {h h' h'' : Heap} (x : HExt h h') (y : HExt h' h'') : HExt h h'' := fun b o e => by
  rcases x b o e with x1 | ⟨hb, ps, more, rfl, x1⟩
  · exact y b o x1
  · rcases y b _ x1 with y1 | ⟨_, ps', more', e', y1⟩
    · exact .inr ⟨hb, ps, more, rfl, y1⟩
    · obtain rfl : ps ++ more = ps' := by injection e' with _ _ h3; injection h3
      exact .inr ⟨hb, ps, more ++ more', rfl, by rw [y1, Array.append_assoc]⟩
theorem HExt.get {h h' : Heap} (x : HExt h h') {b : Addr} {o : Obj} (e : h.get? b = some o) (hn : ∀ ps, o ≠ tabObj ps) : h'.get? b = some o := by
  rcases x b o e with x1 | ⟨_, ps, _, e', _⟩
  · exact x1
  · exact (hn ps e').elim
theorem HExt.getC {h h' : Heap} (x : HExt h h') {b : Addr} {o : Obj} (e : h.get? b = some o) (hn : o.cls ≠ .none) : h'.get? b = some o :=
  x.get e fun ps q => hn (by rw [q])
theorem HExt.dom {h h' : Heap} (x : HExt h h') {b : Addr} {o : Obj} (e : h.get? b = some o) : ∃ o', h'.get? b = some o' := by
  rcases x b o e with x1 | ⟨_, _, _, _, x1⟩
  · exact ⟨_, x1⟩
  · exact ⟨_, x1⟩
theorem HExt.gone {h h' : Heap} (x : HExt h h') {b : Addr} (e : h'.get? b = none) : h.get? b = none := by
  cases q : h.get? b with
  | none => rfl
  | some o => obtain ⟨o', e'⟩ := x.dom q; rw [e] at e'; cases e'

theorem HExt.ns {h h' : Heap} (x : HExt h h') {a : Addr} {m : Str → Option Value} (n : h.Ns a m) : h'.Ns a m :=
  let ⟨o, es, ep, e, hd, r⟩ := n; ⟨o, es, ep, x.get e (fun ps q => by rw [q] at hd; cases hd), hd, r⟩
theorem HExt.list {h h' : Heap} (x : HExt h h') {a : Addr} {m : Array Value} (n : h.IsList a m) : h'.IsList a m :=
  let ⟨o, e, hc, r⟩ := n; ⟨o, x.getC e (by rw [hc]; nofun), hc, r⟩
theorem HExt.plain {h h' : Heap} (x : HExt h h') {a : Addr} {m : Array Value} (n : h.PlainList a m) : h'.PlainList a m :=
  let ⟨k, e⟩ := n; ⟨k, x.getC e (by nofun)⟩
theorem HExt.cell {h h' : Heap} (x : HExt h h') {a : Addr} {m : Option Value} (n : h.IsCell a m) : h'.IsCell a m :=
  let ⟨o, e, hd⟩ := n; ⟨o, x.get e (fun ps q => by rw [q] at hd; cases hd), hd⟩
theorem HExt.getT {h h' : Heap} (x : HExt h h') {b : Addr} {o : Obj} (e : h.get? b = some o) (hn : b ∉ TABS) : h'.get? b = some o := by
  rcases x b o e with x1 | ⟨hb, _⟩
  · exact x1
  · exact (hn hb).elim
theorem HExt.code {h h' : Heap} (x : HExt h h') {cd : Value} {q : Str} (hT : ∀ c, cd = .ref c → c ∉ TABS) (n : h.CodeRec cd q) : h'.CodeRec cd q :=
  by obtain ⟨c, o, vs, t, e, g, r⟩ := n; exact ⟨c, o, vs, t, e, x.getT g (hT c e), r⟩
theorem HExt.reads {h h' : Heap} (hk : HExt h h') {v : Value} {d : PyData} {as : List Addr} (r : Reads h v d as) : Reads h' v d as := by
  refine Reads.rec (motive_1 := fun v d as _ => Reads h' v d as) (motive_2 := fun vs ds as _ => ReadsAll h' vs ds as)
    .none .bool .int .str ?_ ?_ ?_ .nil ?_ r
  · intro a o vs n xs as ho hc hd _ ih; exact .list (hk.getC ho (by rw [hc]; nofun)) hc hd ih
  · intro a o vs n xs as ho hc hd _ ih; exact .tuple (hk.getC ho (by rw [hc]; nofun)) hc hd ih
  · intro a o es n kvs as bs ho hc hd _ _ ih ih'; exact .dict (hk.getC ho (by rw [hc]; nofun)) hc hd ih ih'
  · intro v vs d ds as bs _ _ ih1 ih2; exact .cons ih1 ih2
theorem HExt.readsAll {h h' : Heap} (hk : HExt h h') : ∀ {vs : List Value} {ds : List PyData} {as : List Addr}, ReadsAll h vs ds as → ReadsAll h' vs ds as := by
  intro vs ds as r
  refine ReadsAll.rec (motive_1 := fun v d as _ => True) (motive_2 := fun vs ds as _ => ReadsAll h' vs ds as)
    (by intros; trivial) (by intros; trivial) (by intros; trivial) (by intros; trivial) (by intros; trivial) (by intros; trivial) (by intros; trivial) .nil ?_ r
  intro v vs d ds as bs r1 _ _ ih; exact .cons (hk.reads r1) ih


/-- what a frame's steps leave: all but its locals, cells, its own lists -/
structure Mv (L : Addr) (X : Addr → Prop) (h h' : Heap) : Prop where
  kp : ∀ b o, h.get? b = some o → b ≠ L → (∀ v, o.data ≠ .cell v) → ¬ X b → h'.get? b = some o ∨ (b ∈ TABS ∧ ∃ ps more, o = tabObj ps ∧ h'.get? b = some (tabObj (ps ++ more)))
  dom : ∀ b o, h.get? b = some o → ∃ o', h'.get? b = some o'
theorem Mv.ext {L : Addr} {X : Addr → Prop} {h h' : Heap} (x : HExt h h') : Mv L X h h' := ⟨fun b o e _ _ _ => x b o e, fun b o e => x.dom e⟩
theorem Mv.refl (L : Addr) (X : Addr → Prop) (h : Heap) : Mv L X h h := .ext (.refl h)
theorem tab_cell (ps : Array Value) (v : Option Value) : (tabObj ps).data ≠ .cell v := nofun
theorem Mv.trans {L : Addr} {X Y : Addr → Prop} {h h' h'' : Heap} (x : Mv L X h h') (y : Mv L Y h' h'') (hY : ∀ a, Y a → X a ∨ h.get? a = none) : Mv L X h h'' := ⟨fun b o e h1 h2 h3 => by
  have hY' : ¬ Y b := fun m => (hY b m).elim h3 fun z => by rw [e] at z; cases z
  rcases x.kp b o e h1 h2 h3 with x1 | ⟨hb, ps, more, rfl, x1⟩
  · exact y.kp b o x1 h1 h2 hY'
  · rcases y.kp b _ x1 h1 (fun v => tab_cell _ v) hY' with y1 | ⟨_, ps', more', e', y1⟩
    · exact .inr ⟨hb, ps, more, rfl, y1⟩
    · obtain rfl : ps ++ more = ps' := by injection e' with _ _ h3; injection h3
      exact .inr ⟨hb, ps, more ++ more', rfl, by rw [y1, Array.append_assoc]⟩, fun b o e => (x.dom b o e).elim fun o1 e1 => y.dom b o1 e1⟩
theorem Mv.same {L : Addr} {X : Addr → Prop} {h h' : Heap} {b : Addr} (hs : Heap.SameBut b h h') (hb' : ∃ o, h'.get? b = some o) (hb : b = L ∨ X b ∨ ∃ o v, h.get? b = some o ∧ o.data = .cell v) : Mv L X h h' := ⟨fun a o e h1 h2 h3 => by
  have : a ≠ b := fun z => by
    rcases hb with q | q | ⟨o', v, q1, q2⟩
    · exact h1 (z.trans q)
    · exact h3 (z ▸ q)
    · rw [z, q1] at e; cases e; exact h2 v q2
  exact .inl ((hs.2 a this).trans e), fun a o e => by
  by_cases z : a = b
  · rw [z]; exact hb'
  · exact ⟨o, (hs.2 a z).trans e⟩⟩
theorem Mv.get {L : Addr} {X : Addr → Prop} {h h' : Heap} (x : Mv L X h h') {b : Addr} {o : Obj} (e : h.get? b = some o) (h1 : b ≠ L) (h2 : ∀ v, o.data ≠ .cell v) (h3 : ¬ X b) (hn : ∀ ps, o ≠ tabObj ps) : h'.get? b = some o := by
  rcases x.kp b o e h1 h2 h3 with x1 | ⟨_, ps, _, e', _⟩
  · exact x1
  · exact (hn ps e').elim
theorem Mv.gone {L : Addr} {X : Addr → Prop} {h h' : Heap} (x : Mv L X h h') {b : Addr} (e : h'.get? b = none) : h.get? b = none := by
  cases q : h.get? b with
  | none => rfl
  | some o => obtain ⟨o', e'⟩ := x.dom b o q; rw [e] at e'; cases e'

theorem Mv.mono {L : Addr} {X Y : Addr → Prop} {h h' : Heap} (x : Mv L X h h') (hs : ∀ a, X a → Y a) : Mv L Y h h' := ⟨fun b o e h1 h2 h3 => x.kp b o e h1 h2 fun z => h3 (hs b z), x.dom⟩

/-! ## The context: the program's globals -/

structure Cx where
  prog : Program
  w : World
  K : Frag
  mg : Str → Option Value
  mb : Str → Option Value

noncomputable abbrev Cx.M (c : Cx) : Model := model c.prog c.w

structure TabOk (h : Heap) (P : Addr) (l col : Nat) (qual : Str) : Prop where
  tab : ∃ ps, h.get? P = some (tabObj ps) ∧ (ps = #[] ∨ ∃ k : Addr, ps = #[rawInt l, rawInt col, .ref k] ∧ k ∉ TABS ∧ h.CodeRec (.ref k) qual)

structure Gl (c : Cx) (h : Heap) : Prop where
  k : c.K.In h
  nt : noTabs c.K = true
  g : h.Ns mainGlobals c.mg
  b : h.Ns builtinsNs c.mb
  bb : ∀ x : Str, x ≠ "__name__" → c.mb x = bootBuiltins x
  nl : h.NoLimit
  bm : ∃ bm ob, c.mg "__builtins__" = some (.ref bm) ∧ bm ≠ builtinsNs ∧ h.get? bm = some ob ∧ ob.cls = .type "module" ∧ ob.dict = some builtinsNs ∧ ob.data = .plain
  t1 : TabOk h 89 (91 : Nat) 31 (Str.ofString "_law_liked.<locals>.<lambda>")
  t2 : TabOk h 96 (94 : Nat) 32 (Str.ofString "_law_best.<locals>.<lambda>")

theorem TabOk.keeps {h h' : Heap} {P : Addr} {l col : Nat} {q : Str} (t : TabOk h P l col q) (k : Keep h h') : TabOk h' P l col q :=
  let ⟨ps, e, r⟩ := t.tab
  ⟨ps, k _ _ e, r.imp id fun ⟨a, e1, e2, e3⟩ => ⟨a, e1, e2, e3.keeps k⟩⟩
theorem Gl.keeps {c : Cx} {h h' : Heap} (G : Gl c h) (k : Keep h h') : Gl c h' where
  k := fun a o e => k _ _ (G.k a o e)
  nt := G.nt
  g := G.g.keeps k
  b := G.b.keeps k
  bb := G.bb
  nl := G.nl.keeps k
  bm := let ⟨x, ob, e1, e2, e3, r⟩ := G.bm; ⟨x, ob, e1, e2, k _ _ e3, r⟩
  t1 := G.t1.keeps k
  t2 := G.t2.keeps k

structure Ext (c : Cx) (s s' : Shared) : Prop where
  hx : HExt s.heap s'.heap
  gens : s'.gens = s.gens
  os : s'.os = s.os
  gl : Gl c s'.heap

theorem Ext.refl {c : Cx} {s : Shared} (G : Gl c s.heap) : Ext c s s := ⟨.refl _, rfl, rfl, G⟩
theorem Ext.trans {c : Cx} {s s' s'' : Shared} (x : Ext c s s') (y : Ext c s' s'') : Ext c s s'' :=
  ⟨x.hx.trans y.hx, y.gens.trans x.gens, y.os.trans x.os, y.gl⟩
theorem Ext.keep {c : Cx} {s : Shared} (G : Gl c s.heap) {h' : Heap} (k : Keep s.heap h') {tk : Nat} : Ext c s { s with heap := h', toks := tk } :=
  ⟨.of_keep k, rfl, rfl, G.keeps k⟩
theorem Ext.toks {c : Cx} {s : Shared} (G : Gl c s.heap) {tk : Nat} : Ext c s { s with toks := tk } :=
  ⟨.refl _, rfl, rfl, G⟩

/-- the level: how many calls may still lie above -/
noncomputable def Lv (n : Nat) : Around := { handled := none, depth := 800 - n, frames := none, guards := none, units := 8000 - 100 * n }

/-! ## Data -/

noncomputable def IsL (h : Heap) (a : Addr) : Prop := ∃ vs n, h.get? a = some { cls := .type "list", data := .seq vs n }
theorem IsL.ext {h h' : Heap} {a : Addr} (l : IsL h a) (x : HExt h h') : IsL h' a := let ⟨o, n, e⟩ := l; ⟨o, n, x.getC e (by nofun)⟩

noncomputable def Rd (h : Heap) (X : List Addr) (v : Value) (d : PyData) : Prop := ∃ as, Reads h v d as ∧ ∀ a ∈ as, a ∉ X ∧ IsL h a
noncomputable def RdA (h : Heap) (X : List Addr) (vs : List Value) (ds : List PyData) : Prop := ∃ as, ReadsAll h vs ds as ∧ ∀ a ∈ as, a ∉ X ∧ IsL h a

theorem Rd.ext {h h' : Heap} {X : List Addr} {v : Value} {d : PyData} (r : Rd h X v d) (x : HExt h h') : Rd h' X v d :=
  let ⟨as, a, b⟩ := r; ⟨as, x.reads a, fun q hq => ⟨(b q hq).1, (b q hq).2.ext x⟩⟩
theorem RdA.ext {h h' : Heap} {X : List Addr} {v : List Value} {d : List PyData} (r : RdA h X v d) (x : HExt h h') : RdA h' X v d :=
  let ⟨as, a, b⟩ := r; ⟨as, x.readsAll a, fun q hq => ⟨(b q hq).1, (b q hq).2.ext x⟩⟩
theorem RdA.nil {h : Heap} {X : List Addr} : RdA h X [] [] := ⟨[], .nil, nofun⟩
theorem RdA.cons {h : Heap} {X : List Addr} {v : Value} {d : PyData} {vs : List Value} {ds : List PyData} (r : Rd h X v d) (rs : RdA h X vs ds) : RdA h X (v :: vs) (d :: ds) :=
  let ⟨as, a, b⟩ := r; let ⟨as', a', b'⟩ := rs
  ⟨as ++ as', .cons a a', fun q hq => (List.mem_append.mp hq).elim (b q) (b' q)⟩
theorem Rd.int {h : Heap} {X : List Addr} (i : Int) (t : Tok) : Rd h X (.int i t) (.int i) := ⟨[], .int i t, nofun⟩
theorem Rd.bool {h : Heap} {X : List Addr} (i : Bool) : Rd h X (.bool i) (.bool i) := ⟨[], .bool i, nofun⟩
theorem Rd.str {h : Heap} {X : List Addr} (i : Str) (t : Tok) : Rd h X (.str i t) (.str i) := ⟨[], .str i t, nofun⟩

theorem Rd.int_inv {h : Heap} {X : List Addr} {v : Value} {i : Int} (r : Rd h X v (.int i)) : ∃ t, v = .int i t := by
  obtain ⟨as, a, _⟩ := r; cases a; exact ⟨_, rfl⟩
theorem Rd.bool_inv {h : Heap} {X : List Addr} {v : Value} {i : Bool} (r : Rd h X v (.bool i)) : v = .bool i := by
  obtain ⟨as, a, _⟩ := r; cases a; rfl
theorem Rd.str_inv {h : Heap} {X : List Addr} {v : Value} {i : Str} (r : Rd h X v (.str i)) : ∃ t, v = .str i t := by
  obtain ⟨as, a, _⟩ := r; cases a; exact ⟨_, rfl⟩
theorem Rd.list_inv {h : Heap} {X : List Addr} {v : Value} {xs : List PyData} (r : Rd h X v (.list xs)) : ∃ a items, v = .ref a ∧ h.PlainList a items ∧ RdA h X items.toList xs ∧ a ∉ X := by
  obtain ⟨as, q, hx⟩ := r
  cases q with
  | list ho hc hd ra =>
    obtain ⟨vs', n', e⟩ := (hx _ (.head _)).2
    rw [ho] at e; cases e
    cases hd
    exact ⟨_, _, rfl, ⟨_, ho⟩, ⟨_, ra, fun b hb => hx b (.tail _ hb)⟩, (hx _ (.head _)).1⟩
theorem Rd.tuple_inv {h : Heap} {X : List Addr} {v : Value} {xs : List PyData} (r : Rd h X v (.tuple xs)) : ∃ a items, v = .ref a ∧ h.IsTuple a items ∧ RdA h X items.toList xs := by
  obtain ⟨as, q, hx⟩ := r
  cases q with
  | tuple ho hc hd ra => exact ⟨_, _, rfl, ⟨_, ho, hc, _, hd⟩, ⟨_, ra, hx⟩⟩
theorem Rd.list {h : Heap} {X : List Addr} {a : Addr} {items : Array Value} {xs : List PyData} (hl : h.PlainList a items) (r : RdA h X items.toList xs) (ha : a ∉ X) : Rd h X (.ref a) (.list xs) :=
  let ⟨_, ho⟩ := hl; let ⟨as, ra, hx⟩ := r
  ⟨a :: as, .list ho rfl rfl ra, fun b hb => (List.mem_cons.mp hb).elim (fun e => e ▸ ⟨ha, _, _, ho⟩) (hx b)⟩
theorem Rd.tuple {h : Heap} {X : List Addr} {a : Addr} {items : Array Value} {xs : List PyData} (hl : h.IsTuple a items) (r : RdA h X items.toList xs) : Rd h X (.ref a) (.tuple xs) :=
  let ⟨_, ho, hc, _, hd⟩ := hl; let ⟨as, ra, hx⟩ := r
  ⟨as, .tuple ho hc hd ra, hx⟩
theorem RdA.nil_inv {h : Heap} {X : List Addr} {vs : List Value} (r : RdA h X vs []) : vs = [] := by
  obtain ⟨as, q, hx⟩ := r; cases q; rfl
theorem RdA.cons_inv {h : Heap} {X : List Addr} {vs : List Value} {d : PyData} {ds : List PyData} (r : RdA h X vs (d :: ds)) : ∃ v vs', vs = v :: vs' ∧ Rd h X v d ∧ RdA h X vs' ds := by
  obtain ⟨as, q, hx⟩ := r
  cases q with
  | cons r1 r2 => exact ⟨_, _, rfl, ⟨_, r1, fun a ha => hx a (List.mem_append_left _ ha)⟩, ⟨_, r2, fun a ha => hx a (List.mem_append_right _ ha)⟩⟩
theorem RdA.length {h : Heap} {X : List Addr} : ∀ {ds : List PyData} {vs : List Value}, RdA h X vs ds → vs.length = ds.length
  | [], _, r => by rw [r.nil_inv]; rfl
  | d :: ds, _, r => by obtain ⟨v, vs', rfl, _, r2⟩ := r.cons_inv; simp [r2.length]
theorem RdA.get {h : Heap} {X : List Addr} : ∀ {ds : List PyData} {vs : List Value} {i : Nat} {d : PyData}, RdA h X vs ds → ds[i]? = some d → ∃ v, vs[i]? = some v ∧ Rd h X v d
  | [], _, _, _, _, e => by simp at e
  | d :: ds, _, i, _, r, e => by
    obtain ⟨v, vs', rfl, r1, r2⟩ := r.cons_inv
    cases i with
    | zero => simp at e; subst e; exact ⟨v, rfl, r1⟩
    | succ i => simp at e; obtain ⟨v', h1, h2⟩ := r2.get e; exact ⟨v', by simpa using h1, h2⟩
theorem RdA.append {h : Heap} {X : List Addr} : ∀ {ds : List PyData} {vs : List Value} {es : List PyData} {us : List Value}, RdA h X vs ds → RdA h X us es → RdA h X (vs ++ us) (ds ++ es)
  | [], _, _, _, r, q => by rw [r.nil_inv]; exact q
  | d :: ds, _, _, _, r, q => by
    obtain ⟨v, vs', rfl, r1, r2⟩ := r.cons_inv
    exact .cons r1 (r2.append q)
/-- a store at b leaves what is read, where b is no list or tuple, or b is in the set that is kept clear -/
theorem Reads.same {h h' : Heap} {b : Addr} {ob : Obj} (hb : h.get? b = some ob) (hs : Heap.ExtBut b h h') {v : Value} {d : PyData} {as : List Addr} (r : Reads h v d as)
    (ha : b ∉ as) (ht : ∀ vs n, ob.data = .seq vs n → ob.cls ≠ .type "tuple") : Reads h' v d as := by
  have key : ∀ a o, h.get? a = some o → (a = b → o = ob) := fun a o e q => by rw [q, hb] at e; exact (Option.some.inj e).symm
  refine Reads.rec (motive_1 := fun v d as _ => b ∉ as → Reads h' v d as) (motive_2 := fun vs ds as _ => b ∉ as → ReadsAll h' vs ds as)
    (fun _ => .none) (fun _ _ => .bool _) (fun _ _ _ => .int _ _) (fun _ _ _ => .str _ _) ?_ ?_ ?_ (fun _ => .nil) ?_ r ha
  · intro a o vs n xs as ho hc hd _ ih hx
    exact .list (hs a o (fun q => hx (q ▸ .head _)) ho) hc hd (ih fun m => hx (.tail _ m))
  · intro a o vs n xs as ho hc hd _ ih hx
    have hne : a ≠ b := fun q => ht vs n (by rw [← key a o ho q]; exact hd) (by rw [← key a o ho q]; exact hc)
    exact .tuple (hs a o hne ho) hc hd (ih hx)
  · intro a o es n kvs as bs ho hc hd' _ _ ih ih' hx
    exact .dict (hs a o (fun q => hx (q ▸ List.mem_append_left _ (.head _))) ho) hc hd' (ih fun m => hx (List.mem_append_left _ (.tail _ m))) (ih' fun m => hx (List.mem_append_right _ m))
  · intro v vs d ds as bs _ _ ih1 ih2 hx
    exact .cons (ih1 fun m => hx (List.mem_append_left _ m)) (ih2 fun m => hx (List.mem_append_right _ m))

/-- what a store may touch -/
noncomputable def Soft (X : List Addr) (b : Addr) (o : Obj) : Prop := ∀ vs n, o.data = .seq vs n → o.cls ≠ .type "tuple" ∧ (o.cls = .type "list" → b ∈ X)

theorem Rd.same {h h' : Heap} {X : List Addr} {b : Addr} {ob : Obj} (hb : h.get? b = some ob) (hs : Heap.ExtBut b h h') (so : Soft X b ob) {v : Value} {d : PyData} (r : Rd h X v d) : Rd h' X v d := by
  obtain ⟨as, ra, hx⟩ := r
  have hn : b ∉ as := fun m => by
    obtain ⟨h1, vs, n, h2⟩ := hx b m
    rw [hb] at h2; cases h2
    exact h1 ((so vs n rfl).2 rfl)
  exact ⟨as, Reads.same hb hs ra hn (fun vs n e => (so vs n e).1), fun a ha => ⟨(hx a ha).1, let ⟨o, n, e⟩ := (hx a ha).2; ⟨o, n, hs a _ (fun q => hn (q ▸ ha)) e⟩⟩⟩
theorem RdA.same {h h' : Heap} {X : List Addr} {b : Addr} {ob : Obj} (hb : h.get? b = some ob) (hs : Heap.ExtBut b h h') (so : Soft X b ob) : ∀ {ds : List PyData} {vs : List Value}, RdA h X vs ds → RdA h' X vs ds
  | [], _, r => by rw [r.nil_inv]; exact .nil
  | d :: ds, _, r => by
    obtain ⟨v, vs', rfl, r1, r2⟩ := r.cons_inv
    exact .cons (r1.same hb hs so) (r2.same hb hs so)
/-- a fresh address may be kept clear too -/
theorem Rd.fresh {h : Heap} {X : List Addr} {v : Value} {d : PyData} (r : Rd h X v d) {a : Addr} (ha : h.get? a = none) : Rd h (a :: X) v d :=
  let ⟨as, ra, hx⟩ := r
  ⟨as, ra, fun b hb => ⟨fun m => by
    rcases List.mem_cons.mp m with q | q
    · obtain ⟨o, _, e⟩ := (hx b hb).2; rw [q, ha] at e; cases e
    · exact (hx b hb).1 q, (hx b hb).2⟩⟩
theorem RdA.fresh {h : Heap} {X : List Addr} {a : Addr} (ha : h.get? a = none) : ∀ {ds : List PyData} {vs : List Value}, RdA h X vs ds → RdA h (a :: X) vs ds
  | [], _, r => by rw [r.nil_inv]; exact .nil
  | d :: ds, _, r => by
    obtain ⟨v, vs', rfl, r1, r2⟩ := r.cons_inv
    exact .cons (r1.fresh ha) (r2.fresh ha)
theorem Rd.sub {h : Heap} {X Y : List Addr} {v : Value} {d : PyData} (r : Rd h X v d) (hs : ∀ a ∈ Y, a ∈ X) : Rd h Y v d :=
  let ⟨as, ra, hx⟩ := r; ⟨as, ra, fun b hb => ⟨fun m => (hx b hb).1 (hs b m), (hx b hb).2⟩⟩
theorem RdA.sub {h : Heap} {X Y : List Addr} {vs : List Value} {ds : List PyData} (r : RdA h X vs ds) (hs : ∀ a ∈ Y, a ∈ X) : RdA h Y vs ds :=
  let ⟨as, ra, hx⟩ := r; ⟨as, ra, fun b hb => ⟨fun m => (hx b hb).1 (hs b m), (hx b hb).2⟩⟩

end Mine
end

section
open PySem PySem.W PyProof.Rows PySem.SeqAt
set_option maxRecDepth 100000
namespace Mine

/-! ## Abstract values -/

noncomputable def InstR (h : Heap) (X : List Addr) (v : Value) (keys : PyData) : Prop :=
  ∃ x dx hsh t vk n, v = .ref x ∧ h.get? x = some (instObj 38 dx) ∧ h.get? dx = some (dictOf [⟨hsh, .str (Str.ofString "comp_select_list") t, vk⟩] n) ∧ Rd h X vk keys

inductive AV where
  | dat (d : PyData)
  | own (a : Addr) (xs : List PyData)
  | inst (keys : PyData)
  | fnp (n : Nat) (dom : List PyData) (p : PyData → Bool)

noncomputable def FnpR (c : Cx) (h : Heap) (v : Value) (n : Nat) (dom : List PyData) (p : PyData → Bool) : Prop :=
  (∃ a o fd, v = .ref a ∧ h.get? a = some o ∧ o.cls = .type "function" ∧ o.data = .func fd) ∧
  ∀ (s : Shared) (x : PyData) (vx : Value) (Q : Value → Shared → Prop) (E : Value → Shared → Prop), HExt h s.heap → Gl c s.heap → x ∈ dom → Rd s.heap [] vx x →
    (∀ s', Ext c s s' → Q (.bool (p x)) s') → wpAny c.M (Lv n) (call v [vx]) Q E s

noncomputable def AV.R (c : Cx) (h : Heap) (X : List Addr) (v : Value) : AV → Prop
  | .dat d => Rd h X v d
  | .own a xs => v = .ref a ∧ a ∈ X ∧ ∃ items, h.PlainList a items ∧ RdA h X items.toList xs
  | .inst keys => InstR h X v keys
  | .fnp n dom p => FnpR c h v n dom p

theorem InstR.ext {h h' : Heap} {X : List Addr} {v : Value} {k : PyData} (r : InstR h X v k) (x : HExt h h') : InstR h' X v k :=
  by obtain ⟨a, dx, hsh, t, vk, n, e, e1, e2, r⟩ := r; exact ⟨a, dx, hsh, t, vk, n, e, x.getC e1 (by nofun), x.getC e2 (by nofun), r.ext x⟩
theorem InstR.fresh {h : Heap} {X : List Addr} {v : Value} {k : PyData} {a : Addr} (ha : h.get? a = none) (r : InstR h X v k) : InstR h (a :: X) v k := by
  obtain ⟨x, dx, hsh, t, vk, n, e, e1, e2, r⟩ := r; exact ⟨x, dx, hsh, t, vk, n, e, e1, e2, r.fresh ha⟩
theorem InstR.sub {h : Heap} {X Y : List Addr} {v : Value} {k : PyData} (r : InstR h X v k) (s : ∀ a ∈ Y, a ∈ X) : InstR h Y v k := by
  obtain ⟨x, dx, hsh, t, vk, n, e, e1, e2, r⟩ := r; exact ⟨x, dx, hsh, t, vk, n, e, e1, e2, Rd.sub r s⟩
theorem AV.R.ext {c : Cx} {h h' : Heap} {X : List Addr} {v : Value} : ∀ {av : AV}, av.R c h X v → HExt h h' → av.R c h' X v := by
  intro av r x
  cases av with
  | dat d => exact Rd.ext r x
  | own b xs => obtain ⟨e, ha, its, hl, r⟩ := r; exact ⟨e, ha, its, x.plain hl, r.ext x⟩
  | inst k => exact InstR.ext r x
  | fnp n dom p =>
    obtain ⟨⟨a, o, fd, e, g, hc, hd⟩, r⟩ := r
    exact ⟨⟨a, o, fd, e, x.getC g (by rw [hc]; nofun), hc, hd⟩, fun s d vx Q E h1 => r s d vx Q E (x.trans h1)⟩


theorem AV.R.fresh {c : Cx} {h : Heap} {X : List Addr} {v : Value} {a : Addr} (ha : h.get? a = none) : ∀ {av : AV}, av.R c h X v → av.R c h (a :: X) v := by
  intro av r
  cases av with
  | dat d => exact Rd.fresh r ha
  | own b xs => obtain ⟨e, hm, its, hl, r⟩ := r; exact ⟨e, .tail _ hm, its, hl, r.fresh ha⟩
  | inst k => exact InstR.fresh ha r
  | fnp => exact r

noncomputable def AV.simple : AV → Bool
  | .dat _ | .own _ _ => true
  | _ => false
/-- the address of an owned list -/
noncomputable def AV.at? : AV → Option Addr
  | .own a _ => some a
  | _ => none

/-- a store at b leaves a simple value, unless it is the list itself -/
theorem AV.R.same {c : Cx} {h h' : Heap} {X : List Addr} {b : Addr} {ob : Obj} (hb : h.get? b = some ob) (hs : Heap.ExtBut b h h') (so : Soft X b ob) {v : Value} :
    ∀ {av : AV}, av.simple = true → av.at? ≠ some b → av.R c h X v → av.R c h' X v
  | .dat _, _, _, r => Rd.same hb hs so r
  | .own a _, _, hn, ⟨e, hm, its, ⟨k, ho⟩, r⟩ => ⟨e, hm, its, ⟨k, hs a _ (fun z => hn (by rw [z]; rfl)) ho⟩, r.same hb hs so⟩
  | .inst _, hn, _, _ => by cases hn
  | .fnp _ _ _, hn, _, _ => by cases hn

/-! ## A store of one's own leaves the globals -/

theorem TabOk.same {h₀ h h' : Heap} {P b : Addr} {ob : Obj} {l col : Nat} {q : Str} (t0 : TabOk h₀ P l col q) (t : TabOk h P l col q) (h0 : h₀.get? b = none) (hb : h.get? b = some ob) (hf : ∀ vs, ob.data = .fields vs → ∀ q t, vs[1]? ≠ some (.str q t))
    (hs : Heap.ExtBut b h h') : TabOk h' P l col q := by
  obtain ⟨ps0, e0, _⟩ := t0.tab
  obtain ⟨ps, e, r⟩ := t.tab
  have hP : P ≠ b := fun z => by rw [z, h0] at e0; cases e0
  refine ⟨ps, hs P _ hP e, r.imp id fun z => ?_⟩
  obtain ⟨k, e1, e2, k', o, vs, tt, e3, e4, e5, e6⟩ := z
  refine ⟨k, e1, e2, k', o, vs, tt, e3, hs k' _ (fun z => ?_) e4, e5, e6⟩
  rw [z, hb] at e4; cases e4
  exact hf vs e5 _ _ e6

theorem Gl.same {c : Cx} {h₀ h h' : Heap} {b : Addr} {ob : Obj} (G0 : Gl c h₀) (G : Gl c h) (h0 : h₀.get? b = none) (hb : h.get? b = some ob) (hf : ∀ vs, ob.data = .fields vs → ∀ q t, vs[1]? ≠ some (.str q t))
    (hs : Heap.ExtBut b h h') : Gl c h' := by
  have ne : ∀ {a : Addr} {o : Obj}, h₀.get? a = some o → a ≠ b := fun e z => by rw [z, h0] at e; cases e
  have nsne : ∀ {a : Addr} {m}, h₀.Ns a m → a ≠ b := fun ⟨_, _, _, e, _⟩ => ne e
  refine ⟨fun a o e => hs a o (ne (G0.k a o e)) (G.k a o e), G.nt, G.g.extBut hs (nsne G0.g), G.b.extBut hs (nsne G0.b), G.bb, ?_, ?_, G0.t1.same G.t1 h0 hb hf hs, G0.t2.same G.t2 h0 hb hf hs⟩
  · obtain ⟨m0, n0, _⟩ := G0.nl
    obtain ⟨m, n, r⟩ := G.nl
    exact ⟨m, n.extBut hs (nsne n0), r⟩
  · obtain ⟨x0, o0, e0, _, q0, _⟩ := G0.bm
    obtain ⟨x, o, e, q1, q2, r⟩ := G.bm
    have : x0 = x := by rw [e0] at e; cases e; rfl
    subst this
    exact ⟨x0, o, e, q1, hs x0 _ (ne q0) q2, r⟩

theorem HExt.same {h₀ h h' : Heap} {b : Addr} (x : HExt h₀ h) (h0 : h₀.get? b = none) (hs : Heap.ExtBut b h h') : HExt h₀ h' := fun a o e => by
  have hne : a ≠ b := fun z => by rw [z, h0] at e; cases e
  rcases x a o e with x1 | ⟨hb, ps, more, q, x1⟩
  · exact .inl (hs a o hne x1)
  · exact .inr ⟨hb, ps, more, q, hs a _ hne x1⟩

/-! ## Frames -/

structure Sta where
  scope : Scope
  code : Value
  qual : Str

noncomputable abbrev Sta.kd (κ : Sta) (x : Str) : Option NameKind := κ.scope.names.lookup x

structure Inv (c : Cx) (κ : Sta) (X : List Addr) (ρ : List (Str × AV)) (env : Env) (s : Shared) : Prop where
  sc : env.scope = κ.scope
  fk : κ.scope.kind = .function
  gl : env.globals = mainGlobals
  bu : env.builtins = builtinsNs
  co : env.code = κ.code
  qu : env.qual = κ.qual
  G : Gl c s.heap
  ns : ∃ m, s.heap.Ns env.locals m ∧ ∀ x av, ρ.lookup x = some av → κ.kd x = some .local → ∃ v, m x = some v ∧ av.R c s.heap X v
  cl : ∀ x av, ρ.lookup x = some av → κ.kd x = some .cell ∨ κ.kd x = some .free → ∃ a v, env.cells.lookup x = some a ∧ s.heap.IsCell a (some v) ∧ av.R c s.heap X v
  al : ∀ a ∈ X, ∃ o, s.heap.get? a = some o

theorem Inv.ext {c : Cx} {κ : Sta} {X : List Addr} {ρ : List (Str × AV)} {env : Env} {s s' : Shared} (I : Inv c κ X ρ env s) (x : Ext c s s') : Inv c κ X ρ env s' where
  sc := I.sc
  fk := I.fk
  gl := I.gl
  bu := I.bu
  co := I.co
  qu := I.qu
  G := x.gl
  ns := let ⟨m, h, r⟩ := I.ns; ⟨m, x.hx.ns h, fun y av e k => let ⟨v, e1, e2⟩ := r y av e k; ⟨v, e1, e2.ext x.hx⟩⟩
  cl := fun y av e k => let ⟨a, v, e1, e2, e3⟩ := I.cl y av e k; ⟨a, v, e1, x.hx.cell e2, e3.ext x.hx⟩
  al := fun a ha => let ⟨_, e⟩ := I.al a ha; x.hx.dom e

noncomputable def EntOk (c : Cx) (h₀ h : Heap) (X : List Addr) (av : AV) (v : Value) : Prop := av.R c h₀ X v ∨ (av.simple = true ∧ av.R c h X v)

structure SInv (c : Cx) (κ : Sta) (sts : List Str) (s₀ : Shared) (X : List Addr) (ρ : List (Str × AV)) (env : Env) (s : Shared) : Prop where
  sc : env.scope = κ.scope
  fk : κ.scope.kind = .function
  gl : env.globals = mainGlobals
  bu : env.builtins = builtinsNs
  co : env.code = κ.code
  qu : env.qual = κ.qual
  G : Gl c s.heap
  ns : ∃ m, s.heap.Ns env.locals m ∧ ∀ x av, ρ.lookup x = some av → κ.kd x = some .local → ∃ v, m x = some v ∧ EntOk c s₀.heap s.heap X av v
  cl : ∀ x av, ρ.lookup x = some av → κ.kd x = some .cell ∨ κ.kd x = some .free → ∃ a v, env.cells.lookup x = some a ∧ s.heap.IsCell a (some v) ∧ EntOk c s₀.heap s.heap X av v
  al : ∀ a ∈ X, ∃ o, s.heap.get? a = some o
  G0 : Gl c s₀.heap
  base : HExt s₀.heap s.heap
  gens : s.gens = s₀.gens
  os : s.os = s₀.os
  lf : s₀.heap.get? env.locals = none
  ow : ∀ x a xs, ρ.lookup x = some (.own a xs) → s₀.heap.get? a = none
  ol : ∀ x a xs, ρ.lookup x = some (.own a xs) → κ.kd x = some .local
  st : ∀ x ∈ sts, κ.kd x = some .cell ∧ ∃ a v, env.cells.lookup x = some a ∧ s₀.heap.get? a = none ∧ s.heap.IsCell a v ∧ ∀ y, env.cells.lookup y = some a → y = x

section
variable {c : Cx} {κ : Sta} {sts : List Str} {s₀ s s' : Shared} {X : List Addr} {ρ : List (Str × AV)} {env : Env}

theorem EntOk.now {av : AV} {v : Value} {h₀ h : Heap} (e : EntOk c h₀ h X av v) (x : HExt h₀ h) : av.R c h X v := e.elim (fun r => r.ext x) And.right
theorem EntOk.ext {av : AV} {v : Value} {h₀ h h' : Heap} (e : EntOk c h₀ h X av v) (x : HExt h h') : EntOk c h₀ h' X av v := e.imp id fun r => ⟨r.1, r.2.ext x⟩

theorem SInv.inv (I : SInv c κ sts s₀ X ρ env s) : Inv c κ X ρ env s :=
  ⟨I.sc, I.fk, I.gl, I.bu, I.co, I.qu, I.G, (let ⟨m, h, r⟩ := I.ns; ⟨m, h, fun y av e k => let ⟨v, e1, e2⟩ := r y av e k; ⟨v, e1, e2.now I.base⟩⟩),
    (fun y av e k => let ⟨a, v, e1, e2, e3⟩ := I.cl y av e k; ⟨a, v, e1, e2, e3.now I.base⟩), I.al⟩

theorem SInv.ext (I : SInv c κ sts s₀ X ρ env s) (x : Ext c s s') : SInv c κ sts s₀ X ρ env s' where
  sc := I.sc
  fk := I.fk
  gl := I.gl
  bu := I.bu
  co := I.co
  qu := I.qu
  G := x.gl
  ns := let ⟨m, h, r⟩ := I.ns; ⟨m, x.hx.ns h, fun y av e k => let ⟨v, e1, e2⟩ := r y av e k; ⟨v, e1, e2.ext x.hx⟩⟩
  cl := fun y av e k => let ⟨a, v, e1, e2, e3⟩ := I.cl y av e k; ⟨a, v, e1, x.hx.cell e2, e3.ext x.hx⟩
  al := fun a ha => let ⟨_, e⟩ := I.al a ha; x.hx.dom e
  G0 := I.G0
  base := I.base.trans x.hx
  gens := x.gens.trans I.gens
  os := x.os.trans I.os
  lf := I.lf
  ow := I.ow
  ol := I.ol
  st := fun y hy => let ⟨k, a, v, e1, e2, e3, e4⟩ := I.st y hy; ⟨k, a, v, e1, e2, x.hx.cell e3, e4⟩

theorem EntOk.same {h₀ h h' : Heap} {av : AV} {v : Value} {b : Addr} {ob : Obj} (e : EntOk c h₀ h X av v) (hb : h.get? b = some ob) (hs : Heap.ExtBut b h h') (so : Soft X b ob) (hn : av.at? ≠ some b) : EntOk c h₀ h' X av v :=
  e.imp id fun r => ⟨r.1, r.2.same hb hs so r.1 hn⟩

theorem lookup_cons_eq {α : Type} {x y : Str} {a : α} {l : List (Str × α)} : ((x, a) :: l).lookup y = if y = x then some a else l.lookup y := by
  rw [List.lookup_cons]
  by_cases h : y = x
  · subst h; simp
  · have : (y == x) = false := beq_eq_false_iff_ne.mpr h
    simp [this, h]

theorem own_list {v : Value} {a : Addr} : ∀ {av : AV} {h : Heap}, av.at? = some a → av.R c h X v → ∃ o, h.get? a = some o ∧ o.cls = .type "list" ∧ ∃ vs n, o.data = .seq vs n := by
  intro av h e r
  cases av with
  | own b xs =>
    obtain ⟨_, _, _, ⟨n, ho⟩, _⟩ := r
    obtain rfl : b = a := by injection e
    exact ⟨_, ho, rfl, _, n, rfl⟩
  | dat => cases e
  | inst => cases e
  | fnp => cases e

theorem SInv.store_local {x : Str} {av : AV} {v : Value} {A : Around} {Q : Unit → Shared → Prop} {E : Value → Shared → Prop} (I : SInv c κ sts s₀ X ρ env s) (hx : κ.kd x = some .local) (hv : EntOk c s₀.heap s.heap X av v) (hw : ∀ a xs, av = .own a xs → s₀.heap.get? a = none ∧ κ.kd x = some .local)
    (h : ∀ s', SInv c κ sts s₀ X ((x, av) :: ρ) env s' → (∀ w d, Rd s.heap X w d → Rd s'.heap X w d) → Mv env.locals (fun _ => False) s.heap s'.heap → Q () s') : wpAny c.M A (storeName env x v) Q E s := by
  obtain ⟨m, hn, hm⟩ := I.ns
  refine wpAny_storeName_local (by show env.scope.names.lookup x = _; rw [I.sc]; exact hx) hn (fun h' hn' hs => ?_) (by rw [I.sc, I.fk]; rfl)
  obtain ⟨o, es, ep, ho, hd, _⟩ := id hn
  have so : Soft X env.locals o := fun vs n e => by rw [hd] at e; cases e
  refine h _ ?_ (fun w d r => r.same ho hs.extBut so) (.same hs (let ⟨o2, _, _, q, _⟩ := hn'; ⟨o2, q⟩) (.inl rfl))
  have keyN : ∀ {av : AV} {v : Value}, EntOk c s₀.heap s.heap X av v → EntOk c s₀.heap h' X av v := fun {av v} e => by
    by_cases hq : av.at? = some env.locals
    · have := own_list hq (e.now I.base)
      obtain ⟨o', ho', _, vs, n, hd'⟩ := this
      rw [ho] at ho'; cases ho'; rw [hd] at hd'; cases hd'
    · exact e.same ho hs.extBut so hq
  refine ⟨I.sc, I.fk, I.gl, I.bu, I.co, I.qu, I.G0.same I.G I.lf ho (fun vs e => by rw [hd] at e; cases e) hs.extBut, ⟨_, hn', fun y ay e k => ?_⟩, fun y ay e k => ?_, fun a ha => ?_, I.G0, I.base.same I.lf hs.extBut, I.gens, I.os, I.lf, (fun y a xs e => by
    rw [lookup_cons_eq] at e
    by_cases hy : y = x
    · rw [if_pos hy] at e; exact (hw a xs (Option.some.inj e)).1
    · rw [if_neg hy] at e; exact I.ow y a xs e), (fun y a xs e => by
    rw [lookup_cons_eq] at e
    by_cases hy : y = x
    · rw [if_pos hy] at e; rw [hy]; exact (hw a xs (Option.some.inj e)).2
    · rw [if_neg hy] at e; exact I.ol y a xs e), fun y hy => ?_⟩
  · rw [lookup_cons_eq] at e
    by_cases hy : y = x
    · rw [if_pos hy] at e; cases e
      exact ⟨v, by rw [if_pos hy], keyN hv⟩
    · rw [if_neg hy] at e
      obtain ⟨v', e1, e2⟩ := hm y ay e k
      exact ⟨v', by rw [if_neg hy]; exact e1, keyN e2⟩
  · rw [lookup_cons_eq] at e
    have hy : y ≠ x := fun z => by rw [z, hx] at k; rcases k with k | k <;> cases k
    rw [if_neg hy] at e
    obtain ⟨a, v', e1, e2, e3⟩ := I.cl y ay e k
    refine ⟨a, v', e1, e2.sameBut hs fun z => ?_, keyN e3⟩
    obtain ⟨o', ho', hd'⟩ := e2
    rw [z, ho] at ho'; cases ho'; rw [hd] at hd'; cases hd'
  · obtain ⟨o', e⟩ := I.al a ha
    by_cases hz : a = env.locals
    · obtain ⟨o2, _, _, q, _⟩ := hn'; exact ⟨o2, hz ▸ q⟩
    · exact ⟨o', (hs.2 a hz).trans e⟩
  · obtain ⟨k, a, v', e1, e2, e3, e4⟩ := I.st y hy
    refine ⟨k, a, v', e1, e2, e3.sameBut hs fun z => ?_, e4⟩
    obtain ⟨o', ho', hd'⟩ := e3
    rw [z, ho] at ho'; cases ho'; rw [hd] at hd'; cases hd'

theorem SInv.store_cell {x : Str} {av : AV} {v : Value} {A : Around} {Q : Unit → Shared → Prop} {E : Value → Shared → Prop} (I : SInv c κ sts s₀ X ρ env s) (hx : x ∈ sts) (hv : EntOk c s₀.heap s.heap X av v) (hw : ∀ a xs, av = .own a xs → s₀.heap.get? a = none ∧ κ.kd x = some .local)
    (h : ∀ s', SInv c κ sts s₀ X ((x, av) :: ρ) env s' → (∀ w d, Rd s.heap X w d → Rd s'.heap X w d) → Mv env.locals (fun _ => False) s.heap s'.heap → Q () s') : wpAny c.M A (storeName env x v) Q E s := by
  obtain ⟨kx, a, v₀, hc, h0, hv0, hu⟩ := I.st x hx
  obtain ⟨o, ho, hd⟩ := id hv0
  refine wpAny_storeName_cell (by rw [I.sc]; exact I.fk) (by show env.scope.names.lookup x = _; rw [I.sc]; exact kx) hc hv0 fun h' hn' hs => ?_
  have so : Soft X a o := fun vs n e => by rw [hd] at e; cases e
  refine h _ ?_ (fun w d r => r.same ho hs.extBut so) (.same hs (let ⟨o2, q, _⟩ := hn'; ⟨o2, q⟩) (.inr (.inr ⟨o, _, ho, hd⟩)))
  have keyN : ∀ {av : AV} {v : Value}, EntOk c s₀.heap s.heap X av v → EntOk c s₀.heap h' X av v := fun {av v} e => by
    by_cases hq : av.at? = some a
    · have := own_list hq (e.now I.base)
      obtain ⟨o', ho', _, vs, n, hd'⟩ := this
      rw [ho] at ho'; cases ho'; rw [hd] at hd'; cases hd'
    · exact e.same ho hs.extBut so hq
  have hL : env.locals ≠ a := fun z => by
    obtain ⟨m, ⟨o', es, ep, q, hd', _⟩, _⟩ := I.ns
    rw [z, ho] at q; cases q; rw [hd] at hd'; cases hd'
  refine ⟨I.sc, I.fk, I.gl, I.bu, I.co, I.qu, I.G0.same I.G h0 ho (fun vs e => by rw [hd] at e; cases e) hs.extBut, ?_, fun y ay e k => ?_, fun b hb => ?_, I.G0, I.base.same h0 hs.extBut, I.gens, I.os, I.lf, (fun y a xs e => by
    rw [lookup_cons_eq] at e
    by_cases hy : y = x
    · rw [if_pos hy] at e; exact (hw a xs (Option.some.inj e)).1
    · rw [if_neg hy] at e; exact I.ow y a xs e), (fun y a xs e => by
    rw [lookup_cons_eq] at e
    by_cases hy : y = x
    · rw [if_pos hy] at e; rw [hy]; exact (hw a xs (Option.some.inj e)).2
    · rw [if_neg hy] at e; exact I.ol y a xs e), fun y hy => ?_⟩
  · obtain ⟨m, hn, hm⟩ := I.ns
    refine ⟨m, hn.sameBut hs hL, fun y ay e k => ?_⟩
    rw [lookup_cons_eq] at e
    have hy : y ≠ x := fun z => by rw [z, kx] at k; cases k
    rw [if_neg hy] at e
    obtain ⟨v', e1, e2⟩ := hm y ay e k
    exact ⟨v', e1, keyN e2⟩
  · rw [lookup_cons_eq] at e
    by_cases hy : y = x
    · rw [if_pos hy] at e; cases e
      exact ⟨a, v, hy ▸ hc, hn', keyN hv⟩
    · rw [if_neg hy] at e
      obtain ⟨b, v', e1, e2, e3⟩ := I.cl y ay e k
      exact ⟨b, v', e1, e2.sameBut hs fun z => hy (hu y (z ▸ e1)), keyN e3⟩
  · obtain ⟨o', e⟩ := I.al b hb
    by_cases hz : b = a
    · obtain ⟨o2, q, _⟩ := hn'; exact ⟨o2, hz ▸ q⟩
    · exact ⟨o', (hs.2 b hz).trans e⟩
  · obtain ⟨k, b, v', e1, e2, e3, e4⟩ := I.st y hy
    by_cases hy2 : y = x
    · subst hy2
      rw [hc] at e1; cases e1
      exact ⟨k, a, _, hc, e2, hn', e4⟩
    · exact ⟨k, b, v', e1, e2, e3.sameBut hs fun z => hy2 (hu y (z ▸ e1)), e4⟩

/-- the lists that the frame holds -/
noncomputable def Owned (ρ : List (Str × AV)) (a : Addr) : Prop := ∃ x xs, ρ.lookup x = some (.own a xs)

/-- a name that may be stored: a local, or a cell of the frame's own -/
noncomputable def stOk (κ : Sta) (sts : List Str) (x : Str) : Bool := κ.kd x == some .local || sts.contains x

theorem SInv.store {x : Str} {av : AV} {v : Value} {A : Around} {Q : Unit → Shared → Prop} {E : Value → Shared → Prop} (I : SInv c κ sts s₀ X ρ env s) (hx : stOk κ sts x = true) (hv : EntOk c s₀.heap s.heap X av v) (hw : ∀ a xs, av = .own a xs → s₀.heap.get? a = none ∧ κ.kd x = some .local)
    (h : ∀ s', SInv c κ sts s₀ X ((x, av) :: ρ) env s' → (∀ w d, Rd s.heap X w d → Rd s'.heap X w d) → Mv env.locals (fun _ => False) s.heap s'.heap → Q () s') : wpAny c.M A (storeName env x v) Q E s := by
  rcases Bool.or_eq_true_iff.mp hx with q | q
  · exact I.store_local (by simpa using q) hv hw h
  · exact I.store_cell (List.contains_iff_mem.mp q) hv hw h

/-- a new list comes under the frame's hand -/
theorem SInv.grow {a : Addr} {o : Obj} (I : SInv c κ sts s₀ X ρ env s) (x : Ext c s s') (ha : s.heap.get? a = none) (ha' : s'.heap.get? a = some o) : SInv c κ sts s₀ (a :: X) ρ env s' := by
  have h0 : s₀.heap.get? a = none := I.base.gone ha
  have key : ∀ {av : AV} {v : Value}, EntOk c s₀.heap s.heap X av v → EntOk c s₀.heap s'.heap (a :: X) av v := fun e =>
    e.elim (fun r => .inl (r.fresh h0)) fun r => .inr ⟨r.1, (r.2.fresh ha).ext x.hx⟩
  have J := I.ext x
  exact ⟨J.sc, J.fk, J.gl, J.bu, J.co, J.qu, J.G, (let ⟨m, h, r⟩ := I.ns; ⟨m, x.hx.ns h, fun y av e k => let ⟨v, e1, e2⟩ := r y av e k; ⟨v, e1, key e2⟩⟩),
    (fun y av e k => let ⟨b, v, e1, e2, e3⟩ := I.cl y av e k; ⟨b, v, e1, x.hx.cell e2, key e3⟩),
    (fun b hb => (List.mem_cons.mp hb).elim (fun z => z ▸ ⟨o, ha'⟩) (J.al b)), J.G0, J.base, J.gens, J.os, J.lf, J.ow, J.ol, J.st⟩

theorem SInv.ret (I : SInv c κ sts s₀ X ρ env s) : Ext c s₀ s := ⟨I.base, I.gens, I.os, I.G⟩
end

end Mine
end

section
open PySem PySem.W PyProof.Rows PySem.SeqAt
set_option maxRecDepth 100000
namespace Mine

/-! ## Judgements -/

noncomputable def Ev (c : Cx) (n : Nat) (κ : Sta) (X : List Addr) (ρ : List (Str × AV)) (e : Expr) (r : AV) : Prop :=
  ∀ (env : Env) (s : Shared) (Q : Value → Shared → Prop) (E : Value → Shared → Prop), Inv c κ X ρ env s →
    (∀ v s', Ext c s s' → r.R c s'.heap X v → Q v s') → wpAny c.M (Lv n) (eval e env) Q E s

noncomputable def Ts (c : Cx) (n : Nat) (κ : Sta) (X : List Addr) (ρ : List (Str × AV)) (e : Expr) (b : Bool) : Prop :=
  ∀ (env : Env) (s : Shared) (Q : Bool → Shared → Prop) (E : Value → Shared → Prop), Inv c κ X ρ env s →
    (∀ s', Ext c s s' → Q b s') → wpAny c.M (Lv n) (isTrue e env (eval e env)) Q E s

noncomputable def EvN (c : Cx) (n : Nat) (κ : Sta) (X : List Addr) (ρ : List (Str × AV)) (e : Expr) (xs : List PyData) : Prop :=
  ∀ (env : Env) (s : Shared) (Q : Value → Shared → Prop) (E : Value → Shared → Prop), Inv c κ X ρ env s →
    (∀ a items s', Ext c s s' → s.heap.get? a = none → s'.heap.PlainList a items → RdA s'.heap (a :: X) items.toList xs → Q (.ref a) s') → wpAny c.M (Lv n) (eval e env) Q E s

inductive Out where
  | next (X : List Addr) (ρ : List (Str × AV))
  | ret (r : AV)

noncomputable def Post (c : Cx) (κ : Sta) (sts : List Str) (s₀ : Shared) (Xo : List Addr) (env : Env) (ρ : List (Str × AV)) (s : Shared) (Q : Flow → Shared → Prop) : Out → Prop
  | .next X' ρ' => ∀ s', SInv c κ sts s₀ X' ρ' env s' → (∀ a ∈ Xo, a ∈ X') → Mv env.locals (Owned ρ) s.heap s'.heap → (∀ a, Owned ρ' a → Owned ρ a ∨ s.heap.get? a = none) → Q .next s'
  | .ret r => ∀ v s', Ext c s₀ s' → r.R c s'.heap Xo v → Q (.ret v) s'

noncomputable def Ex (c : Cx) (n : Nat) (κ : Sta) (sts : List Str) (Xo X : List Addr) (ρ : List (Str × AV)) (ss : List Stmt) (o : Out) : Prop :=
  ∀ (s₀ : Shared) (env : Env) (s : Shared) (Q : Flow → Shared → Prop) (E : Value → Shared → Prop), (∀ a ∈ Xo, ∃ o, s₀.heap.get? a = some o) → (∀ a ∈ Xo, a ∈ X) →
    SInv c κ sts s₀ X ρ env s → Post c κ sts s₀ Xo env ρ s Q o → wpAny c.M (Lv n) (execs ss env) Q E s

noncomputable def AvAll (c : Cx) (h : Heap) (X : List Addr) : List Value → List AV → Prop
  | [], [] => True
  | v :: vs, a :: as => a.R c h X v ∧ AvAll c h X vs as
  | _, _ => False

theorem AvAll.nil {c : Cx} {h : Heap} {X : List Addr} {vs : List Value} (r : AvAll c h X vs []) : vs = [] := by
  cases vs with
  | nil => rfl
  | cons v vs => exact (show False from r).elim
theorem AvAll.cons {c : Cx} {h : Heap} {X : List Addr} {vs : List Value} {a : AV} {as : List AV} (r : AvAll c h X vs (a :: as)) : ∃ v ws, vs = v :: ws ∧ a.R c h X v ∧ AvAll c h X ws as := by
  cases vs with
  | nil => exact (show False from r).elim
  | cons v vs => exact ⟨v, vs, rfl, r⟩
theorem AvAll.one {c : Cx} {h : Heap} {X : List Addr} {vs : List Value} {a : AV} (r : AvAll c h X vs [a]) : ∃ v, vs = [v] ∧ a.R c h X v := by
  obtain ⟨v, ws, rfl, r1, r⟩ := r.cons
  obtain rfl := r.nil
  exact ⟨v, rfl, r1⟩
theorem AvAll.two {c : Cx} {h : Heap} {X : List Addr} {vs : List Value} {a b : AV} (r : AvAll c h X vs [a, b]) : ∃ v w, vs = [v, w] ∧ a.R c h X v ∧ b.R c h X w := by
  obtain ⟨v, ws, rfl, r1, r⟩ := r.cons
  obtain ⟨w, rfl, r2⟩ := r.one
  exact ⟨v, w, rfl, r1, r2⟩
theorem AvAll.three {c : Cx} {h : Heap} {X : List Addr} {vs : List Value} {a b d : AV} (r : AvAll c h X vs [a, b, d]) : ∃ v w x, vs = [v, w, x] ∧ a.R c h X v ∧ b.R c h X w ∧ d.R c h X x := by
  obtain ⟨v, ws, rfl, r1, r⟩ := r.cons
  obtain ⟨w, x, rfl, r2⟩ := r.two
  exact ⟨v, w, x, rfl, r1, r2⟩
theorem AvAll.four {c : Cx} {h : Heap} {X : List Addr} {vs : List Value} {a b d e : AV} (r : AvAll c h X vs [a, b, d, e]) : ∃ v w x y, vs = [v, w, x, y] ∧ a.R c h X v ∧ b.R c h X w ∧ d.R c h X x ∧ e.R c h X y := by
  obtain ⟨v, ws, rfl, r1, r⟩ := r.cons
  obtain ⟨w, x, y, rfl, r2⟩ := r.three
  exact ⟨v, w, x, y, rfl, r1, r2⟩

noncomputable def Fn (c : Cx) (n : Nat) (f : Addr) (args : List AV) (r : AV) : Prop :=
  ∀ (X : List Addr) (s : Shared) (vs : List Value) (Q : Value → Shared → Prop) (E : Value → Shared → Prop), Gl c s.heap → (∀ a ∈ X, ∃ o, s.heap.get? a = some o) → AvAll c s.heap X vs args →
    (∀ v s', Ext c s s' → r.R c s'.heap X v → Q v s') → wpAny c.M (Lv n) (call (.ref f) vs) Q E s

section
variable {c : Cx} {n : Nat} {κ : Sta} {X : List Addr} {ρ : List (Str × AV)}

/-! ### Constants and names -/

theorem Ev.int {i : Int} {k : Nat} {pos : Pos} : Ev c n κ X ρ (.Constant (.int i) k pos) (.dat (.int i)) :=
  fun _ s Q E I h => wpAny_Constant_int (h _ _ (.toks I.G) (.int i s.toks))
theorem Ev.bool {b : Bool} {k : Nat} {pos : Pos} : Ev c n κ X ρ (.Constant (.bool b) k pos) (.dat (.bool b)) :=
  fun _ s Q E I h => wpAny_Constant_bool (h _ _ (.refl I.G) (.bool b))
theorem Ev.str {b : Str} {k : Nat} {pos : Pos} : Ev c n κ X ρ (.Constant (.str b) k pos) (.dat (.str b)) :=
  fun _ s Q E I h => wpAny_Constant_str (h _ _ (.toks I.G) (.str b s.toks))

theorem Ev.name {x : Str} {pos : Pos} {av : AV} (hx : ρ.lookup x = some av) (hk : κ.kd x = some .local ∨ κ.kd x = some .cell ∨ κ.kd x = some .free)
    (hd : (x == ("__debug__" : Str)) = false := by decide) (hn : (x == ("__classdict__" : Str)) = false := by decide) : Ev c n κ X ρ (.Name x pos) av := fun env s Q E I h => by
  have hkf : env.scope.kind = .function := by rw [I.sc]; exact I.fk
  have hkd : ∀ k, κ.kd x = some k → env.kindOf x = some k := fun k e => by show env.scope.names.lookup x = _; rw [I.sc]; exact e
  refine wpAny_Name ?_ hd
  rcases hk with hk | hk | hk
  · obtain ⟨m, hm, r⟩ := I.ns
    obtain ⟨v, e1, e2⟩ := r x av hx hk
    exact wpAny_loadName_local hkf (hkd _ hk) hm e1 (h _ _ (.refl I.G) e2)
  · obtain ⟨a, v, e1, e2, e3⟩ := I.cl x av hx (.inl hk)
    exact wpAny_loadName_cell hkf (hkd _ hk) e1 e2 (h _ _ (.refl I.G) e3)
  · obtain ⟨a, v, e1, e2, e3⟩ := I.cl x av hx (.inr hk)
    exact wpAny_loadName_free hkf (hkd _ hk) e1 e2 (h _ _ (.refl I.G) e3) hn

/-! ### Operators -/

noncomputable def Op2 (c : Cx) (n : Nat) (X : List Addr) (f : Value → Value → Sem Value) (a b : AV) (r : AV) : Prop :=
  ∀ (s : Shared) (va vb : Value) (Q : Value → Shared → Prop) (E : Value → Shared → Prop), Gl c s.heap → (∀ a ∈ X, ∃ o, s.heap.get? a = some o) → a.R c s.heap X va → b.R c s.heap X vb →
    (∀ v s', Ext c s s' → r.R c s'.heap X v → Q v s') → wpAny c.M (Lv n) (f va vb) Q E s

theorem Ev.bin {l r : Expr} {op : Operator} {pos : Pos} {a b d : AV} (hl : Ev c n κ X ρ l a) (hr : Ev c n κ X ρ r b) (ho : Op2 c n X (binaryOp op) a b d) : Ev c n κ X ρ (.BinOp l op r pos) d :=
  fun env s Q E I h => wpAny_BinOp (hl env s _ E I fun va s1 x1 ra => hr env s1 _ E (I.ext x1) fun vb s2 x2 rb =>
    ho s2 va vb Q E x2.gl ((I.ext x1).ext x2).al (ra.ext x2.hx) rb fun v s3 x3 rv => h v s3 ((x1.trans x2).trans x3) rv)

theorem Ev.cmp {l r : Expr} {op : CmpOp} {pos : Pos} {a b d : AV} (hl : Ev c n κ X ρ l a) (hr : Ev c n κ X ρ r b) (ho : Op2 c n X (compareOp op) a b d) (hm : behindInMarks op r = false := by with_unfolding_all rfl) :
    Ev c n κ X ρ (.Compare l [op] [r] pos) d :=
  fun env s Q E I h => wpAny_Compare1 (hl env s _ E I fun va s1 x1 ra => hr env s1 _ E (I.ext x1) fun vb s2 x2 rb =>
    ho s2 va vb Q E x2.gl ((I.ext x1).ext x2).al (ra.ext x2.hx) rb fun v s3 x3 rv => h v s3 ((x1.trans x2).trans x3) rv) hm

theorem Ts.cmp {l r : Expr} {op : CmpOp} {pos : Pos} {a b : AV} {t : Bool} (hl : Ev c n κ X ρ l a) (hr : Ev c n κ X ρ r b) (ho : Op2 c n X (compareOp op) a b (.dat (.bool t))) (hm : behindInMarks op r = false := by with_unfolding_all rfl) :
    Ts c n κ X ρ (.Compare l [op] [r] pos) t :=
  fun env s Q E I h => wpAny_isTrue_Compare1 (hl env s _ E I fun va s1 x1 ra => hr env s1 _ E (I.ext x1) fun vb s2 x2 rb =>
    ho s2 va vb _ E x2.gl ((I.ext x1).ext x2).al (ra.ext x2.hx) rb fun v s3 x3 rv => by
      rw [Rd.bool_inv rv]
      exact wpAny_truthy_bool (h s3 ((x1.trans x2).trans x3))) hm

theorem op_int {f : Value → Value → Sem Value} {a b r : Int} (h : ∀ (s : Shared) (t u : Tok) (Q : Value → Shared → Prop) (E : Value → Shared → Prop), Q (.int r s.toks) { s with toks := s.toks + 1 } → wpAny c.M (Lv n) (f (.int a t) (.int b u)) Q E s) :
    Op2 c n X f (.dat (.int a)) (.dat (.int b)) (.dat (.int r)) := fun s va vb Q E G _ ra rb k => by
  obtain ⟨t, rfl⟩ := Rd.int_inv ra
  obtain ⟨u, rfl⟩ := Rd.int_inv rb
  exact h s t u Q E (k _ _ (.toks G) (.int r s.toks))
theorem op_cmpi {f : Value → Value → Sem Value} {a b : Int} {r : Bool} (h : ∀ (s : Shared) (t u : Tok) (Q : Value → Shared → Prop) (E : Value → Shared → Prop), Q (.bool r) s → wpAny c.M (Lv n) (f (.int a t) (.int b u)) Q E s) :
    Op2 c n X f (.dat (.int a)) (.dat (.int b)) (.dat (.bool r)) := fun s va vb Q E G _ ra rb k => by
  obtain ⟨t, rfl⟩ := Rd.int_inv ra
  obtain ⟨u, rfl⟩ := Rd.int_inv rb
  exact h s t u Q E (k _ _ (.refl G) (.bool r))

theorem op_add {a b : Int} : Op2 c n X (binaryOp .Add) (.dat (.int a)) (.dat (.int b)) (.dat (.int (a + b))) := op_int fun _ _ _ _ _ h => PyProof.Rows.add_int h
theorem op_sub {a b : Int} : Op2 c n X (binaryOp .Sub) (.dat (.int a)) (.dat (.int b)) (.dat (.int (a - b))) := op_int fun _ _ _ _ _ h => PyProof.Rows.sub_int h
theorem op_mul {a b : Int} (hm : IntMulOk a b) : Op2 c n X (binaryOp .Mult) (.dat (.int a)) (.dat (.int b)) (.dat (.int (a * b))) := op_int fun _ _ _ _ _ h => PyProof.Rows.mul_int h hm
theorem op_div {a b : Int} (hb : b ≠ 0) (hs : b.natAbs < 1073741824) : Op2 c n X (binaryOp .FloorDiv) (.dat (.int a)) (.dat (.int b)) (.dat (.int (a.fdiv b))) :=
  op_int fun _ _ _ _ _ h => floordiv_int hb h (.inl (PyProof.noPylong_small hs))
theorem op_mod {a b : Int} (hb : b ≠ 0) (hs : b.natAbs < 1073741824) : Op2 c n X (binaryOp .Mod) (.dat (.int a)) (.dat (.int b)) (.dat (.int (a.fmod b))) :=
  op_int fun _ _ _ _ _ h => PyProof.Rows.mod_int hb h
theorem op_pow {a b : Int} (hb : 0 ≤ b) (hs : (Builtin.Int.intBits a : Int) * b ≤ 2 ^ 27) : Op2 c n X (binaryOp .Pow) (.dat (.int a)) (.dat (.int b)) (.dat (.int (a ^ b.toNat))) :=
  op_int fun _ _ _ _ _ h => pow_int hb hs h
theorem op_lt {a b : Int} : Op2 c n X (compareOp .Lt) (.dat (.int a)) (.dat (.int b)) (.dat (.bool (decide (a < b)))) := op_cmpi fun _ _ _ _ _ h => PyProof.Rows.lt_int h
theorem op_gt {a b : Int} : Op2 c n X (compareOp .Gt) (.dat (.int a)) (.dat (.int b)) (.dat (.bool (decide (b < a)))) := op_cmpi fun _ _ _ _ _ h => PyProof.Rows.gt_int h
theorem op_ge {a b : Int} : Op2 c n X (compareOp .GtE) (.dat (.int a)) (.dat (.int b)) (.dat (.bool (decide (b ≤ a)))) := op_cmpi fun _ _ _ _ _ h => PyProof.Rows.ge_int h
theorem op_eqi {a b : Int} : Op2 c n X (compareOp .Eq) (.dat (.int a)) (.dat (.int b)) (.dat (.bool (a == b))) := op_cmpi fun _ _ _ _ _ h => PyProof.Rows.eq_int h
theorem op_nei {a b : Int} : Op2 c n X (compareOp .NotEq) (.dat (.int a)) (.dat (.int b)) (.dat (.bool (a != b))) := op_cmpi fun _ _ _ _ _ h => PyProof.Rows.ne_int h

end

end Mine
end

section
open PySem PySem.W PyProof.Rows PySem.SeqAt
set_option maxRecDepth 100000
namespace Mine
section
variable {c : Cx} {n : Nat} {κ : Sta} {X : List Addr} {ρ : List (Str × AV)}

theorem Ev.neg {e : Expr} {pos : Pos} {i : Int} (h : Ev c n κ X ρ e (.dat (.int i))) : Ev c n κ X ρ (.UnaryOp .USub e pos) (.dat (.int (-i))) :=
  fun env s Q E I k => wpAny_UnaryOp (h env s _ E I fun v s1 x1 r => by
    obtain ⟨t, rfl⟩ := Rd.int_inv r
    exact PyProof.Rows.neg_int (k _ _ (x1.trans (.toks x1.gl)) (.int _ _)))

theorem Ev.and {x y : Expr} {pos : Pos} {a b : Bool} (hx : Ev c n κ X ρ x (.dat (.bool a))) (hy : a = true → Ev c n κ X ρ y (.dat (.bool b))) : Ev c n κ X ρ (.BoolOp .And [x, y] pos) (.dat (.bool (a && b))) :=
  fun env s Q E I k => wpAny_And2 (hx env s _ E I fun v s1 x1 r => by
    rw [Rd.bool_inv r]
    refine wpAny_truthy_bool ?_
    cases a with
    | false => exact k _ _ x1 (Rd.bool false)
    | true => exact hy rfl env s1 _ E (I.ext x1) fun v s2 x2 r2 => k v s2 (x1.trans x2) r2)
theorem Ev.or {x y : Expr} {pos : Pos} {a b : Bool} (hx : Ev c n κ X ρ x (.dat (.bool a))) (hy : a = false → Ev c n κ X ρ y (.dat (.bool b))) : Ev c n κ X ρ (.BoolOp .Or [x, y] pos) (.dat (.bool (a || b))) :=
  fun env s Q E I k => wpAny_Or2 (hx env s _ E I fun v s1 x1 r => by
    rw [Rd.bool_inv r]
    refine wpAny_truthy_bool ?_
    cases a with
    | true => exact k _ _ x1 (Rd.bool true)
    | false => exact hy rfl env s1 _ E (I.ext x1) fun v s2 x2 r2 => k v s2 (x1.trans x2) r2)

theorem Ts.and {x y : Expr} {pos : Pos} {a b : Bool} (hx : Ts c n κ X ρ x a) (hy : a = true → Ts c n κ X ρ y b) : Ts c n κ X ρ (.BoolOp .And [x, y] pos) (a && b) :=
  fun env s Q E I k => wpAny_isTrue_BoolOp (wpAny_allTrue_And_cons (hx env s _ E I fun s1 x1 => by
    cases a with
    | false => exact k _ x1
    | true => exact wpAny_allTrue_And_cons (hy rfl env s1 _ E (I.ext x1) fun s2 x2 => by
        cases b with
        | false => exact k _ (x1.trans x2)
        | true => exact wpAny_allTrue_And_nil (k _ (x1.trans x2)))))
theorem Ts.or {x y : Expr} {pos : Pos} {a b : Bool} (hx : Ts c n κ X ρ x a) (hy : a = false → Ts c n κ X ρ y b) : Ts c n κ X ρ (.BoolOp .Or [x, y] pos) (a || b) :=
  fun env s Q E I k => wpAny_isTrue_BoolOp (wpAny_allTrue_Or_cons (hx env s _ E I fun s1 x1 => by
    cases a with
    | true => exact k _ x1
    | false => exact wpAny_allTrue_Or_cons (hy rfl env s1 _ E (I.ext x1) fun s2 x2 => by
        cases b with
        | true => exact k _ (x1.trans x2)
        | false => exact wpAny_allTrue_Or_nil (k _ (x1.trans x2)))))

/-- a test that is a value -/
noncomputable def valTest : Expr → Bool
  | .UnaryOp .Not _ _ | .BoolOp .. | .IfExp .. | .Compare .. => false
  | _ => true
theorem isTrue_val {e : Expr} (h : valTest e = true) (env : Env) (whole : Sem Value) : isTrue e env whole = (do let v ← whole; standAt e.pos; holding [v] (truthy v)) := by
  cases e <;> first | rfl | (cases h; done) | (rename_i op _ _; cases op <;> first | rfl | (cases h; done))
theorem Ts.val {e : Expr} {b : Bool} (h : Ev c n κ X ρ e (.dat (.bool b))) (hv : valTest e = true := by rfl) : Ts c n κ X ρ e b :=
  fun env s Q E I k => wpAny_isTrue_value (h env s _ E I fun v s1 x1 r => by
    rw [Rd.bool_inv r]
    exact wpAny_truthy_bool (k _ x1)) (isTrue_val hv env _)

theorem Ev.ite {t x y : Expr} {pos : Pos} {b : Bool} {r : AV} (ht : Ts c n κ X ρ t b) (hx : b = true → Ev c n κ X ρ x r) (hy : b = false → Ev c n κ X ρ y r) : Ev c n κ X ρ (.IfExp t x y pos) r :=
  fun env s Q E I k => wpAny_IfExp (ht env s _ E I fun s1 x1 => by
    cases b with
    | true => exact hx rfl env s1 _ E (I.ext x1) fun v s2 x2 r2 => k v s2 (x1.trans x2) r2
    | false => exact hy rfl env s1 _ E (I.ext x1) fun v s2 x2 r2 => k v s2 (x1.trans x2) r2)

/-! ### Several expressions -/

noncomputable def notStar : Expr → Bool
  | .Starred .. => false
  | _ => true
theorem starEach_cons {e : Expr} (h : notStar e = true) (rest : List Expr) (env : Env) : starEach (e :: rest) env = (false, eval e env) :: starEach rest env := by
  cases e <;> first | rfl | (cases h; done)

noncomputable def EvAs (c : Cx) (n : Nat) (κ : Sta) (X : List Addr) (ρ : List (Str × AV)) : List Expr → List AV → Prop
  | [], [] => True
  | e :: es, a :: as => notStar e = true ∧ Ev c n κ X ρ e a ∧ EvAs c n κ X ρ es as
  | _, _ => False

theorem EvAs.nil : EvAs c n κ X ρ [] [] := trivial
theorem EvAs.cons {e : Expr} {es : List Expr} {a : AV} {as : List AV} (h : Ev c n κ X ρ e a) (hs : EvAs c n κ X ρ es as) (hn : notStar e = true := by rfl) : EvAs c n κ X ρ (e :: es) (a :: as) := ⟨hn, h, hs⟩

theorem EvAs.run {pos : Pos} {env : Env} {E : Value → Shared → Prop} : ∀ {es : List Expr} {as : List AV} {s : Shared} {Q : List Value → Shared → Prop}, EvAs c n κ X ρ es as → Inv c κ X ρ env s →
    (∀ vs s', Ext c s s' → AvAll c s'.heap X vs as → Q vs s') → wpAny c.M (Lv n) (spliced (backTo pos (starEach es env))) Q E s
  | [], [], s, Q, _, I, k => wpAny_items_nil (k [] s (.refl I.G) trivial)
  | e :: es, a :: as, s, Q, ⟨hn, h, hs⟩, I, k => wpAny_items_cons (h env s _ E I fun v s1 x1 r => hs.run (I.ext x1) fun vs s2 x2 rs => k (v :: vs) s2 (x1.trans x2) ⟨r.ext x2.hx, rs⟩) (starEach_cons hn es env)
  | [], _ :: _, _, _, h, _, _ => h.elim
  | _ :: _, [], _, _, h, _, _ => h.elim

theorem EvAs.plain {pos : Pos} {env : Env} : ∀ {es : List Expr} {as : List AV}, EvAs c n κ X ρ es as → (backTo pos (starEach es env)).any (·.1) = false
  | [], [], _ => rfl
  | e :: es, a :: as, ⟨hn, h, hs⟩ => by
    rw [starEach_cons hn]
    show (false || (backTo pos (starEach es env)).any (·.1)) = false
    rw [hs.plain]; rfl
  | [], _ :: _, h => h.elim
  | _ :: _, [], h => h.elim
theorem EvAs.plain' {pos : Pos} {env : Env} : ∀ {es : List Expr} {as : List AV}, EvAs c n κ X ρ es as → (backTo pos (starEach es env)).all (!·.1) = true
  | [], [], _ => rfl
  | e :: es, a :: as, ⟨hn, h, hs⟩ => by
    rw [starEach_cons hn]
    show (true && (backTo pos (starEach es env)).all (!·.1)) = true
    rw [hs.plain']; rfl
  | [], _ :: _, h => h.elim
  | _ :: _, [], h => h.elim
theorem EvAs.args {f : Value} {pos : Pos} {env : Env} {E : Value → Shared → Prop} {es : List Expr} {as : List AV} {s : Shared} {Q : Args → Shared → Prop} (h : EvAs c n κ X ρ es as) (I : Inv c κ X ρ env s)
    (k : ∀ vs s', Ext c s s' → AvAll c s'.heap X vs as → Q ⟨vs, []⟩ s') : wpAny c.M (Lv n) (evalArgs f true (backTo pos (starEach es env)) []) Q E s := by
  have h2 := h.run (pos := pos) (env := env) (E := E) (s := s) (Q := fun vs s' => Q ⟨vs, []⟩ s') I k
  match es, as, h with
  | [], [], _ => exact PySem.evalArgs_none (k [] s (.refl I.G) trivial)
  | e :: es, a :: as, ⟨hn, _, _⟩ =>
    rw [starEach_cons hn] at h2 ⊢
    exact Calls.evalArgs_plain h2

theorem AvAll.dat {h : Heap} : ∀ {ds : List PyData} {vs : List Value}, AvAll c h X vs (ds.map .dat) → RdA h X vs ds
  | [], [], _ => .nil
  | _ :: _, _ :: _, r => .cons r.1 (AvAll.dat r.2)
  | [], _ :: _, r => r.elim
  | _ :: _, [], r => r.elim
theorem AvAll.length {h : Heap} : ∀ {as : List AV} {vs : List Value}, AvAll c h X vs as → vs.length = as.length
  | [], [], _ => rfl
  | _ :: _, _ :: _, r => by simp [AvAll.length r.2]
  | [], _ :: _, r => r.elim
  | _ :: _, [], r => r.elim

/-! ### Displays -/

theorem ext_push {s : Shared} (G : Gl c s.heap) (o : Obj) : Ext c s { s with heap := s.heap.push o } := Ext.keep (tk := s.toks) G fun b o' e => Heap.get?_push_of_some o e
theorem fresh_size (h : Heap) : h.get? h.objs.size = none := Heap.get?_none_of_le (Nat.le_refl _)
theorem not_mem_fresh {s : Shared} {a : Addr} (al : ∀ a ∈ X, ∃ o, s.heap.get? a = some o) (h : s.heap.get? a = none) : a ∉ X := fun m => by
  obtain ⟨o, e⟩ := al a m; rw [h] at e; cases e

theorem Ev.tuple {es : List Expr} {k : Nat} {pos : Pos} {ds : List PyData} (h : EvAs c n κ X ρ es (ds.map .dat)) (hz : ds.length ≤ 1000 := by decide) : Ev c n κ X ρ (.Tuple es k pos) (.dat (.tuple ds)) :=
  fun env s Q E I k => wpAny_Tuple (h.run I fun vs s1 x1 r => by
    have hl := r.length
    rw [List.length_map] at hl
    refine ⟨by rw [hl]; exact Nat.le_trans hz (by decide), k _ _ (x1.trans (ext_push x1.gl _)) ?_⟩
    exact Rd.tuple (items := vs.toArray) ⟨_, Heap.get?_push_size _ rfl, rfl, _, rfl⟩ (by simpa using r.dat.ext (ext_push x1.gl _).hx))

theorem EvN.list {es : List Expr} {pos : Pos} {ds : List PyData} (h : EvAs c n κ X ρ es (ds.map .dat)) (hz : ds.length ≤ 1000 := by decide) : EvN c n κ X ρ (.List es pos) ds :=
  fun env s Q E I k => wpAny_List (h.run I fun vs s1 x1 r => by
    have hl := r.length
    rw [List.length_map] at hl
    refine ⟨by rw [hl]; exact Nat.le_trans hz (by decide), k _ vs.toArray _ (x1.trans (ext_push x1.gl _)) (x1.hx.gone (fresh_size _)) ⟨_, Heap.get?_push_size _ rfl⟩ ?_⟩
    have := (r.dat.fresh (fresh_size s1.heap)).ext (ext_push x1.gl { cls := .type "list", data := .seq vs.toArray }).hx
    simpa using this)
theorem EvN.ev {e : Expr} {ds : List PyData} (h : EvN c n κ X ρ e ds) : Ev c n κ X ρ e (.dat (.list ds)) :=
  fun env s Q E I k => h env s Q E I fun a items s' x ha hl r => k _ _ x (Rd.list hl (r.sub fun b hb => .tail _ hb) (not_mem_fresh I.al ha))
theorem Ev.list {es : List Expr} {pos : Pos} {ds : List PyData} (h : EvAs c n κ X ρ es (ds.map .dat)) (hz : ds.length ≤ 1000 := by decide) : Ev c n κ X ρ (.List es pos) (.dat (.list ds)) := (EvN.list h hz).ev

/-! ### Calls -/

noncomputable def OpN (c : Cx) (n : Nat) (X : List Addr) (f : List Value → Sem Value) (as : List AV) (r : AV) : Prop :=
  ∀ (s : Shared) (vs : List Value) (Q : Value → Shared → Prop) (E : Value → Shared → Prop), Gl c s.heap → (∀ a ∈ X, ∃ o, s.heap.get? a = some o) → AvAll c s.heap X vs as →
    (∀ v s', Ext c s s' → r.R c s'.heap X v → Q v s') → wpAny c.M (Lv n) (f vs) Q E s

theorem callWith_machine {M : Model} {A : Around} {E : Value → Shared → Prop} {s : Shared} {pos : Pos} {f : Value} {first : List Value} {args : List (Bool × Sem Value)} {Q : Value → Shared → Prop} (hplain : args.any (·.1) = false)
    (hf : keeperOf f = pure .machine)
    (h : wpAny M A (evalArgs f true args []) (fun a s₁ => wpAny M A (call f (first ++ a.pos) a.kw) Q E s₁) E s) :
    wpAny M A (callWith pos f first args []) Q E s := by
  unfold callWith
  refine wpAny_bind (wpAny_holding (wpAny_mono h (fun a s₁ h₁ => wpAny_bind (wpAny_standAt ?_)) fun _ _ x => x))
  rw [hf, hplain]
  refine wpAny_bind (wpAny_pure ?_)
  exact wpAny_bind (wpAny_mono h₁ (fun r s₂ hr => wpAny_bind (wpAny_holding (wpAny_point (wpAny_pure hr)))) fun _ _ x => x)

/-- a global's name -/
theorem name_global {env : Env} {s : Shared} {Q : Value → Shared → Prop} {E : Value → Shared → Prop} {x : Str} {pos : Pos} {v : Value} (I : Inv c κ X ρ env s) (hk : κ.kd x = some .globalImplicit) (hg : c.mg x = some v) (h : Q v s)
    (hd : (x == ("__debug__" : Str)) = false := by decide) : wpAny c.M (Lv n) (eval (.Name x pos) env) Q E s :=
  Calls.Name_function_global (by rw [I.sc]; exact I.fk) (by show env.scope.names.lookup x = _; rw [I.sc]; exact hk) (Calls.loadGlobal_global (by rw [I.gl]; exact I.G.g) hg h) hd
theorem name_builtin {env : Env} {s : Shared} {Q : Value → Shared → Prop} {E : Value → Shared → Prop} {x : Str} {pos : Pos} {v : Value} (I : Inv c κ X ρ env s) (hk : κ.kd x = some .globalImplicit) (hg : c.mg x = none) (hb : bootBuiltins x = some v) (h : Q v s)
    (hd : (x == ("__debug__" : Str)) = false := by decide) (hn : x ≠ "__name__" := by decide) : wpAny c.M (Lv n) (eval (.Name x pos) env) Q E s :=
  Calls.Name_function_global (by rw [I.sc]; exact I.fk) (by show env.scope.names.lookup x = _; rw [I.sc]; exact hk) (Calls.loadGlobal_builtin (by rw [I.gl]; exact I.G.g) hg (by rw [I.bu]; exact I.G.b) ((I.G.bb x hn).trans hb) h) hd

theorem eval_call_name (f : Str) (p : Pos) (args : List Expr) (pos : Pos) (env : Env) : eval (.Call (.Name f p) args [] pos) env = (do callWith pos (← eval (.Name f p) env) [] (backTo pos (starEach args env)) []) := rfl

theorem Ev.glob {x : Str} {pos : Pos} {v : Value} {r : AV} (hk : κ.kd x = some .globalImplicit) (hg : c.mg x = some v) (hr : ∀ h, r.R c h X v) (hd : (x == ("__debug__" : Str)) = false := by decide) : Ev c n κ X ρ (.Name x pos) r :=
  fun env s Q E I k => name_global I hk hg (k _ _ (.refl I.G) (hr _)) hd

/-- a call of one of the text's functions -/
theorem Ev.call {f : Str} {p pos : Pos} {es : List Expr} {as : List AV} {r : AV} {a : Addr} {o : Obj} {fd : FuncData} (hk : κ.kd f = some .globalImplicit) (hg : c.mg f = some (.ref a)) (ho : c.K.lookup a = some o) (hd : o.data = .func fd)
    (hf : Fn c n a as r) (h : EvAs c n κ X ρ es as) (hdb : (f == ("__debug__" : Str)) = false := by decide) : Ev c n κ X ρ (.Call (.Name f p) es [] pos) r :=
  fun env s Q E I k => by
    rw [eval_call_name]
    refine wpAny_bind (name_global I hk hg ?_ hdb)
    refine Calls.callWith_function (o := o) (fd := fd) (h.args I fun vs s1 x1 rs => ⟨⟨x1.gl.k a o ho, hd⟩, ?_⟩)
    exact hf X s1 vs Q E x1.gl (I.ext x1).al rs fun v s2 x2 rv => k v s2 (x1.trans x2) rv

theorem Ev.callB {f : Str} {p pos : Pos} {es : List Expr} {as : List AV} {r : AV} {b : Value} (hk : κ.kd f = some .globalImplicit) (hg : c.mg f = none) (hb : bootBuiltins f = some b) (hm : keeperOf b = pure .machine)
    (hf : OpN c n X (fun vs => PySem.call b vs) as r) (h : EvAs c n κ X ρ es as) (hdb : (f == ("__debug__" : Str)) = false := by decide) (hn : f ≠ "__name__" := by decide) : Ev c n κ X ρ (.Call (.Name f p) es [] pos) r :=
  fun env s Q E I k => by
    rw [eval_call_name]
    refine wpAny_bind (name_builtin I hk hg hb ?_ hdb hn)
    refine callWith_machine h.plain hm (h.args I fun vs s1 x1 rs => ?_)
    exact hf s1 vs Q E x1.gl (I.ext x1).al rs fun v s2 x2 rv => k v s2 (x1.trans x2) rv

/-- a call of a function that a variable holds -/
theorem Ev.callP {f : Str} {p pos : Pos} {e : Expr} {d : PyData} {dom : List PyData} {q : PyData → Bool} (hx : Ev c n κ X ρ (.Name f p) (.fnp n dom q)) (h : Ev c n κ X ρ e (.dat d)) (hm : d ∈ dom) (hs : notStar e = true := by rfl) :
    Ev c n κ X ρ (.Call (.Name f p) [e] [] pos) (.dat (.bool (q d))) :=
  fun env s Q E I k => by
    rw [eval_call_name]
    refine wpAny_bind (hx env s _ E I fun v s1 x1 rf => ?_)
    obtain ⟨⟨a, o, fd, rfl, ho, hc, hd⟩, rf⟩ := rf
    have hA : EvAs c n κ X ρ [e] [.dat d] := .cons h .nil hs
    refine Calls.callWith_function (o := o) (fd := fd) (hA.args (I.ext x1) fun vs s2 x2 rs => ⟨⟨x2.hx.getC ho (by rw [hc]; nofun), hd⟩, ?_⟩)
    obtain ⟨vx, rfl, r1⟩ := rs.one
    exact rf s2 d vx Q E x2.hx x2.gl hm (Rd.sub r1 nofun) fun s3 x3 => k _ s3 ((x1.trans x2).trans x3) (Rd.bool _)

end
end Mine
end

section
open PySem PySem.W PyProof.Rows PySem.SeqAt
set_option maxRecDepth 100000
namespace Mine
section
variable {c : Cx} {n : Nat} {κ : Sta} {X : List Addr} {ρ : List (Str × AV)}

theorem subscripted_false (slice : Expr) (o i : Value) : ∃ ops, subscripted slice false o i = operate ops (getItem o i) := by
  cases slice
  case Slice a b st p => cases st <;> exact ⟨_, rfl⟩
  all_goals exact ⟨_, rfl⟩

theorem Ev.sub {v i : Expr} {pos : Pos} {a b r : AV} {T id : String} (hl : typeLookup (.type T) "__getitem__" = pure (some (.builtin id)))
    (hv : Ev c n κ X ρ v a) (hi : Ev c n κ X ρ i b) (ht : ∀ (s : Shared) va, a.R c s.heap X va → s.TypeIs va T) (ho : Op2 c n X getItem a b r) : Ev c n κ X ρ (.Subscript v i pos) r :=
  fun env s Q E I k => Subscript_ (hv env s _ E I fun va s1 x1 ra => hi env s1 _ E (I.ext x1) fun vb s2 x2 rb => by
    obtain ⟨ops, hops⟩ := subscripted_false i va vb
    exact tail_any (ht s2 va (ra.ext x2.hx)) hl (ho s2 va vb Q E x2.gl ((I.ext x1).ext x2).al (ra.ext x2.hx) rb fun w s3 x3 rw => k w s3 ((x1.trans x2).trans x3) rw) hops)

theorem seqIndex_some {k : Int} {m j : Nat} (h : seqIndex? k m = some j) : (0 ≤ k ∧ k < m ∧ j = k.toNat) ∨ (k < 0 ∧ -(m : Int) ≤ k ∧ j = (k + m).toNat) := by
  unfold seqIndex? at h
  by_cases h0 : k < 0
  · simp only [h0, if_true] at h
    split at h
    · rename_i q
      simp only [Bool.and_eq_true, decide_eq_true_eq] at q
      cases h
      exact .inr ⟨h0, by omega, rfl⟩
    · cases h
  · simp only [h0, if_false] at h
    split at h
    · rename_i q
      simp only [Bool.and_eq_true, decide_eq_true_eq] at q
      cases h
      exact .inl ⟨q.1, q.2, rfl⟩
    · cases h

theorem getItem_list_any {l : Addr} {items : Array Value} {k : Int} {t : Tok} {j : Nat} {x : Value} {s : Shared} {A : Around} {Q : Value → Shared → Prop} {E : Value → Shared → Prop} (hl : s.heap.IsList l items)
    (hlo : -(2 ^ 63) ≤ k) (hhi : k < 2 ^ 63) (hj : seqIndex? k items.size = some j) (hx : items[j]? = some x) (h : Q x s) : wpAny c.M A (getItem (.ref l) (.int k t)) Q E s := by
  rcases seqIndex_some hj with ⟨h0, h1, rfl⟩ | ⟨h0, h1, rfl⟩
  · exact wpAny_getItem_list hl h0 hhi hx h
  · exact wpAny_getItem_list_neg hl h0 h1 hlo hx h

theorem op_item_list {xs : List PyData} {k : Int} {j : Nat} {d : PyData} (hlo : -(2 ^ 63) ≤ k) (hhi : k < 2 ^ 63) (hj : seqIndex? k xs.length = some j) (hx : xs[j]? = some d) :
    Op2 c n X getItem (.dat (.list xs)) (.dat (.int k)) (.dat d) := fun s va vb Q E G al ra rb h => by
  obtain ⟨a, items, rfl, hl, r, _⟩ := Rd.list_inv ra
  obtain ⟨t, rfl⟩ := Rd.int_inv rb
  obtain ⟨v, e, rv⟩ := r.get hx
  have hlen := r.length
  exact getItem_list_any hl.isList hlo hhi (by rw [← hlen] at hj; simpa using hj) (by simpa using e) (h v s (.refl G) rv)
theorem op_item_own {l : Addr} {xs : List PyData} {k : Int} {j : Nat} {d : PyData} (hlo : -(2 ^ 63) ≤ k) (hhi : k < 2 ^ 63) (hj : seqIndex? k xs.length = some j) (hx : xs[j]? = some d) :
    Op2 c n X getItem (.own l xs) (.dat (.int k)) (.dat d) := fun s va vb Q E G al ra rb h => by
  obtain ⟨rfl, _, items, hl, r⟩ := ra
  obtain ⟨t, rfl⟩ := Rd.int_inv rb
  obtain ⟨v, e, rv⟩ := r.get hx
  have hlen := r.length
  exact getItem_list_any hl.isList hlo hhi (by rw [← hlen] at hj; simpa using hj) (by simpa using e) (h v s (.refl G) rv)
theorem op_item_tuple {xs : List PyData} {k : Int} {j : Nat} {d : PyData} (hlo : -(2 ^ 63) ≤ k) (hhi : k < 2 ^ 63) (hj : seqIndex? k xs.length = some j) (hx : xs[j]? = some d) :
    Op2 c n X getItem (.dat (.tuple xs)) (.dat (.int k)) (.dat d) := fun s va vb Q E G al ra rb h => by
  obtain ⟨a, items, rfl, hl, r⟩ := Rd.tuple_inv ra
  obtain ⟨t, rfl⟩ := Rd.int_inv rb
  obtain ⟨v, e, rv⟩ := r.get hx
  have hlen := r.length
  exact PyProof.Rows.getItem_tuple hl hlo hhi (by rw [← hlen] at hj; simpa using hj) (by simpa using e) (h v s (.refl G) rv)
theorem op_item_str {x : Str} {k : Int} {ch : Nat} (hlo : -(2 ^ 63) ≤ k) (hhi : k < 2 ^ 63) (hc : (seqIndex? k x.length).bind (x.cps[·]?) = some ch) :
    Op2 c n X getItem (.dat (.str x)) (.dat (.int k)) (.dat (.str ⟨#[ch]⟩)) := fun s va vb Q E G al ra rb h => by
  obtain ⟨t, rfl⟩ := Rd.str_inv ra
  obtain ⟨u, rfl⟩ := Rd.int_inv rb
  exact PyProof.Rows.getItem_str (by simp; omega) hc (h _ _ (.toks G) (.str _ _))

theorem type_list {s : Shared} {xs : List PyData} {v : Value} (r : (AV.dat (.list xs)).R c s.heap X v) : s.TypeIs v "list" := by
  obtain ⟨a, items, rfl, hl, _⟩ := Rd.list_inv r; exact hl.isList.typeIs
theorem type_own {s : Shared} {a : Addr} {xs : List PyData} {v : Value} (r : (AV.own a xs).R c s.heap X v) : s.TypeIs v "list" := by
  obtain ⟨rfl, _, items, hl, _⟩ := r; exact hl.isList.typeIs
theorem type_tuple {s : Shared} {xs : List PyData} {v : Value} (r : (AV.dat (.tuple xs)).R c s.heap X v) : s.TypeIs v "tuple" := by
  obtain ⟨a, items, rfl, hl, _⟩ := Rd.tuple_inv r; exact hl.typeIs
theorem type_str {s : Shared} {x : Str} {v : Value} (r : (AV.dat (.str x)).R c s.heap X v) : s.TypeIs v "str" := by
  obtain ⟨t, rfl⟩ := Rd.str_inv r; exact typeIs_str s x t

theorem Ev.itemL {v i : Expr} {pos : Pos} {xs : List PyData} {k : Int} {j : Nat} {d : PyData} (hv : Ev c n κ X ρ v (.dat (.list xs))) (hi : Ev c n κ X ρ i (.dat (.int k))) (hj : seqIndex? k xs.length = some j) (hx : xs[j]? = some d)
    (hb : -1000 ≤ k ∧ k ≤ 1000 := by omega) : Ev c n κ X ρ (.Subscript v i pos) (.dat d) :=
  Ev.sub slot_list_getitem.lookup hv hi (fun _ _ => type_list) (op_item_list (by omega) (by omega) hj hx)
theorem Ev.itemO {v i : Expr} {pos : Pos} {l : Addr} {xs : List PyData} {k : Int} {j : Nat} {d : PyData} (hv : Ev c n κ X ρ v (.own l xs)) (hi : Ev c n κ X ρ i (.dat (.int k))) (hj : seqIndex? k xs.length = some j) (hx : xs[j]? = some d)
    (hb : -1000 ≤ k ∧ k ≤ 1000 := by omega) : Ev c n κ X ρ (.Subscript v i pos) (.dat d) :=
  Ev.sub slot_list_getitem.lookup hv hi (fun _ _ => type_own) (op_item_own (by omega) (by omega) hj hx)
theorem Ev.itemT {v i : Expr} {pos : Pos} {xs : List PyData} {k : Int} {j : Nat} {d : PyData} (hv : Ev c n κ X ρ v (.dat (.tuple xs))) (hi : Ev c n κ X ρ i (.dat (.int k))) (hj : seqIndex? k xs.length = some j) (hx : xs[j]? = some d)
    (hb : -1000 ≤ k ∧ k ≤ 1000 := by omega) : Ev c n κ X ρ (.Subscript v i pos) (.dat d) :=
  Ev.sub slot_tuple_getitem.lookup hv hi (fun _ _ => type_tuple) (op_item_tuple (by omega) (by omega) hj hx)
theorem Ev.itemS {v i : Expr} {pos : Pos} {x : Str} {k : Int} {ch : Nat} (hv : Ev c n κ X ρ v (.dat (.str x))) (hi : Ev c n κ X ρ i (.dat (.int k))) (hc : (seqIndex? k x.length).bind (x.cps[·]?) = some ch)
    (hb : -1000 ≤ k ∧ k ≤ 1000 := by omega) : Ev c n κ X ρ (.Subscript v i pos) (.dat (.str ⟨#[ch]⟩)) :=
  Ev.sub slot_str_getitem.lookup hv hi (fun _ _ => type_str) (op_item_str (by omega) (by omega) hc)

/-! ### Slices -/

/-- a slice's end: none, or an expression of an int -/
noncomputable def EvP (c : Cx) (n : Nat) (κ : Sta) (X : List Addr) (ρ : List (Str × AV)) : Option Expr → Option Int → Prop
  | none, none => True
  | some e, some k => Ev c n κ X ρ e (.dat (.int k))
  | _, _ => False
theorem EvP.run {env : Env} {E : Value → Shared → Prop} {p : Option Expr} {k : Option Int} {s : Shared} {Q : Value → Shared → Prop} (h : EvP c n κ X ρ p k) (I : Inv c κ X ρ env s)
    (hk : ∀ v s', Ext c s s' → IsPart v k → Q v s') : wpAny c.M (Lv n) (evalPart p env) Q E s := by
  match p, k, h with
  | none, none, _ => exact wpAny_pure (hk _ _ (.refl I.G) .none)
  | some e, some k, h =>
    rw [evalPart_some]
    exact h env s Q E I fun v s1 x1 r => by
      obtain ⟨t, rfl⟩ := Rd.int_inv r
      exact hk _ _ x1 (.int k t)

noncomputable def pySl {α : Type} (xs : List α) (lo hi : Option Int) : List α := (xs.drop (lo.elim 0 (clipAt xs.length))).take (hi.elim xs.length (clipAt xs.length) - lo.elim 0 (clipAt xs.length))

theorem RdA.drop {h : Heap} : ∀ {ds : List PyData} {vs : List Value} (k : Nat), RdA h X vs ds → RdA h X (vs.drop k) (ds.drop k)
  | _, _, 0, r => by simpa using r
  | [], _, _ + 1, r => by rw [r.nil_inv]; simpa using RdA.nil
  | d :: ds, _, k + 1, r => by obtain ⟨v, vs', rfl, _, r2⟩ := r.cons_inv; simpa using r2.drop k
theorem RdA.take {h : Heap} : ∀ {ds : List PyData} {vs : List Value} (k : Nat), RdA h X vs ds → RdA h X (vs.take k) (ds.take k)
  | _, _, 0, r => by simpa using RdA.nil
  | [], _, _ + 1, r => by rw [r.nil_inv]; simpa using RdA.nil
  | d :: ds, _, k + 1, r => by obtain ⟨v, vs', rfl, r1, r2⟩ := r.cons_inv; simpa using RdA.cons r1 (r2.take k)

theorem Ev.sliceL {v : Expr} {lo hi : Option Expr} {p pos : Pos} {xs : List PyData} {a b : Option Int} (hv : Ev c n κ X ρ v (.dat (.list xs))) (hl : EvP c n κ X ρ lo a) (hh : EvP c n κ X ρ hi b) (hz : xs.length ≤ 100000) :
    Ev c n κ X ρ (.Subscript v (.Slice lo hi none p) pos) (.dat (.list (pySl xs a b))) :=
  fun env s Q E I k => Subscript_ (hv env s _ E I fun va s1 x1 ra => wpAny_Slice (hl.run (I.ext x1) fun vl s2 x2 pl => hh.run ((I.ext x1).ext x2) fun vu s3 x3 pu => by
    rw [evalPart_none]
    refine wpAny_pure ?_
    have r3 := (AV.R.ext (av := .dat (.list xs)) ra (x2.trans x3).hx)
    obtain ⟨l, items, rfl, hl, r, hlX⟩ := Rd.list_inv r3
    have hlen := r.length
    have xA := (x1.trans x2).trans x3
    have I3 := I.ext xA
    have xp := ext_push x3.gl { cls := .type "slice", data := .fields #[vl, vu, .none] }
    obtain ⟨ops, hops⟩ := subscripted_false (.Slice lo hi none p) (.ref l) (.ref s3.heap.objs.size)
    have hl' := xp.hx.list hl.isList
    refine tail_any (Heap.IsList.typeIs hl') list_getitem_lookup (wpAny_getItem_list_slice hl' (Heap.IsSliceOf.new ..) pl pu .none (by simp) ?_ (by rw [← hlen] at hz; simp at hz; exact Nat.le_trans hz (by decide))) hops
    have xq := ext_push xp.gl { cls := .type "list", data := .seq (slicePick items a b none) }
    refine k _ _ ((xA.trans xp).trans xq) (Rd.list (items := slicePick items a b none) ⟨_, Heap.get?_push_size _ rfl⟩ ?_ ?_)
    · have hq : (slicePick items a b none).toList = pySl items.toList a b := by rw [slicePick_plain]; simp [pySl]
      rw [hq]
      have := ((r.drop (a.elim 0 (clipAt xs.length))).take (b.elim xs.length (clipAt xs.length) - a.elim 0 (clipAt xs.length))).ext (xp.hx.trans xq.hx)
      rw [← hlen] at this
      simpa [pySl, ← hlen] using this
    · exact not_mem_fresh (s := { s3 with heap := s3.heap.push { cls := .type "slice", data := .fields #[vl, vu, .none] } }) (I3.ext xp).al (fresh_size _)))

end
end Mine
end

section
open PySem PySem.W PyProof.Rows PySem.SeqAt
set_option maxRecDepth 100000
namespace Mine

noncomputable def AV.data : AV → Option PyData
  | .dat d => some d
  | .own _ xs => some (.list xs)
  | _ => none

section
variable {c : Cx} {n : Nat} {κ : Sta} {X : List Addr} {ρ : List (Str × AV)}

theorem AV.rd0 {h : Heap} {v : Value} {d : PyData} : ∀ {a : AV}, a.data = some d → a.R c h X v → Rd h [] v d
  | .dat _, e, r => by cases e; exact Rd.sub r nofun
  | .own _ _, e, ⟨e1, _, its, hl, r⟩ => by cases e; rw [e1]; exact Rd.list hl (r.sub nofun) nofun
  | .inst _, e, _ => by cases e
  | .fnp _ _ _, e, _ => by cases e

theorem units_Lv (n : Nat) : (Lv n).units ≤ 8000 := Nat.sub_le _ _
theorem room_Lv {k : Nat} (h : k ≤ 1000) : (Lv n).units + k < cLine := by
  have := units_Lv n
  show _ < 9900
  omega

theorem op_eq {a b : AV} {da db : PyData} (ha : a.data = some da) (hb : b.data = some db) (la : da.canLay0 = true) (lb : db.canLay0 = true) (hd : da.depth ≤ 50) :
    Op2 c n X (compareOp .Eq) a b (.dat (.bool (PyData.eqv da db))) := fun s va vb Q E G al ra rb h => by
  obtain ⟨_, r1, _⟩ := AV.rd0 ha ra
  obtain ⟨_, r2, _⟩ := AV.rd0 hb rb
  exact compareEq_reads r1 r2 la lb (room_Lv (Nat.le_trans (Nat.min_le_left _ _) (Nat.le_trans hd (by decide)))) (h _ _ (.refl G) (Rd.bool _))
theorem op_ne {a b : AV} {da db : PyData} (ha : a.data = some da) (hb : b.data = some db) (la : da.canLay0 = true) (lb : db.canLay0 = true) (hd : da.depth ≤ 50) :
    Op2 c n X (compareOp .NotEq) a b (.dat (.bool (!PyData.eqv da db))) := fun s va vb Q E G al ra rb h => by
  obtain ⟨_, r1, _⟩ := AV.rd0 ha ra
  obtain ⟨_, r2, _⟩ := AV.rd0 hb rb
  exact compareNe_reads r1 r2 la lb (room_Lv (Nat.le_trans (Nat.min_le_left _ _) (Nat.le_trans hd (by decide)))) (h _ _ (.refl G) (Rd.bool _))
theorem op_in {a b : AV} {d : PyData} {xs : List PyData} (ha : a.data = some d) (hb : b.data = some (.list xs)) (la : d.canLay0 = true) (lb : PyData.canLayAll0 xs = true) (hd : d.depth ≤ 50) :
    Op2 c n X (compareOp .In) a b (.dat (.bool (xs.any fun y => PyData.eqv y d))) := fun s va vb Q E G al ra rb h => by
  obtain ⟨_, r1, _⟩ := AV.rd0 ha ra
  obtain ⟨_, r2, _⟩ := AV.rd0 hb rb
  refine in_list_reads r2 r1 lb la ?_ (h _ _ (.refl G) (Rd.bool _))
  have := room_Lv (n := n) (k := 1 + 50) (by decide)
  have h2 : min (PyData.depthAll xs) d.depth ≤ 50 := Nat.le_trans (Nat.min_le_right _ _) hd
  omega
theorem op_notIn {a b : AV} {d : PyData} {xs : List PyData} (ha : a.data = some d) (hb : b.data = some (.list xs)) (la : d.canLay0 = true) (lb : PyData.canLayAll0 xs = true) (hd : d.depth ≤ 50) :
    Op2 c n X (compareOp .NotIn) a b (.dat (.bool (!xs.any fun y => PyData.eqv y d))) := fun s va vb Q E G al ra rb h => by
  obtain ⟨_, r1, _⟩ := AV.rd0 ha ra
  obtain ⟨_, r2, _⟩ := AV.rd0 hb rb
  refine notIn_list_reads r2 r1 lb la ?_ (h _ _ (.refl G) (Rd.bool _))
  have := room_Lv (n := n) (k := 1 + 50) (by decide)
  have h2 : min (PyData.depthAll xs) d.depth ≤ 50 := Nat.le_trans (Nat.min_le_right _ _) hd
  omega

theorem op_eqs {x y : Str} : Op2 c n X (compareOp .Eq) (.dat (.str x)) (.dat (.str y)) (.dat (.bool (x == y))) := fun s va vb Q E G al ra rb h => by
  obtain ⟨t, rfl⟩ := Rd.str_inv ra
  obtain ⟨u, rfl⟩ := Rd.str_inv rb
  exact PyProof.Rows.eq_str (h _ _ (.refl G) (Rd.bool _))
theorem op_notIns {x y : Str} : Op2 c n X (compareOp .NotIn) (.dat (.str y)) (.dat (.str x)) (.dat (.bool (!(!(Builtin.Str.occurrences x y 0 x.length 1).isEmpty)))) := fun s va vb Q E G al ra rb h => by
  obtain ⟨t, rfl⟩ := Rd.str_inv ra
  obtain ⟨u, rfl⟩ := Rd.str_inv rb
  exact PyProof.Rows.notIn_str (h _ _ (.refl G) (Rd.bool _))
theorem op_adds {x y : Str} (hz : x.length + y.length ≤ 1000) : Op2 c n X (binaryOp .Add) (.dat (.str x)) (.dat (.str y)) (.dat (.str (x ++ y))) := fun s va vb Q E G al ra rb h => by
  obtain ⟨t, rfl⟩ := Rd.str_inv ra
  obtain ⟨u, rfl⟩ := Rd.str_inv rb
  exact PyProof.Rows.add_str (fun t' tk => h _ _ (.toks G) (Rd.str _ _)) (Nat.le_trans hz (by decide))

theorem op_addl {xs ys : List PyData} (hz : xs.length + ys.length ≤ 100000) : Op2 c n X (binaryOp .Add) (.dat (.list xs)) (.dat (.list ys)) (.dat (.list (xs ++ ys))) := fun s va vb Q E G al ra rb h => by
  obtain ⟨a, its, rfl, ⟨k, hl⟩, r1, _⟩ := Rd.list_inv ra
  obtain ⟨b, its2, rfl, ⟨k2, hl2⟩, r2, _⟩ := Rd.list_inv rb
  have e1 := r1.length
  have e2 := r2.length
  have xp := ext_push G { cls := .type "list", data := .seq (its ++ its2) }
  refine concat_meets ⟨_, hl, rfl⟩ ⟨_, hl2, rfl⟩ noFill_list_add seq_list_add PySem.F.slot_list_add PySem.F.entry_list_add (PySem.F.args_list_add_2 _ _) (list_addW a b its its2 k k2 none none #[] #[] ?_) ⟨hl, hl2, ?_⟩
  · simp at e1 e2
    rw [e1, e2]; exact Nat.le_trans hz (by decide)
  · exact h _ _ xp (Rd.list (items := its ++ its2) ⟨_, Heap.get?_push_size _ rfl⟩ (by simpa using (r1.append r2).ext xp.hx) (not_mem_fresh al (fresh_size _)))

/-! ### Built-in functions -/

theorem fn_len_list {a : AV} {xs : List PyData} (ha : a.data = some (.list xs)) (hz : xs.length ≤ 100000) : OpN c n X (fun vs => PySem.call (.builtin "len") vs) [a] (.dat (.int xs.length)) := fun s vs Q E G al rs h => by
  obtain ⟨v, rfl, r⟩ := rs.one
  obtain ⟨l, its, rfl, hl, ra, _⟩ := Rd.list_inv (AV.rd0 ha r)
  have e := ra.length
  simp at e
  refine PyProof.Rows.len_list hl.isList (by omega) ?_
  rw [e]
  exact h _ _ (.toks G) (Rd.int _ _)
theorem fn_len_str {x : Str} (hz : x.length ≤ 1000) : OpN c n X (fun vs => PySem.call (.builtin "len") vs) [.dat (.str x)] (.dat (.int x.length)) := fun s vs Q E G al rs h => by
  obtain ⟨v, rfl, r⟩ := rs.one
  obtain ⟨t, rfl⟩ := Rd.str_inv r
  exact PyProof.Rows.len_str (by omega) (h _ _ (.toks G) (Rd.int _ _))
theorem fn_max2 {a b : Int} : OpN c n X (fun vs => PySem.call (.builtin "max") vs) [.dat (.int a), .dat (.int b)] (.dat (.int (if b > a then b else a))) := fun s vs Q E G al rs h => by
  obtain ⟨v, w, rfl, r, q⟩ := rs.two
  obtain ⟨t, rfl⟩ := Rd.int_inv r
  obtain ⟨u, rfl⟩ := Rd.int_inv q
  refine max_two_ints (by rfl) fun h' tk hk => ?_
  by_cases hc : b > a
  · rw [if_pos hc]; rw [if_pos hc] at h; exact h _ _ (.keep G hk) (Rd.int _ _)
  · rw [if_neg hc]; rw [if_neg hc] at h; exact h _ _ (.keep G hk) (Rd.int _ _)

theorem RdA.ints {h : Heap} : ∀ {ns : List Int} {vs : List Value}, RdA h X vs (ns.map .int) → IntsAre vs ns
  | [], _, r => by rw [r.nil_inv]; exact .nil
  | i :: ns, _, r => by
    obtain ⟨v, vs', rfl, r1, r2⟩ := r.cons_inv
    obtain ⟨t, rfl⟩ := Rd.int_inv r1
    exact .cons i t (RdA.ints r2)
theorem RdA.of_ints {h : Heap} : ∀ {ns : List Int} {vs : List Value}, IntsAre vs ns → RdA h X vs (ns.map .int) := by
  intro ns vs r
  induction r with
  | nil => exact .nil
  | cons i t r ih => exact .cons (Rd.int i t) ih

end
end Mine
end

section
open PySem PySem.W PyProof.Rows PySem.SeqAt
set_option maxRecDepth 100000
namespace Mine
section
variable {c : Cx} {n : Nat} {κ : Sta} {X : List Addr} {ρ : List (Str × AV)}

theorem PlainList.toL {h : Heap} {a : Addr} {its : Array Value} (x : h.PlainList a its) : h.IsList a its.toList.toArray := by simpa using x.isList

theorem fn_min {a : AV} {ns : List Int} {M : Int} (ha : a.data = some (.list (ns.map .int))) (hm : M ∈ ns) (hb : ∀ x ∈ ns, M ≤ x) : OpN c n X (fun vs => PySem.call (.builtin "min") vs) [a] (.dat (.int M)) := fun s vs Q E G al rs h => by
  obtain ⟨v, rfl, r⟩ := rs.one
  obtain ⟨l, its, rfl, hl, ra, _⟩ := Rd.list_inv (AV.rd0 ha r)
  have hi := RdA.ints ra
  obtain ⟨xs, e⟩ := hi.allInts.items
  have hns : ns = xs.toList.map (·.1) := by rw [← hi.numsOf, ← nums_intItems, ← e]
  have hsz : 0 < xs.size := by
    have h3 : 0 < ns.length := List.length_pos_of_mem hm
    rw [hns, List.length_map, Array.length_toList] at h3; exact h3
  have hl' := PlainList.toL hl
  rw [e] at hl'
  refine min_intList (by rfl) hl' hsz fun v h' tk hv hk => ?_
  obtain ⟨t, rfl⟩ := intItems_at hv
  obtain ⟨h1, h2⟩ := argBest_lt (numAt xs) (xs.size - 1)
  have : numAt xs (argBest (fun i j => decide (numAt xs i < numAt xs j)) (xs.size - 1)) = M := by
    refine Int.le_antisymm ?_ (hb _ ?_)
    · rw [hns] at hm
      obtain ⟨j, hj, e⟩ := mem_getD hm
      rw [List.length_map, Array.length_toList] at hj
      rw [← e, ← numAt_eq]; exact h2 j (by omega)
    · rw [hns, numAt_eq]; exact PySem.getD_mem (by rw [List.length_map, Array.length_toList]; omega)
  rw [this]
  exact h _ _ (.keep G hk) (Rd.int _ _)
theorem fn_max {a : AV} {ns : List Int} {M : Int} (ha : a.data = some (.list (ns.map .int))) (hm : M ∈ ns) (hb : ∀ x ∈ ns, x ≤ M) : OpN c n X (fun vs => PySem.call (.builtin "max") vs) [a] (.dat (.int M)) := fun s vs Q E G al rs h => by
  obtain ⟨v, rfl, r⟩ := rs.one
  obtain ⟨l, its, rfl, hl, ra, _⟩ := Rd.list_inv (AV.rd0 ha r)
  have hi := RdA.ints ra
  obtain ⟨xs, e⟩ := hi.allInts.items
  have hns : ns = xs.toList.map (·.1) := by rw [← hi.numsOf, ← nums_intItems, ← e]
  have hsz : 0 < xs.size := by
    have h3 : 0 < ns.length := List.length_pos_of_mem hm
    rw [hns, List.length_map, Array.length_toList] at h3; exact h3
  have hl' := PlainList.toL hl
  rw [e] at hl'
  refine max_intList (by rfl) hl' hsz fun v h' tk hv hk => ?_
  obtain ⟨t, rfl⟩ := intItems_at hv
  obtain ⟨h1, h2⟩ := argBest_gt (numAt xs) (xs.size - 1)
  have : numAt xs (argBest (fun i j => decide (numAt xs i > numAt xs j)) (xs.size - 1)) = M := by
    refine Int.le_antisymm (hb _ ?_) ?_
    · rw [hns, numAt_eq]; exact PySem.getD_mem (by rw [List.length_map, Array.length_toList]; omega)
    · rw [hns] at hm
      obtain ⟨j, hj, e⟩ := mem_getD hm
      rw [List.length_map, Array.length_toList] at hj
      rw [← e, ← numAt_eq]; exact h2 j (by omega)
  rw [this]
  exact h _ _ (.keep G hk) (Rd.int _ _)
theorem fn_sum {a : AV} {ns : List Int} (ha : a.data = some (.list (ns.map .int))) : OpN c n X (fun vs => PySem.call (.builtin "sum") vs) [a] (.dat (.int ns.sum)) := fun s vs Q E G al rs h => by
  obtain ⟨v, rfl, r⟩ := rs.one
  obtain ⟨l, its, rfl, hl, ra, _⟩ := Rd.list_inv (AV.rd0 ha r)
  have hi := RdA.ints ra
  obtain ⟨xs, e⟩ := hi.allInts.items
  have hns : ns = xs.toList.map (·.1) := by rw [← hi.numsOf, ← nums_intItems, ← e]
  have hl' := PlainList.toL hl
  rw [e] at hl'
  refine sum_intListG (by rfl) hl' fun h' tk t' hk => ?_
  rw [preSum_eq, List.take_of_length_le (by simp), ← hns]
  exact h _ _ (.keep G hk) (Rd.int _ _)

/-! a call that gives a new list -/
noncomputable def OpNew (c : Cx) (n : Nat) (X : List Addr) (f : List Value → Sem Value) (as : List AV) (xs : List PyData) : Prop :=
  ∀ (s : Shared) (vs : List Value) (Q : Value → Shared → Prop) (E : Value → Shared → Prop), Gl c s.heap → (∀ a ∈ X, ∃ o, s.heap.get? a = some o) → AvAll c s.heap X vs as →
    (∀ a items s', Ext c s s' → s.heap.get? a = none → s'.heap.PlainList a items → RdA s'.heap (a :: X) items.toList xs → Q (.ref a) s') → wpAny c.M (Lv n) (f vs) Q E s
theorem fn_sorted {a : AV} {ns ms : List Int} (ha : a.data = some (.list (ns.map .int))) (hp : ms.Perm ns) (hs : ms.Pairwise (· ≤ ·)) (hz : ns.length < 64) : OpNew c n X (fun vs => PySem.call (.builtin "sorted") vs) [a] (ms.map .int) := fun s vs Q E G al rs h => by
  obtain ⟨v, rfl, r⟩ := rs.one
  obtain ⟨l, its, rfl, hl, ra, _⟩ := Rd.list_inv (AV.rd0 ha r)
  have hi := RdA.ints ra
  refine sorted_ints (PlainList.toL hl) hi (by rw [hi.length]; exact hz) fun out ns' a1 a2 a3 => ?_
  obtain ⟨e, he⟩ := sortedAll_at s.heap its.toList out
  have hk : Keep s.heap (sortedAll s.heap its.toList out) := fun _ _ => sortedAll_old
  have : ns' = ms := List.Perm.eq_of_pairwise (le := (· ≤ ·)) (fun a b _ _ h1 h2 => Int.le_antisymm h1 h2) a3 hs (a2.trans hp.symm)
  subst this
  exact h _ out _ (.keep (tk := s.toks) G hk) (Heap.get?_none_of_le (Nat.le_succ _)) ⟨e, he⟩ (RdA.of_ints a1)

theorem fn_list {a : AV} {xs : List PyData} (ha : a = .dat (.list xs)) (hz : xs.length ≤ 100000) : OpNew c n X (fun vs => PySem.call (.type "list") vs) [a] xs := fun s vs Q E G al rs h => by
  subst ha
  obtain ⟨v, rfl, r⟩ := rs.one
  obtain ⟨l, its, rfl, ⟨k, hl⟩, ra, _⟩ := Rd.list_inv r
  have e := ra.length
  simp at e
  refine call_list_seq (hsz := by rw [e]; exact Nat.le_trans hz (by decide)) l (.inl rfl) hl rfl rfl fun h' c' hk hD => ?_
  exact h _ its _ (.keep (tk := s.toks) G hk) (fresh_size _) ⟨c', hD⟩ ((ra.fresh (fresh_size s.heap)).ext (.of_keep hk))

theorem EvN.callB {f : Str} {p pos : Pos} {es : List Expr} {as : List AV} {xs : List PyData} {b : Value} (hk : κ.kd f = some .globalImplicit) (hg : c.mg f = none) (hb : bootBuiltins f = some b) (hm : keeperOf b = pure .machine)
    (hf : OpNew c n X (fun vs => PySem.call b vs) as xs) (h : EvAs c n κ X ρ es as) (hdb : (f == ("__debug__" : Str)) = false := by decide) (hn : f ≠ "__name__" := by decide) : EvN c n κ X ρ (.Call (.Name f p) es [] pos) xs :=
  fun env s Q E I k => by
    rw [eval_call_name]
    refine wpAny_bind (name_builtin I hk hg hb ?_ hdb hn)
    refine callWith_machine h.plain hm (h.args I fun vs s1 x1 rs => ?_)
    exact hf s1 vs Q E x1.gl (I.ext x1).al rs fun a items s2 x2 ha hl rv => k a items s2 (x1.trans x2) (x1.hx.gone ha) hl rv

/-! ### Methods of lists and strs -/

noncomputable def notCall : Expr → Bool
  | .Call .. => false
  | _ => true
theorem base_not_call {o : Expr} (h : notCall o = true) (name : Str) (env : Env) (m : Sem Value) : attributeBase o name env m = m := by
  unfold attributeBase
  cases o <;> first | rfl | (cases h; done)

theorem meth_call {o : Expr} {name : Str} {apos pos : Pos} {args : List Expr} {a : AV} {as : List AV} {T id : String} {env : Env} {s : Shared} {Q : Value → Shared → Prop} {E : Value → Shared → Prop}
    (pa : PlainAttrs T) (slot : Slot T name id) (hty : typeOf (.builtin id) = pure (.type "method_descriptor"))
    (hT : ∀ (s : Shared) v, a.R c s.heap X v → s.TypeIs v T ∧ (∀ b, v = .ref b → ∃ ob, s.heap.get? b = some ob ∧ ob.dict = none))
    (ho : Ev c n κ X ρ o a) (hA : EvAs c n κ X ρ args as) (I : Inv c κ X ρ env s)
    (hf : ∀ s' v vs, Ext c s s' → Inv c κ X ρ env s' → AvAll c s'.heap X (v :: vs) (a :: as) → wpAny c.M (Lv n) (PySem.call (.builtin id) (v :: vs)) Q E s')
    (hb : notCall o = true) (hl : (apos.endLine == pos.line) = true) (hn : args.length < 29) :
    wpAny c.M (Lv n) (eval (.Call (.Attribute o name apos) args [] pos) env) Q E s := by
  refine wpAny_Call_method (base_not_call hb _ _ _) ?_ hl pa slot hty (ho env s _ E I fun v s1 x1 r => ⟨(hT s1 v r).1, (hT s1 v r).2, ?_⟩)
  · rw [hA.plain']
    simp only [Bool.true_and, Bool.and_eq_true, decide_eq_true_eq]
    exact ⟨rfl, by simp; omega⟩
  · exact Calls.callWith_builtin hA.plain (hA.args (I.ext x1) fun vs s2 x2 rs => hf s2 v vs (x1.trans x2) ((I.ext x1).ext x2) ⟨r.ext x2.hx, rs⟩)

theorem plainL (xs : List PyData) (s : Shared) (v : Value) (r : (AV.dat (.list xs)).R c s.heap X v) : s.TypeIs v "list" ∧ (∀ b, v = .ref b → ∃ ob, s.heap.get? b = some ob ∧ ob.dict = none) := by
  obtain ⟨a, its, rfl, ⟨k, hl⟩, _⟩ := Rd.list_inv r
  exact ⟨⟨_, hl, rfl⟩, fun b e => by cases e; exact ⟨_, hl, rfl⟩⟩
theorem plainO (a : Addr) (xs : List PyData) (s : Shared) (v : Value) (r : (AV.own a xs).R c s.heap X v) : s.TypeIs v "list" ∧ (∀ b, v = .ref b → ∃ ob, s.heap.get? b = some ob ∧ ob.dict = none) := by
  obtain ⟨rfl, _, its, ⟨k, hl⟩, _⟩ := r
  exact ⟨⟨_, hl, rfl⟩, fun b e => by cases e; exact ⟨_, hl, rfl⟩⟩
theorem plainS (x : Str) (s : Shared) (v : Value) (r : (AV.dat (.str x)).R c s.heap X v) : s.TypeIs v "str" ∧ (∀ b, v = .ref b → ∃ ob, s.heap.get? b = some ob ∧ ob.dict = none) := by
  obtain ⟨t, rfl⟩ := Rd.str_inv r
  exact ⟨rfl, fun b e => by cases e⟩

theorem Ev.meth {o : Expr} {name : Str} {apos pos : Pos} {args : List Expr} {a : AV} {as : List AV} {T id : String} {r : AV}
    (pa : PlainAttrs T) (slot : Slot T name id) (hty : typeOf (.builtin id) = pure (.type "method_descriptor"))
    (hT : ∀ (s : Shared) v, a.R c s.heap X v → s.TypeIs v T ∧ (∀ b, v = .ref b → ∃ ob, s.heap.get? b = some ob ∧ ob.dict = none))
    (ho : Ev c n κ X ρ o a) (hA : EvAs c n κ X ρ args as) (hf : OpN c n X (fun vs => PySem.call (.builtin id) vs) (a :: as) r)
    (hb : notCall o = true := by rfl) (hl : (apos.endLine == pos.line) = true := by rfl) (hn : args.length < 29 := by simp) :
    Ev c n κ X ρ (.Call (.Attribute o name apos) args [] pos) r := fun env s Q E I k =>
  meth_call pa slot hty hT ho hA I (fun s1 v vs x1 I1 rs => hf s1 (v :: vs) Q E x1.gl I1.al rs fun w s2 x2 rw => k w s2 (x1.trans x2) rw) hb hl hn

theorem Ev.index {o e : Expr} {apos pos : Pos} {ns : List Int} {k : Int} (ho : Ev c n κ X ρ o (.dat (.list (ns.map .int)))) (he : Ev c n κ X ρ e (.dat (.int k))) (hm : k ∈ ns) (hlay : PyData.layable0 (.list (ns.map .int)) = true)
    (hs : notStar e = true := by rfl) (hb : notCall o = true := by rfl) (hl : (apos.endLine == pos.line) = true := by rfl) :
    Ev c n κ X ρ (.Call (.Attribute o (Str.ofString "index") apos) [e] [] pos) (.dat (.int (ns.idxOf k : Nat))) :=
  Ev.meth PySem.F.plainAttrs_list PySem.F.slot_list_index PySem.F.type_list_index (plainL _) ho (.cons he .nil hs) (fun s vs Q E G al rs h => by
    obtain ⟨v, w, rfl, r, q⟩ := rs.two
    obtain ⟨l, its, rfl, hl, ra, _⟩ := Rd.list_inv r
    obtain ⟨t, rfl⟩ := Rd.int_inv q
    exact index_list_ints (PlainList.toL hl) (RdA.ints ra) hlay hm (h _ _ (.toks G) (Rd.int _ _))) hb hl

theorem Ev.startswith {o e : Expr} {apos pos : Pos} {x y : Str} (ho : Ev c n κ X ρ o (.dat (.str x))) (he : Ev c n κ X ρ e (.dat (.str y)))
    (hs : notStar e = true := by rfl) (hb : notCall o = true := by rfl) (hl : (apos.endLine == pos.line) = true := by rfl) :
    Ev c n κ X ρ (.Call (.Attribute o (Str.ofString "startswith") apos) [e] [] pos) (.dat (.bool (Txt.startswith x y))) :=
  Ev.meth PySem.F.plainAttrs_str PySem.F.slot_str_startswith PySem.F.type_str_startswith (plainS _) ho (.cons he .nil hs) (fun s vs Q E G al rs h => by
    obtain ⟨v, w, rfl, r, q⟩ := rs.two
    obtain ⟨t, rfl⟩ := Rd.str_inv r
    obtain ⟨u, rfl⟩ := Rd.str_inv q
    exact SC.startswith (h _ _ (.refl G) (Rd.bool _))) hb hl
theorem Ev.endswith {o e : Expr} {apos pos : Pos} {x y : Str} (ho : Ev c n κ X ρ o (.dat (.str x))) (he : Ev c n κ X ρ e (.dat (.str y)))
    (hs : notStar e = true := by rfl) (hb : notCall o = true := by rfl) (hl : (apos.endLine == pos.line) = true := by rfl) :
    Ev c n κ X ρ (.Call (.Attribute o (Str.ofString "endswith") apos) [e] [] pos) (.dat (.bool (Txt.endswith x y))) :=
  Ev.meth PySem.F.plainAttrs_str PySem.F.slot_str_endswith PySem.F.type_str_endswith (plainS _) ho (.cons he .nil hs) (fun s vs Q E G al rs h => by
    obtain ⟨v, w, rfl, r, q⟩ := rs.two
    obtain ⟨t, rfl⟩ := Rd.str_inv r
    obtain ⟨u, rfl⟩ := Rd.str_inv q
    exact SC.endswith (h _ _ (.refl G) (Rd.bool _))) hb hl

theorem Ev.join {o e : Expr} {apos pos : Pos} {x : Str} {ys : List Str} (ho : Ev c n κ X ρ o (.dat (.str x))) (he : Ev c n κ X ρ e (.dat (.list (ys.map .str)))) (hok : JoinOk x ys = true)
    (hs : notStar e = true := by rfl) (hb : notCall o = true := by rfl) (hl : (apos.endLine == pos.line) = true := by rfl) :
    Ev c n κ X ρ (.Call (.Attribute o (Str.ofString "join") apos) [e] [] pos) (.dat (.str (Txt.join x ys))) :=
  Ev.meth PySem.F.plainAttrs_str PySem.F.slot_str_join PySem.F.type_str_join (plainS _) ho (.cons he .nil hs) (fun s vs Q E G al rs h => by
    obtain ⟨v, w, rfl, r, q⟩ := rs.two
    obtain ⟨t, rfl⟩ := Rd.str_inv r
    obtain ⟨l, its, rfl, hl, ra, _⟩ := Rd.list_inv q
    have key : ∀ {ys : List Str} {vs : List Value}, RdA s.heap X vs (ys.map .str) → ∃ l : List (Str × Tok), vs = strValues l ∧ l.map (·.1) = ys := by
      intro ys
      induction ys with
      | nil => intro vs r; exact ⟨[], by rw [r.nil_inv]; rfl, rfl⟩
      | cons y ys ih =>
        intro vs r
        obtain ⟨v, vs', rfl, r1, r2⟩ := RdA.cons_inv r
        obtain ⟨u, rfl⟩ := Rd.str_inv r1
        obtain ⟨l, e1, e2⟩ := ih r2
        exact ⟨(y, u) :: l, by rw [e1]; rfl, by rw [List.map_cons, e2]⟩
    obtain ⟨l2, e1, e2⟩ := key ra
    exact SC.join (l := l2) (by rw [← e1]; exact PlainList.toL hl) e2 hok (fun t' k => h _ _ (.toks G) (Rd.str _ _))) hb hl

theorem gives_find4 (x y : Str) (i j : Int) (t u v w : Tok) : Gives (Builtin.«str.find» ⟨[.str x t, .str y u, .int i v, .int j w], []⟩) (.int (match Builtin.Str.occurrences x y (fromIndex x.length i) (min (fromIndex x.length j) x.length) 1 with | k :: _ => (k : Int) | [] => -1)) := by
  show Gives (match Builtin.Str.occurrences x y (fromIndex x.length i) (min (fromIndex x.length j) x.length) 1 with | k :: _ => retInt k | [] => (do rule "str.find.not-found"; retInt (-1))) _
  cases Builtin.Str.occurrences x y (fromIndex x.length i) (min (fromIndex x.length j) x.length) 1 with
  | nil => exact .rule (.of_eq rfl)
  | cons k _ => exact .of_eq rfl
theorem Ev.find4 {o e f g : Expr} {apos pos : Pos} {x y : Str} {i j : Int} (ho : Ev c n κ X ρ o (.dat (.str x))) (he : Ev c n κ X ρ e (.dat (.str y))) (hf : Ev c n κ X ρ f (.dat (.int i))) (hg : Ev c n κ X ρ g (.dat (.int j)))
    (hs : notStar e = true := by rfl) (hs2 : notStar f = true := by rfl) (hs3 : notStar g = true := by rfl) (hb : notCall o = true := by rfl) (hl : (apos.endLine == pos.line) = true := by rfl) :
    Ev c n κ X ρ (.Call (.Attribute o (Str.ofString "find") apos) [e, f, g] [] pos) (.dat (.int (match Builtin.Str.occurrences x y (fromIndex x.length i) (min (fromIndex x.length j) x.length) 1 with | k :: _ => (k : Int) | [] => -1))) :=
  Ev.meth PySem.F.plainAttrs_str PySem.F.slot_str_find PySem.F.type_str_find (plainS _) ho (.cons he (.cons hf (.cons hg .nil hs3) hs2) hs) (fun s vs Q E G al rs h => by
    obtain ⟨v, w, z, q, rfl, r, r1, r2, r3⟩ := rs.four
    obtain ⟨t, rfl⟩ := Rd.str_inv r
    obtain ⟨u, rfl⟩ := Rd.str_inv r1
    obtain ⟨t2, rfl⟩ := Rd.int_inv r2
    obtain ⟨t3, rfl⟩ := Rd.int_inv r3
    exact call_gives PySem.F.slot_str_find (typeIs_str _ _ _) PySem.F.entry_str_find (PySem.F.args_str_find_4 _ _ _ _) (gives_find4 x y i j t u t2 t3) (h _ _ (.toks G) (Rd.int _ _))) hb hl

/-- split by a written mark -/
theorem EvN.split {o e : Expr} {apos pos : Pos} {x y : Str} (ho : Ev c n κ X ρ o (.dat (.str x))) (he : Ev c n κ X ρ e (.dat (.str y))) (hy : (y.length == 0) = false) (hx : x.length ≤ 1000)
    (hn : (Builtin.Str.partsBetween x (Builtin.Str.occurrences x y 0 x.length (x.length + 1)) y.length).length ≤ 1000)
    (hs : notStar e = true := by rfl) (hb : notCall o = true := by rfl) (hl : (apos.endLine == pos.line) = true := by rfl) :
    EvN c n κ X ρ (.Call (.Attribute o (Str.ofString "split") apos) [e] [] pos) ((Txt.split x y).map .str) := fun env s Q E I k =>
  meth_call PySem.F.plainAttrs_str PySem.F.slot_str_split PySem.F.type_str_split (plainS _) ho (.cons he .nil hs) I (fun s1 v vs x1 I1 rs => by
    obtain ⟨r, rs0⟩ := rs
    obtain ⟨w, rfl, q⟩ := rs0.one
    obtain ⟨t, rfl⟩ := Rd.str_inv r
    obtain ⟨u, rfl⟩ := Rd.str_inv q
    have hstrs : ∀ (l : List (Str × Tok)) (h : Heap) (Y : List Addr), RdA h Y (strValues l) ((l.map (·.1)).map .str) := by
      intro l h Y
      induction l with
      | nil => exact .nil
      | cons p l ih => exact .cons (Rd.str _ _) ih
    have go : ∀ (l : List (Str × Tok)) (tk : Nat), l.map (·.1) = Txt.split x y → Q (.ref s1.heap.objs.size) { s1 with heap := s1.heap.push { cls := .type "list", data := .seq (strValues l).toArray }, toks := tk } := by
      intro l tk e
      have xp := ext_push x1.gl { cls := .type "list", data := .seq (strValues l).toArray }
      refine k _ (strValues l).toArray _ (x1.trans (xp.trans (.toks xp.gl))) (x1.hx.gone (fresh_size _)) ⟨_, Heap.get?_push_size _ rfl⟩ ?_
      rw [← e]; exact hstrs l _ _
    refine wpAny_mono (Q := Q) (E := E) ?_ (fun _ _ h => h) fun _ _ h => h
    cases h1 : (decide (x.length < y.length) || decide (Builtin.Str.strKind x < Builtin.Str.strKind y))
    · cases hf : (Builtin.Str.occurrences x y 0 x.length (x.length + 1)).isEmpty
      · refine call_meets PySem.F.slot_str_split (typeIs_str _ _ _) PySem.F.entry_str_split (PySem.F.args_str_split_2 _ _) (meets_str_split_sep x y t u h1 hy hf (Nat.le_trans hx (by decide)) (Nat.le_trans hn (by decide))) ?_
        show wants Q E _ { s1 with toks := _, heap := s1.heap.push { cls := .type "list", data := .seq (strsFrom s1.toks (Builtin.Str.partsBetween x (Builtin.Str.occurrences x y 0 x.length (x.length + 1)) y.length)).toArray } }
        rw [strsFrom_eq]
        exact go (numbered s1.toks _) _ ((numbered_texts _ _).trans ((if_neg (ne_true_of_eq_false h1)).trans (if_neg (ne_true_of_eq_false hf))).symm)
      · exact call_meets PySem.F.slot_str_split (typeIs_str _ _ _) PySem.F.entry_str_split (PySem.F.args_str_split_2 _ _) (meets_str_split_not_found x y t u h1 hy hf) (go [(x, t)] s1.toks ((if_neg (ne_true_of_eq_false h1)).trans (if_pos hf)).symm)
    · exact call_meets PySem.F.slot_str_split (typeIs_str _ _ _) PySem.F.entry_str_split (PySem.F.args_str_split_2 _ _) (meets_str_split_cannot_occur x y t u h1) (go [(x, t)] s1.toks (if_pos h1).symm)) hb hl (by simp)

end
end Mine
end

section
open PySem PySem.W PyProof.Rows PySem.SeqAt
set_option maxRecDepth 100000
namespace Mine
section
variable {c : Cx} {n : Nat} {κ : Sta} {sts : List Str} {Xo X : List Addr} {ρ : List (Str × AV)} {s₀ s : Shared} {env : Env}

theorem mem_of_lookupA {x : Str} {av : AV} : ∀ {ρ : List (Str × AV)}, ρ.lookup x = some av → (x, av) ∈ ρ
  | [], e => by cases e
  | (y, b) :: r, e => by
    rw [lookup_cons_eq] at e
    by_cases h : x = y
    · rw [if_pos h] at e; cases e; rw [h]; exact .head _
    · rw [if_neg h] at e; exact .tail _ (mem_of_lookupA e)

/-- no other name holds the list -/
noncomputable def Alone (ρ : List (Str × AV)) (x : Str) (a : Addr) : Prop := ∀ y b zs, (y, AV.own b zs) ∈ ρ → y = x ∨ b ≠ a

theorem SInv.own_at {x : Str} {a : Addr} {xs : List PyData} (I : SInv c κ sts s₀ X ρ env s) (hx : ρ.lookup x = some (.own a xs)) (hk : κ.kd x = some .local) :
    ∃ m its, s.heap.Ns env.locals m ∧ m x = some (.ref a) ∧ a ∈ X ∧ s.heap.PlainList a its ∧ RdA s.heap X its.toList xs ∧ s₀.heap.get? a = none := by
  obtain ⟨m, hn, hm⟩ := I.ns
  obtain ⟨v, e0, e⟩ := hm x _ hx hk
  obtain ⟨rfl, ha, its, hl, r⟩ := e.now I.base
  exact ⟨m, its, hn, e0, ha, hl, r, I.ow x a xs hx⟩

/-- the frame's own list turns -/
theorem SInv.mutate {x : Str} {a : Addr} {xs ys : List PyData} {items : Array Value} {h' : Heap} {tk : Nat} (I : SInv c κ sts s₀ X ρ env s) (hx : ρ.lookup x = some (.own a xs)) (hk : κ.kd x = some .local)
    (hap : Alone ρ x a) (hs : Heap.SameBut a s.heap h') (hl : h'.PlainList a items) (hr : RdA h' X items.toList ys) :
    SInv c κ sts s₀ X ((x, .own a ys) :: ρ) env { s with heap := h', toks := tk } := by
  obtain ⟨m, its, hn, e0, ha, ⟨k, ho⟩, r, h0⟩ := I.own_at hx hk
  have so : Soft X a { cls := .type "list", data := .seq its k } := fun vs n e => ⟨by simp, fun _ => ha⟩
  have keyN : ∀ {y : Str} {av : AV} {v : Value}, y ≠ x → ρ.lookup y = some av → EntOk c s₀.heap s.heap X av v → EntOk c s₀.heap h' X av v := fun {y av v} hy hl e => by
    by_cases hq : av.at? = some a
    · cases av with
      | own b zs =>
        have hb : b = a := by injection hq
        rcases hap y b zs (mem_of_lookupA hl) with z | z
        · exact (hy z).elim
        · exact (z hb).elim
      | dat _ => cases hq
      | inst _ => cases hq
      | fnp _ _ _ => cases hq
    · exact e.same ho hs.extBut so hq
  have hL : env.locals ≠ a := fun z => by
    obtain ⟨o', es, ep, q, hd', _⟩ := hn
    rw [z, ho] at q; cases q; cases hd'
  refine ⟨I.sc, I.fk, I.gl, I.bu, I.co, I.qu, I.G0.same I.G h0 ho (fun vs e => by cases e) hs.extBut, ⟨m, hn.sameBut hs hL, fun y ay e k => ?_⟩, fun y ay e k => ?_, fun b hb => ?_, I.G0, I.base.same h0 hs.extBut, I.gens, I.os, I.lf, fun y b zs e => ?_, fun y b zs e => ?_, fun y hy => ?_⟩
  · rw [lookup_cons_eq] at e
    by_cases hy : y = x
    · rw [if_pos hy] at e; cases e
      exact ⟨.ref a, by rw [hy]; exact e0, .inr ⟨rfl, rfl, ha, items, hl, hr⟩⟩
    · rw [if_neg hy] at e
      obtain ⟨m', hn', hm'⟩ := I.ns
      obtain ⟨v', e1, e2⟩ := hm' y ay e k
      have : m' = m := by
        obtain ⟨o1, es1, ep1, q1, d1, _, f1⟩ := hn'
        obtain ⟨o2, es2, ep2, q2, d2, _, f2⟩ := hn
        rw [q1] at q2; cases q2; rw [d1] at d2; cases d2
        funext z; rw [← f1, ← f2]
      exact ⟨v', this ▸ e1, keyN hy e e2⟩
  · rw [lookup_cons_eq] at e
    have hy : y ≠ x := fun z => by rw [z, hk] at k; rcases k with k | k <;> cases k
    rw [if_neg hy] at e
    obtain ⟨b, v', e1, e2, e3⟩ := I.cl y ay e k
    refine ⟨b, v', e1, e2.sameBut hs fun z => ?_, keyN hy e e3⟩
    obtain ⟨o', ho', hd'⟩ := e2
    rw [z, ho] at ho'; cases ho'; cases hd'
  · obtain ⟨o', e⟩ := I.al b hb
    by_cases hz : b = a
    · obtain ⟨n2, q⟩ := hl; exact ⟨_, hz ▸ q⟩
    · exact ⟨o', (hs.2 b hz).trans e⟩
  · rw [lookup_cons_eq] at e
    by_cases hy : y = x
    · rw [if_pos hy] at e; cases e; exact h0
    · rw [if_neg hy] at e; exact I.ow y b zs e
  · rw [lookup_cons_eq] at e
    by_cases hy : y = x
    · rw [hy]; exact hk
    · rw [if_neg hy] at e; exact I.ol y b zs e
  · obtain ⟨k, b, v', e1, e2, e3, e4⟩ := I.st y hy
    refine ⟨k, b, v', e1, e2, e3.sameBut hs fun z => ?_, e4⟩
    obtain ⟨o', ho', hd'⟩ := e3
    rw [z, ho] at ho'; cases ho'; cases hd'

/-! ## Statements -/

noncomputable def Sx (c : Cx) (n : Nat) (κ : Sta) (sts : List Str) (Xo X : List Addr) (ρ : List (Str × AV)) (st : Stmt) (o : Out) : Prop :=
  ∀ (s₀ : Shared) (env : Env) (s : Shared) (Q : Flow → Shared → Prop) (E : Value → Shared → Prop), (∀ a ∈ Xo, ∃ o, s₀.heap.get? a = some o) → (∀ a ∈ Xo, a ∈ X) →
    SInv c κ sts s₀ X ρ env s → Post c κ sts s₀ Xo env ρ s Q o → wpAny c.M (Lv n) (exec st env) Q E s

theorem Post.back {ρ' : List (Str × AV)} {s' : Shared} {Q : Flow → Shared → Prop} {o : Out} (k : Post c κ sts s₀ Xo env ρ s Q o) (mv : Mv env.locals (Owned ρ) s.heap s'.heap) (hg : ∀ a, Owned ρ' a → Owned ρ a ∨ s.heap.get? a = none) : Post c κ sts s₀ Xo env ρ' s' Q o := by
  cases o with
  | ret r => exact k
  | next Y ρ2 =>
    intro s2 I h2 mv2 hg2
    refine k s2 I h2 (mv.trans mv2 hg) fun a ha => ?_
    rcases hg2 a ha with q | q
    · exact hg a q
    · exact .inr (mv.gone q)

/-- a name that no list is bound to -/
theorem owned_cons {x : Str} {av : AV} (h : av.at? = none) (a : Addr) : Owned ((x, av) :: ρ) a → Owned ρ a := fun ⟨y, ys, e⟩ => by
  rw [lookup_cons_eq] at e
  by_cases hy : y = x
  · rw [if_pos hy] at e; cases e; cases h
  · rw [if_neg hy] at e; exact ⟨y, ys, e⟩
theorem owned_own {x : Str} {b : Addr} {ys : List PyData} (a : Addr) : Owned ((x, .own b ys) :: ρ) a → a = b ∨ Owned ρ a := fun ⟨y, zs, e⟩ => by
  rw [lookup_cons_eq] at e
  by_cases hy : y = x
  · rw [if_pos hy] at e; cases e; exact .inl rfl
  · rw [if_neg hy] at e; exact .inr ⟨y, zs, e⟩

theorem Ex.nil : Ex c n κ sts Xo X ρ [] (.next X ρ) := fun s₀ env s Q E h1 h2 I k => wpAny_execs_nil (k s I h2 (.refl ..) fun _ h => .inl h)
theorem Ex.cons {st : Stmt} {rest : List Stmt} {X' : List Addr} {ρ' : List (Str × AV)} {o : Out} (h : Sx c n κ sts Xo X ρ st (.next X' ρ')) (hr : Ex c n κ sts Xo X' ρ' rest o) : Ex c n κ sts Xo X ρ (st :: rest) o :=
  fun s₀ env s Q E h1 h2 I k => wpAny_execs_cons (h s₀ env s _ E h1 h2 I fun s' I' h2' mv hg => hr s₀ env s' Q E h1 h2' I' (Post.back k mv hg))
theorem Ex.ret {st : Stmt} {rest : List Stmt} {r : AV} (h : Sx c n κ sts Xo X ρ st (.ret r)) : Ex c n κ sts Xo X ρ (st :: rest) (.ret r) :=
  fun s₀ env s Q E h1 h2 I k => wpAny_execs_cons (h s₀ env s _ E h1 h2 I fun v s' x r => k v s' x r)

theorem Sx.ret {e : Expr} {pos : Pos} {d : PyData} (h : Ev c n κ X ρ e (.dat d)) : Sx c n κ sts Xo X ρ (.Return (some e) pos) (.ret (.dat d)) :=
  fun s₀ env s Q E h1 h2 I k => wpAny_Return_some (h env s _ E I.inv fun v s' x r => k v s' (I.ext x).ret (Rd.sub r h2))
/-- an owned list is handed out -/
theorem Sx.retO {x : Str} {p pos : Pos} {a : Addr} {xs : List PyData} (hx : ρ.lookup x = some (.own a xs)) (hk : κ.kd x = some .local) (hd : (x == ("__debug__" : Str)) = false := by decide) (hn : (x == ("__classdict__" : Str)) = false := by decide) :
    Sx c n κ sts Xo X ρ (.Return (some (.Name x p)) pos) (.ret (.dat (.list xs))) :=
  fun s₀ env s Q E h1 h2 I k => wpAny_Return_some ((Ev.name hx (.inl hk) hd hn) env s _ E I.inv fun v s' x' r => by
    obtain ⟨rfl, ha, its, hl, r⟩ := r
    refine k _ s' (I.ext x').ret (Rd.list hl (r.sub h2) fun m => ?_)
    obtain ⟨o, e⟩ := h1 a m
    rw [I.ow x a xs hx] at e; cases e)

theorem Sx.iff {t : Expr} {body orelse : List Stmt} {pos : Pos} {b : Bool} {o : Out} (ht : Ts c n κ X ρ t b) (h1 : b = true → Ex c n κ sts Xo X ρ body o) (h2 : b = false → Ex c n κ sts Xo X ρ orelse o) : Sx c n κ sts Xo X ρ (.If t body orelse pos) o :=
  fun s₀ env s Q E g1 g2 I k => wpAny_If (ht env s _ E I.inv fun s' x => by
    cases b with
    | true => exact h1 rfl s₀ env s' Q E g1 g2 (I.ext x) (k.back (.ext x.hx) fun _ h => .inl h)
    | false => exact h2 rfl s₀ env s' Q E g1 g2 (I.ext x) (k.back (.ext x.hx) fun _ h => .inl h))
theorem Sx.assert {t : Expr} {m : Option Expr} {pos : Pos} (ht : Ts c n κ X ρ t true) : Sx c n κ sts Xo X ρ (.Assert t m pos) (.next X ρ) :=
  fun s₀ env s Q E g1 g2 I k => wpAny_Assert_holds (ht env s _ E I.inv fun s' x => ⟨rfl, k s' (I.ext x) g2 (.ext x.hx) fun _ h => .inl h⟩)

/-! ### Targets -/

noncomputable def Tg (c : Cx) (n : Nat) (κ : Sta) (sts : List Str) (X : List Addr) (ρ : List (Str × AV)) (t : Expr) (av : AV) (ρ' : List (Str × AV)) : Prop :=
  ∀ (s₀ : Shared) (env : Env) (s : Shared) (v : Value) (Q : Unit → Shared → Prop) (E : Value → Shared → Prop), SInv c κ sts s₀ X ρ env s → av.R c s.heap X v →
    (∀ s', SInv c κ sts s₀ X ρ' env s' → (∀ w d, Rd s.heap X w d → Rd s'.heap X w d) → Mv env.locals (Owned ρ) s.heap s'.heap → (∀ a, Owned ρ' a → Owned ρ a) → Q () s') → wpAny c.M (Lv n) (assign t env v) Q E s

theorem Tg.name {x : Str} {pos : Pos} {d : PyData} (hx : stOk κ sts x = true) : Tg c n κ sts X ρ (.Name x pos) (.dat d) ((x, .dat d) :: ρ) :=
  fun s₀ env s v Q E I r k => wpAny_assign_Name (I.store hx (.inr ⟨rfl, r⟩) nofun fun s' I' k1 m1 => k s' I' k1 (m1.mono nofun) (owned_cons rfl))

noncomputable def noStarT : Expr → Bool
  | .Starred .. => false
  | _ => true
theorem assignEach_cons {t : Expr} (h : noStarT t = true) (rest : List Expr) (env : Env) : assignEach (t :: rest) env = (false, assign t env) :: assignEach rest env := by
  cases t <;> first | rfl | (cases h; done)

theorem Tg.pair {t u : Expr} {k : Nat} {pos : Pos} {a b : PyData} {ρ1 ρ2 : List (Str × AV)} (ht : Tg c n κ sts X ρ t (.dat a) ρ1) (hu : Tg c n κ sts X ρ1 u (.dat b) ρ2) (hst : noStarT t = true := by rfl) (hsu : noStarT u = true := by rfl) :
    Tg c n κ sts X ρ (.Tuple [t, u] k pos) (.dat (.tuple [a, b])) ρ2 := fun s₀ env s v Q E I r q => by
  obtain ⟨p, its, rfl, ht', ra⟩ := Rd.tuple_inv r
  have e1 := ra.length
  refine wpAny_assign_Tuple (by rfl) ht' (by rw [assignEach_cons hst, assignEach_cons hsu]; show 2 = _; simpa using e1.symm) (by rw [assignEach_cons hst, assignEach_cons hsu]; rfl) fun h' he => ?_
  have xk : Ext c s { s with heap := h' } := .keep (tk := s.toks) I.G fun b o e => he b o (Nat.ne_of_lt (Heap.lt_size e)) e
  have ra' := ra.ext xk.hx
  obtain ⟨va, vs1, e2, r1, r2⟩ := ra'.cons_inv
  obtain ⟨vb, vs2, e3, r3, r4⟩ := r2.cons_inv
  rw [e2, e3, r4.nil_inv, assignEach_cons hst, assignEach_cons hsu]
  show wpAny c.M (Lv n) (assignInOrder [assign t env, assign u env] [va, vb]) Q E _
  refine wpAny_bind (wpAny_holding (ht s₀ env _ va _ E (I.ext xk) r1 fun s2 I2 k2 m2 o2 => ?_))
  refine wpAny_bind (wpAny_holding (hu s₀ env s2 vb _ E I2 (k2 _ _ r3) fun s3 I3 k3 m3 o3 => ?_))
  exact wpAny_pure (q s3 I3 (fun w d rw => k3 _ _ (k2 _ _ (rw.ext xk.hx))) (((Mv.ext xk.hx).trans m2 fun _ h => .inl h).trans m3 fun a h => .inl (o2 a h)) fun a h => o2 a (o3 a h))

end
end Mine
end

section
open PySem PySem.W PyProof.Rows PySem.SeqAt
set_option maxRecDepth 100000
namespace Mine
section
variable {c : Cx} {n : Nat} {κ : Sta} {sts : List Str} {Xo X : List Addr} {ρ : List (Str × AV)} {s₀ s : Shared} {env : Env}

theorem Sx.assign {t value : Expr} {pos : Pos} {av : AV} {ρ' : List (Str × AV)} (hv : Ev c n κ X ρ value av) (ht : Tg c n κ sts X ρ t av ρ') (hst : noStarT t = true := by rfl)
    (hs : ∀ env : Env, env.scope = κ.scope → swapsWithSole [t] value pos.line env = pure false := by intro env h; rfl) (hw : ∀ env, swappedStores [t] value env = pure none := by intro env; rfl) :
    Sx c n κ sts Xo X ρ (.Assign [t] value pos) (.next X ρ') := fun s₀ env s Q E h1 h2 I k =>
  wpAny_Assign_stores (hv env s _ E I.inv fun v s1 x1 r => by
    rw [assignEach_cons hst]
    exact ht s₀ env s1 v _ E (I.ext x1) r fun s2 I2 _ m2 o2 => k s2 I2 h2 ((Mv.ext x1.hx).trans m2 fun _ h => .inl h) fun a h => .inl (o2 a h)) (hs env I.sc) (hw env)

/-- a new list under a name -/
theorem Ex.assignN {x : Str} {p pos : Pos} {value : Expr} {xs : List PyData} {rest : List Stmt} {o : Out} (hv : EvN c n κ X ρ value xs) (hx : κ.kd x = some .local)
    (hr : ∀ a, a ∉ X → Ex c n κ sts Xo (a :: X) ((x, .own a xs) :: ρ) rest o)
    (hs : ∀ env : Env, env.scope = κ.scope → swapsWithSole [.Name x p] value pos.line env = pure false := by intro env h; rfl) (hw : ∀ env, swappedStores [.Name x p] value env = pure none := by intro env; rfl) :
    Ex c n κ sts Xo X ρ (.Assign [.Name x p] value pos :: rest) o := fun s₀ env s Q E h1 h2 I k =>
  wpAny_execs_cons (wpAny_Assign_stores (hv env s _ E I.inv fun a items s1 x1 ha hl r => by
    obtain ⟨kk, hg⟩ := id hl
    have I1 := I.grow x1 ha hg
    exact wpAny_assign_Name (I1.store_local (av := .own a xs) hx (.inr ⟨rfl, rfl, .head _, items, hl, r⟩) (fun b ys e => by cases e; exact ⟨I.base.gone ha, hx⟩) fun s2 I2 _ m2 =>
      hr a (not_mem_fresh I.al ha) s₀ env s2 Q E h1 (fun b hb => .tail _ (h2 b hb)) I2 (k.back ((Mv.ext x1.hx).trans (m2.mono (Y := Owned ρ) nofun) fun _ h => .inl h) fun b hb => (owned_own b hb).elim (fun z => .inr (z ▸ ha)) .inl))) (hs env I.sc) (hw env))

/-- two names at once, stored in the other order -/
theorem Sx.swap2 {x y : Str} {p q pos tpos vpos : Pos} {kt kv : Nat} {e f : Expr} {d1 d2 : PyData} (he : Ev c n κ X ρ e (.dat d1)) (hf : Ev c n κ X ρ f (.dat d2)) (hx : κ.kd x = some .local) (hy : κ.kd y = some .local)
    (hw : ∀ env : Env, env.scope = κ.scope → swappedStores [.Tuple [.Name x p, .Name y q] kt tpos] (.Tuple [e, f] kv vpos) env = pure (some [x, y])) (hse : notStar e = true := by rfl) (hsf : notStar f = true := by rfl) :
    Sx c n κ sts Xo X ρ (.Assign [.Tuple [.Name x p, .Name y q] kt tpos] (.Tuple [e, f] kv vpos) pos) (.next X ((x, .dat d1) :: (y, .dat d2) :: ρ)) := fun s₀ env s Q E h1 h2 I k =>
  Assign_Tuple_swapped (names := [x, y]) ((Ev.tuple (ds := [d1, d2]) (.cons he (.cons hf .nil hsf) hse) (by simp)) env s _ E I.inv fun v s1 x1 r => by
    obtain ⟨t, its, rfl, ht, ra⟩ := Rd.tuple_inv r
    have e1 : its.size = 2 := by simpa using ra.length
    have go : wpAny c.M (Lv n) (unpackItems (.ref t) its.size none) (fun items s₂ => wpAny c.M (Lv n) (assignInOrder ([x, y].reverse.map fun n => bindName env n) items.reverse) (fun _ => Q .next) E s₂) E s1 := by
      refine wpAny_unpackItems_tuple (by rfl) ht fun h' he => ?_
      have xk : Ext c s1 { s1 with heap := h' } := .keep (tk := s1.toks) x1.gl fun b o e => he b o (Nat.ne_of_lt (Heap.lt_size e)) e
      have ra' := ra.ext xk.hx
      obtain ⟨va, vs1, q2, r1, r2⟩ := ra'.cons_inv
      obtain ⟨vb, vs2, q3, r3, r4⟩ := r2.cons_inv
      rw [q2, q3, r4.nil_inv]
      show wpAny c.M (Lv n) (assignInOrder [bindName env y, bindName env x] [vb, va]) _ E _
      refine wpAny_bind (wpAny_holding (wpAny_bindName (((I.ext x1).ext xk).store_local (av := .dat d2) hy (.inr ⟨rfl, r3⟩) nofun fun s2 I2 k2 m2 => ?_)))
      refine wpAny_bind (wpAny_holding (wpAny_bindName (I2.store_local (av := .dat d1) hx (.inr ⟨rfl, k2 _ _ r1⟩) nofun fun s3 I3 k3 m3 => ?_)))
      exact wpAny_pure (k s3 I3 h2 (((Mv.ext (x1.trans xk).hx).trans (m2.mono (Y := Owned ρ) nofun) fun _ h => .inl h).trans (m3.mono (Y := Owned ρ) nofun) fun _ h => .inl h) fun a h => .inl (owned_cons rfl a (owned_cons rfl a h)))
    rw [e1] at go
    exact go) rfl (hw env I.sc)

theorem Sx.aug {x : Str} {p pos : Pos} {op : Operator} {value : Expr} {i j r : Int} (hx : ρ.lookup x = some (.dat (.int i))) (hk : κ.kd x = some .local) (hv : Ev c n κ X ρ value (.dat (.int j)))
    (ho : ∀ (s : Shared) (t u : Tok) (Q : Value → Shared → Prop) (E : Value → Shared → Prop), Q (.int r s.toks) { s with toks := s.toks + 1 } → wpAny c.M (Lv n) (inplaceOp op (.int i t) (.int j u)) Q E s) :
    Sx c n κ sts Xo X ρ (.AugAssign (.Name x p) op value pos) (.next X ((x, .dat (.int r)) :: ρ)) := fun s₀ env s Q E h1 h2 I k => by
  refine wpAny_AugAssign_Name ?_
  obtain ⟨m, hn, hm⟩ := I.ns
  obtain ⟨v, e1, e2⟩ := hm x _ hx hk
  obtain ⟨t, rfl⟩ := Rd.int_inv (e2.now I.base)
  refine wpAny_loadName_local (by rw [I.sc]; exact I.fk) (by show env.scope.names.lookup x = _; rw [I.sc]; exact hk) hn e1 ?_
  refine hv env s _ E I.inv fun v s1 x1 r1 => ?_
  obtain ⟨u, rfl⟩ := Rd.int_inv r1
  refine ho s1 t u _ E ?_
  have x2 := x1.trans (.toks (tk := s1.toks + 1) x1.gl)
  exact (I.ext x2).store_local (av := .dat (.int r)) hk (.inr ⟨rfl, Rd.int _ _⟩) nofun fun s2 I2 _ m2 => k s2 I2 h2 ((Mv.ext x2.hx).trans (m2.mono (Y := Owned ρ) nofun) fun _ h => .inl h) fun a h => .inl (owned_cons rfl a h)
theorem Sx.iadd {x : Str} {p pos : Pos} {value : Expr} {i j : Int} (hx : ρ.lookup x = some (.dat (.int i))) (hk : κ.kd x = some .local) (hv : Ev c n κ X ρ value (.dat (.int j))) :
    Sx c n κ sts Xo X ρ (.AugAssign (.Name x p) .Add value pos) (.next X ((x, .dat (.int (i + j))) :: ρ)) := Sx.aug hx hk hv fun _ _ _ _ _ h => PyProof.Rows.iadd_int h
theorem Sx.isub {x : Str} {p pos : Pos} {value : Expr} {i j : Int} (hx : ρ.lookup x = some (.dat (.int i))) (hk : κ.kd x = some .local) (hv : Ev c n κ X ρ value (.dat (.int j))) :
    Sx c n κ sts Xo X ρ (.AugAssign (.Name x p) .Sub value pos) (.next X ((x, .dat (.int (i - j))) :: ρ)) := Sx.aug hx hk hv fun _ _ _ _ _ h => PyProof.Rows.isub_int h

/-! ### Stores into an owned list -/

theorem sameBut_upd (h : Heap) (a : Addr) (f : Obj → Obj) : Heap.SameBut a h (h.update a f) := Heap.SameBut.update ..

theorem interactive_fn {env : Env} (h : env.scope.kind = .function) : interactive env = false := by unfold interactive; rw [h]; rfl

theorem Sx.append {x : Str} {p apos cpos pos : Pos} {e : Expr} {a : Addr} {xs : List PyData} {d : PyData} (hx : ρ.lookup x = some (.own a xs)) (hk : κ.kd x = some .local) (he : Ev c n κ X ρ e (.dat d)) (hz : xs.length ≤ 100000) (hal : Alone ρ x a)
    (hs : notStar e = true := by rfl) (hl : (apos.endLine == cpos.line) = true := by rfl) (hd : (x == ("__debug__" : Str)) = false := by decide) (hn : (x == ("__classdict__" : Str)) = false := by decide) :
    Sx c n κ sts Xo X ρ (.Expr (.Call (.Attribute (.Name x p) (Str.ofString "append") apos) [e] [] cpos) pos) (.next X ((x, .own a (xs ++ [d])) :: ρ)) := fun s₀ env s Q E h1 h2 I k =>
  wpAny_Expr (meth_call (Q := fun v s' => match v with | .ref _ => False | _ => Q .next s') PySem.F.plainAttrs_list PySem.F.slot_list_append PySem.F.type_list_append (plainO a xs) (Ev.name hx (.inl hk) hd hn) (.cons he .nil hs) I.inv (fun s1 v vs x1 I1 rs => by
    obtain ⟨r, rs0⟩ := rs
    obtain ⟨w, rfl, q⟩ := rs0.one
    obtain ⟨rfl, ha, its, hl, ra⟩ := r
    have e1 := ra.length
    simp at e1
    refine wpAny_list_append_plain (hsz := by rw [e1]; exact Nat.le_trans hz (by decide)) hl fun h' hl' hs' => ?_
    obtain ⟨kk, hg⟩ := id hl
    have so : Soft X a { cls := .type "list", data := .seq its kk } := fun vs n e => ⟨by simp, fun _ => ha⟩
    refine k _ (SInv.mutate (tk := s1.toks) (I.ext x1) hx hk hal hs' hl' ?_) h2 ((Mv.ext x1.hx).trans (.same hs' (let ⟨_, q⟩ := hl'; ⟨_, q⟩) (.inr (.inl ⟨x, xs, hx⟩))) fun _ h => .inl h) fun b h => .inl ((owned_own b h).elim (fun z => z ▸ ⟨x, xs, hx⟩) id)
    have := (ra.same hg hs'.extBut so).append (.cons (Rd.same hg hs'.extBut so q) .nil)
    simpa using this) rfl hl (by simp)) (interactive_fn (by rw [I.sc]; exact I.fk)) rfl

theorem Sx.extend {x : Str} {p apos cpos pos : Pos} {e : Expr} {a : Addr} {xs ys : List PyData} (hx : ρ.lookup x = some (.own a xs)) (hk : κ.kd x = some .local) (he : Ev c n κ X ρ e (.dat (.list ys))) (hz : xs.length + ys.length ≤ 100000) (hal : Alone ρ x a)
    (hs : notStar e = true := by rfl) (hl : (apos.endLine == cpos.line) = true := by rfl) (hd : (x == ("__debug__" : Str)) = false := by decide) (hn : (x == ("__classdict__" : Str)) = false := by decide) :
    Sx c n κ sts Xo X ρ (.Expr (.Call (.Attribute (.Name x p) (Str.ofString "extend") apos) [e] [] cpos) pos) (.next X ((x, .own a (xs ++ ys)) :: ρ)) := fun s₀ env s Q E h1 h2 I k =>
  wpAny_Expr (meth_call (Q := fun v s' => match v with | .ref _ => False | _ => Q .next s') PySem.F.plainAttrs_list PySem.F.slot_list_extend PySem.F.type_list_extend (plainO a xs) (Ev.name hx (.inl hk) hd hn) (.cons he .nil hs) I.inv (fun s1 v vs x1 I1 rs => by
    obtain ⟨r, rs0⟩ := rs
    obtain ⟨w, rfl, q⟩ := rs0.one
    obtain ⟨rfl, ha, its, ⟨kk, hg⟩, ra⟩ := r
    obtain ⟨b, its2, rfl, ⟨k2, hg2⟩, rb, _⟩ := Rd.list_inv q
    have e1 := ra.length
    have e2 := rb.length
    simp at e1 e2
    have hsz : its.size + its2.size ≤ sizeLine := by rw [e1, e2]; exact Nat.le_trans hz (by decide)
    have so : Soft X a { cls := .type "list", data := .seq its kk } := fun vs n e => ⟨by simp, fun _ => ha⟩
    refine call_meets PySem.F.slot_list_extend ⟨_, hg, rfl⟩ PySem.F.entry_list_extend (PySem.F.args_list_extend_2 _ _) (AutoSeq1.list_extend_list_list_0 a its kk b its2 k2 (extend_door hsz) (Nat.le_trans (Nat.le_add_right _ _) hsz)) ⟨hg, hg2, ?_⟩
    have hs' := sameBut_upd s1.heap a (Obj.mapSeq fun x => x ++ its2)
    refine k _ (SInv.mutate (tk := s1.toks) (I.ext x1) hx hk hal hs' (items := its ++ its2) ⟨_, get?_update_seq hg (fun x => x ++ its2)⟩ ?_) h2 ((Mv.ext x1.hx).trans (.same hs' ⟨_, get?_update_seq hg (fun x => x ++ its2)⟩ (.inr (.inl ⟨x, xs, hx⟩))) fun _ h => .inl h) fun b h => .inl ((owned_own b h).elim (fun z => z ▸ ⟨x, xs, hx⟩) id)
    have := (ra.same hg hs'.extBut so).append (rb.same hg hs'.extBut so)
    simpa using this) rfl hl (by simp)) (interactive_fn (by rw [I.sc]; exact I.fk)) rfl

theorem RdA.erase {h : Heap} : ∀ {ds : List PyData} {vs : List Value} (k : Nat), RdA h X vs ds → RdA h X (vs.eraseIdx k) (ds.eraseIdx k)
  | [], _, _, r => by rw [r.nil_inv]; simpa using RdA.nil
  | d :: ds, _, 0, r => by obtain ⟨v, vs', rfl, _, r2⟩ := r.cons_inv; simpa using r2
  | d :: ds, _, k + 1, r => by obtain ⟨v, vs', rfl, r1, r2⟩ := r.cons_inv; simpa using RdA.cons r1 (RdA.erase k r2)
theorem RdA.set {h : Heap} {w : Value} {e : PyData} (q : Rd h X w e) : ∀ {ds : List PyData} {vs : List Value} (k : Nat), RdA h X vs ds → RdA h X (vs.set k w) (ds.set k e)
  | [], _, _, r => by rw [r.nil_inv]; simpa using RdA.nil
  | d :: ds, _, 0, r => by obtain ⟨v, vs', rfl, _, r2⟩ := r.cons_inv; simpa using RdA.cons q r2
  | d :: ds, _, k + 1, r => by obtain ⟨v, vs', rfl, r1, r2⟩ := r.cons_inv; simpa using RdA.cons r1 (RdA.set q k r2)

theorem fitsIdx {k : Int} (h : -1000 ≤ k ∧ k ≤ 1000) : Builtin.List.listFitsIndex k = true := by
  unfold Builtin.List.listFitsIndex
  simp only [Bool.and_eq_true, decide_eq_true_eq]
  omega

theorem eraseIdx_toList (xs : Array Value) (k : Nat) : (xs.eraseIdxIfInBounds k).toList = xs.toList.eraseIdx k := by
  unfold Array.eraseIdxIfInBounds
  split
  · simp
  · rename_i h
    rw [List.eraseIdx_of_length_le]; simpa using h

/-- y = x.pop(e) -/
theorem Sx.pop {x y : Str} {p q apos cpos pos : Pos} {e : Expr} {a : Addr} {xs : List PyData} {d : PyData} {i : Int} {j : Nat} (hx : ρ.lookup x = some (.own a xs)) (hk : κ.kd x = some .local) (hy : κ.kd y = some .local) (hxy : y ≠ x)
    (he : Ev c n κ X ρ e (.dat (.int i))) (hj : seqIndex? i xs.length = some j) (hd' : xs[j]? = some d) (hz : xs.length ≤ 100000) (hal : Alone ρ x a)
    (hb : -1000 ≤ i ∧ i ≤ 1000) (hs : notStar e = true := by rfl) (hl : (apos.endLine == cpos.line) = true := by rfl) (hd : (x == ("__debug__" : Str)) = false := by decide) (hn : (x == ("__classdict__" : Str)) = false := by decide) :
    Sx c n κ sts Xo X ρ (.Assign [.Name y q] (.Call (.Attribute (.Name x p) (Str.ofString "pop") apos) [e] [] cpos) pos) (.next X ((y, .dat d) :: (x, .own a (xs.eraseIdx j)) :: ρ)) := fun s₀ env s Q E h1 h2 I k =>
  wpAny_Assign_stores (meth_call PySem.F.plainAttrs_list PySem.F.slot_list_pop PySem.F.type_list_pop (plainO a xs) (Ev.name hx (.inl hk) hd hn) (.cons he .nil hs) I.inv (fun s1 v vs x1 I1 rs => by
    obtain ⟨r, rs0⟩ := rs
    obtain ⟨w, rfl, r'⟩ := rs0.one
    obtain ⟨rfl, ha, its, ⟨kk, hg⟩, ra⟩ := r
    obtain ⟨u, rfl⟩ := Rd.int_inv r'
    have e1 := ra.length
    simp at e1
    obtain ⟨v, ev, rv⟩ := ra.get hd'
    have so : Soft X a { cls := .type "list", data := .seq its kk } := fun vs n e => ⟨by simp, fun _ => ha⟩
    have hs' := sameBut_upd s1.heap a (Obj.mapSeq fun xs => xs.eraseIdxIfInBounds j)
    refine call_meets PySem.F.slot_list_pop ⟨_, hg, rfl⟩ PySem.F.entry_list_pop (PySem.F.args_list_pop_2 _ _) (MeetsSeq.list_pop_at a its kk i u j v (fitsIdx hb) (by rw [e1]; exact hj) (by simpa using ev) (by rw [e1]; exact Nat.le_trans hz (by decide))) ⟨hg, ?_⟩
    have I2 := SInv.mutate (tk := s1.toks) (I.ext x1) hx hk hal hs' (items := its.eraseIdxIfInBounds j) (ys := xs.eraseIdx j) ⟨_, get?_update_seq hg (fun xs => xs.eraseIdxIfInBounds j)⟩ (by
      rw [eraseIdx_toList]
      exact (RdA.erase j ra).same hg hs'.extBut so)
    show wpAny _ _ (PySem.assign (.Name y q) env v) _ _ _
    exact wpAny_assign_Name (I2.store_local (av := .dat d) hy (.inr ⟨rfl, Rd.same hg hs'.extBut so rv⟩) nofun fun s3 I3 _ m3 => k s3 I3 h2 (((Mv.ext x1.hx).trans (.same hs' ⟨_, get?_update_seq hg (fun xs => xs.eraseIdxIfInBounds j)⟩ (.inr (.inl ⟨x, xs, hx⟩))) fun _ h => .inl h).trans (m3.mono (Y := Owned ρ) nofun) fun _ h => .inl h) fun b h => .inl ((owned_own b (owned_cons rfl b h)).elim (fun z => z ▸ ⟨x, xs, hx⟩) id))) rfl hl (by simp)) rfl rfl

/-- del x[i] -/
theorem Sx.del {x : Str} {p spos pos : Pos} {e : Expr} {a : Addr} {xs : List PyData} {i : Int} {j : Nat} (hx : ρ.lookup x = some (.own a xs)) (hk : κ.kd x = some .local) (he : Ev c n κ X ρ e (.dat (.int i))) (hj : seqIndex? i xs.length = some j)
    (hz : xs.length ≤ 100000) (hal : Alone ρ x a) (hb : -1000 ≤ i ∧ i ≤ 1000) (hd : (x == ("__debug__" : Str)) = false := by decide) (hn : (x == ("__classdict__" : Str)) = false := by decide) :
    Sx c n κ sts Xo X ρ (.Delete [.Subscript (.Name x p) e spos] pos) (.next X ((x, .own a (xs.eraseIdx j)) :: ρ)) := fun s₀ env s Q E h1 h2 I k =>
  wpAny_Delete (wpAny_deleteEach_cons (wpAny_delete_Subscript ((Ev.name hx (.inl hk) hd hn) env s _ E I.inv fun v s1 x1 r => he env s1 _ E (I.inv.ext x1) fun w s2 x2 r' => by
    obtain ⟨rfl, ha, its, ⟨kk, hg⟩, ra⟩ := AV.R.ext (av := .own a xs) r x2.hx
    obtain ⟨u, rfl⟩ := Rd.int_inv r'
    have e1 := ra.length
    simp at e1
    have so : Soft X a { cls := .type "list", data := .seq its kk } := fun vs n e => ⟨by simp, fun _ => ha⟩
    have hs' := sameBut_upd s2.heap a (Obj.mapSeq fun xs => xs.eraseIdxIfInBounds j)
    refine delItem_meets ⟨_, hg, rfl⟩ (by decide) PySem.F.slot_list_delitem PySem.F.entry_list_delitem (PySem.F.args_list_delitem_2 _ _) (MeetsSeq.list_delitem_at a its kk i u j (fitsIdx hb) (by rw [e1]; exact hj) (by rw [e1]; exact Nat.le_trans hz (by decide))) ⟨hg, ?_⟩
    refine wpAny_deleteEach_nil (k _ (SInv.mutate (tk := s2.toks) ((I.ext x1).ext x2) hx hk hal hs' (items := its.eraseIdxIfInBounds j) (ys := xs.eraseIdx j) ⟨_, get?_update_seq hg (fun xs => xs.eraseIdxIfInBounds j)⟩ ?_) h2 ((Mv.ext (x1.trans x2).hx).trans (.same hs' ⟨_, get?_update_seq hg (fun xs => xs.eraseIdxIfInBounds j)⟩ (.inr (.inl ⟨x, xs, hx⟩))) fun _ h => .inl h) fun b h => .inl ((owned_own b h).elim (fun z => z ▸ ⟨x, xs, hx⟩) id))
    rw [eraseIdx_toList]
    exact (RdA.erase j ra).same hg hs'.extBut so)))

/-- x[i] = d as a target -/
theorem Tg.subO {x : Str} {p spos : Pos} {e : Expr} {a : Addr} {xs : List PyData} {d : PyData} {i : Int} (hx : ρ.lookup x = some (.own a xs)) (hk : κ.kd x = some .local) (he : Ev c n κ X ρ e (.dat (.int i))) (h0 : 0 ≤ i) (hi : i < xs.length)
    (hal : Alone ρ x a) (hb : i ≤ 1000) (hd : (x == ("__debug__" : Str)) = false := by decide) (hn : (x == ("__classdict__" : Str)) = false := by decide) :
    Tg c n κ sts X ρ (.Subscript (.Name x p) e spos) (.dat d) ((x, .own a (xs.set i.toNat d)) :: ρ) := fun s₀ env s v Q E I rv k => by
  rw [arm_assign_Subscript]
  refine wpAny_bind (wpAny_holding ((Ev.name hx (.inl hk) hd hn) env s _ E I.inv fun v1 s1 x1 r => wpAny_bind (wpAny_holding (he env s1 _ E (I.inv.ext x1) fun w s2 x2 r' => wpAny_bind (wpAny_standAt (wpAny_bind (wpAny_holding ?_)))))))
  obtain ⟨rfl, ha, its, ⟨kk, hg⟩, ra⟩ := AV.R.ext (av := .own a xs) r x2.hx
  obtain ⟨u, rfl⟩ := Rd.int_inv r'
  have e1 := ra.length
  simp at e1
  have so : Soft X a { cls := .type "list", data := .seq its kk } := fun vs n e => ⟨by simp, fun _ => ha⟩
  have hs' := sameBut_upd s2.heap a (Obj.mapSeq (·.setIfInBounds i.toNat v))
  have rv2 := AV.R.ext (av := .dat d) rv (x1.trans x2).hx
  refine ki_setAt hg h0 (by omega) (by omega) ?_
  refine wpAny_release (k _ (SInv.mutate (tk := s2.toks) ((I.ext x1).ext x2) hx hk hal hs' (items := its.setIfInBounds i.toNat v) (ys := xs.set i.toNat d) ⟨_, get?_update_seq hg (·.setIfInBounds i.toNat v)⟩ ?_) (fun w e r => Rd.same hg hs'.extBut so (Rd.ext r (x1.trans x2).hx)) ((Mv.ext (x1.trans x2).hx).trans (.same hs' ⟨_, get?_update_seq hg (·.setIfInBounds i.toNat v)⟩ (.inr (.inl ⟨x, xs, hx⟩))) fun _ h => .inl h) fun b h => (owned_own b h).elim (fun z => z ▸ ⟨x, xs, hx⟩) id)
  have := (RdA.set rv2 i.toNat ra).same hg hs'.extBut so
  simpa using this

end
end Mine
end

section
open PySem PySem.W PyProof.Rows PySem.SeqAt
set_option maxRecDepth 100000
namespace Mine
section
variable {c : Cx} {n : Nat} {κ : Sta} {sts : List Str} {Xo X : List Addr} {ρ : List (Str × AV)} {s₀ s : Shared} {env : Env}

/-! ## Iterators -/

noncomputable def rangeFrom (a : Int) : Nat → List PyData
  | 0 => []
  | k + 1 => .int a :: rangeFrom (a + 1) k

noncomputable def ItS (h : Heap) (X : List Addr) (it : Addr) (ds : List PyData) : Prop :=
  (∃ ax items i, h.IsListIter it ax i ∧ ax ∉ X ∧ h.PlainList ax items ∧ RdA h X (items.toList.drop i) ds) ∨ (∃ x k, IsRangeIter h it x (k : Nat) 1 ∧ ds = rangeFrom x k)

theorem ItS.obj {h : Heap} {it : Addr} {ds : List PyData} (I : ItS h X it ds) : ∃ o vs, h.get? it = some o ∧ o.data = .fields vs ∧ (∀ q t, vs[1]? ≠ some (.str q t)) ∧ o.cls ≠ .none := by
  rcases I with ⟨ax, its, i, ⟨o, e, hc, hd⟩, _⟩ | ⟨x, k, e, _⟩
  · exact ⟨o, _, e, hd, fun q t => by simp, by rw [hc]; nofun⟩
  · exact ⟨_, _, e, rfl, fun q t => by simp [rawInt], by nofun⟩

theorem ItS.next_cons {A : Around} {it : Addr} {d : PyData} {ds : List PyData} {Q : Option Value → Shared → Prop} {E : Value → Shared → Prop} (I : ItS s.heap X it (d :: ds))
    (h : ∀ v h' tk, Heap.SameBut it s.heap h' → Rd h' X v d → ItS h' X it ds → Q (some v) { s with heap := h', toks := tk }) : wpAny c.M A (pyNext (.ref it)) Q E s := by
  rcases I with ⟨ax, its, i, hit, hX, hl, r⟩ | ⟨x, k, e, hd⟩
  · have hne : ax ≠ it := fun z => by
      obtain ⟨o, e, hc, hd⟩ := hit
      obtain ⟨k, e2⟩ := hl
      rw [z, e] at e2; cases e2; cases hd
    obtain ⟨v, vs', e, r1, r2⟩ := r.cons_inv
    have hx : its[i]? = some v := by
      have : (its.toList.drop i)[0]? = some v := by rw [e]; rfl
      simpa using this
    have hdr : its.toList.drop (i + 1) = vs' := by
      have := congrArg List.tail e
      simpa using this
    refine wpAny_pyNext_list_item hit hl.isList hx fun h' hit' hs' => ?_
    obtain ⟨o, eo, hc, hd⟩ := id hit
    have so : Soft X it o := fun vs n q => by rw [hd] at q; cases q
    refine h v h' s.toks hs' (r1.same eo hs'.extBut so) (.inl ⟨ax, its, i + 1, hit', hX, hl.extBut hs'.extBut hne, ?_⟩)
    rw [hdr]; exact r2.same eo hs'.extBut so
  · cases k with
    | zero => cases hd
    | succ k =>
      injection hd with h1 h2
      subst h1 h2
      refine wpAny_pyNext_range_item e (by omega) fun h' hit' hs' => ?_
      refine h _ h' _ hs' (Rd.int _ _) (.inr ⟨x + 1, k, ?_, rfl⟩)
      have : ((k + 1 : Nat) : Int) - 1 = (k : Nat) := by omega
      rwa [this] at hit'

theorem ItS.next_nil {it : Addr} {Q : Option Value → Shared → Prop} {E : Value → Shared → Prop} (I : ItS s.heap X it [])
    (h : ∀ h' tk, Heap.ExtBut it s.heap h' → Q none { s with heap := h', toks := tk }) : wpAny c.M (Lv n) (pyNext (.ref it)) Q E s := by
  rcases I with ⟨ax, its, i, hit, hX, hl, r⟩ | ⟨x, k, e, hd⟩
  · refine wpAny_pyNext_list_end (by rfl) hit hl.isList ?_ fun h' he => h h' s.toks he
    have := r.nil_inv
    have h2 : (its.toList.drop i)[0]? = none := by rw [this]; rfl
    simpa using h2
  · cases k with
    | succ k => cases hd
    | zero => exact wpAny_pyNext_range_end (by rfl) e (by simp) fun h' he => h h' s.toks he

theorem ItS.ext {h h' : Heap} {it : Addr} {ds : List PyData} (I : ItS h X it ds) (x : HExt h h') : ItS h' X it ds := by
  rcases I with ⟨ax, its, i, ⟨o, e, hc, hd⟩, hX, hl, r⟩ | ⟨x', k, e, hd⟩
  · exact .inl ⟨ax, its, i, ⟨o, x.getC e (by rw [hc]; nofun), hc, hd⟩, hX, x.plain hl, r.ext x⟩
  · exact .inr ⟨x', k, x.getC e (by nofun), hd⟩

/-- what is read is left by a frame's step -/
theorem Reads.mv {h h' : Heap} {L : Addr} {P : Addr → Prop} (m : Mv L P h h') (hL : ∀ o, h.get? L = some o → ∀ vs k, o.data ≠ .seq vs k) (hP : ∀ a, P a → (∀ o, h.get? a = some o → o.cls = .type "list") ∧ a ∈ X)
    {v : Value} {d : PyData} {as : List Addr} (r : Reads h v d as) (ha : ∀ a ∈ as, a ∉ X ∧ IsL h a) : Reads h' v d as := by
  have hd' : ∀ {o : Obj} {vs : Array Value} {k : Nat}, o.data = .seq vs k → ∀ v, o.data ≠ .cell v := fun e v z => by rw [e] at z; cases z
  have ht' : ∀ {o : Obj} {vs : Array Value} {k : Nat}, o.data = .seq vs k → ∀ ps, o ≠ tabObj ps := fun e v z => by rw [z] at e; cases e
  refine Reads.rec (motive_1 := fun v d as _ => (∀ a ∈ as, a ∉ X ∧ IsL h a) → Reads h' v d as) (motive_2 := fun vs ds as _ => (∀ a ∈ as, a ∉ X ∧ IsL h a) → ReadsAll h' vs ds as)
    (fun _ => .none) (fun _ _ => .bool _) (fun _ _ _ => .int _ _) (fun _ _ _ => .str _ _) ?_ ?_ ?_ (fun _ => .nil) ?_ r ha
  · intro a o vs n xs as ho hc hd _ ih hx
    refine .list (m.get ho (fun z => hL o (z ▸ ho) _ _ hd) (hd' hd) (fun z => (hx a (.head _)).1 (hP a z).2) (ht' hd)) hc hd (ih fun b hb => hx b (.tail _ hb))
  · intro a o vs n xs as ho hc hd _ ih hx
    refine .tuple (m.get ho (fun z => hL o (z ▸ ho) _ _ hd) (hd' hd) (fun z => ?_) (ht' hd)) hc hd (ih hx)
    have := (hP a z).1 o ho
    rw [hc] at this; simp at this
  · intro a o es n kvs as bs ho hc hd' _ _ ih ih' hx
    obtain ⟨_, vs, k, e⟩ := hx a (List.mem_append_left _ (.head _))
    rw [ho] at e; cases e; simp at hc
  · intro v vs d ds as bs _ _ ih1 ih2 hx
    exact .cons (ih1 fun b hb => hx b (List.mem_append_left _ hb)) (ih2 fun b hb => hx b (List.mem_append_right _ hb))

theorem SInv.softL (I : SInv c κ sts s₀ X ρ env s) : ∀ o, s.heap.get? env.locals = some o → ∀ vs k, o.data ≠ .seq vs k := fun o e vs k z => by
  obtain ⟨m, ⟨o', es, ep, q, hd, _⟩, _⟩ := I.ns
  rw [e] at q; cases q; rw [z] at hd; cases hd
theorem SInv.softO (I : SInv c κ sts s₀ X ρ env s) : ∀ a, Owned ρ a → (∀ o, s.heap.get? a = some o → o.cls = .type "list") ∧ a ∈ X := fun a ⟨x, xs, e⟩ => by
  obtain ⟨m, its, _, _, ha, ⟨k, hg⟩, _⟩ := I.own_at e (I.ol x a xs e)
  exact ⟨fun o q => by rw [hg] at q; cases q; rfl, ha⟩
theorem SInv.rd (I : SInv c κ sts s₀ X ρ env s) {h' : Heap} (m : Mv env.locals (Owned ρ) s.heap h') {v : Value} {d : PyData} (r : Rd s.heap X v d) : Rd h' X v d := by
  obtain ⟨as, ra, hx⟩ := r
  refine ⟨as, Reads.mv m I.softL (I.softO) ra hx, fun a ha => ⟨(hx a ha).1, ?_⟩⟩
  obtain ⟨vs, k, e⟩ := (hx a ha).2
  exact ⟨vs, k, m.get e (fun z => I.softL _ (z ▸ e) _ _ rfl) (fun v z => by cases z) (fun z => (hx a ha).1 (I.softO a z).2) (by nofun)⟩
theorem SInv.rdA (I : SInv c κ sts s₀ X ρ env s) {h' : Heap} (m : Mv env.locals (Owned ρ) s.heap h') : ∀ {ds : List PyData} {vs : List Value}, RdA s.heap X vs ds → RdA h' X vs ds
  | [], _, r => by rw [r.nil_inv]; exact .nil
  | d :: ds, _, r => by
    obtain ⟨v, vs', rfl, r1, r2⟩ := r.cons_inv
    exact .cons (I.rd m r1) (I.rdA m r2)
theorem SInv.it (I : SInv c κ sts s₀ X ρ env s) {h' : Heap} (m : Mv env.locals (Owned ρ) s.heap h') {it : Addr} {ds : List PyData} (J : ItS s.heap X it ds) : ItS h' X it ds := by
  obtain ⟨oi, vi, ei, di, _⟩ := J.obj
  have k1 : it ≠ env.locals := fun z => by
    obtain ⟨m, ⟨o', es, ep, q, hd, _⟩, _⟩ := I.ns
    rw [← z, ei] at q; cases q; rw [di] at hd; cases hd
  have k2 : ¬ Owned ρ it := fun ⟨x, xs, e⟩ => by
    obtain ⟨m, its, _, _, ha, ⟨k, hg⟩, _⟩ := I.own_at e (I.ol x it xs e)
    rw [ei] at hg; cases hg; cases di
  rcases J with ⟨ax, its, i, ⟨o, e, hc, hd⟩, hX, ⟨k, hl⟩, r⟩ | ⟨x', k, e, hd⟩
  · refine .inl ⟨ax, its, i, ⟨o, m.get e k1 (fun v z => by rw [hd] at z; cases z) k2 (fun ps z => by rw [z] at hc; cases hc), hc, hd⟩, hX, ⟨k, m.get hl (fun z => I.softL _ (z ▸ hl) _ _ rfl) (fun v z => by cases z) (fun z => hX (I.softO ax z).2) (by nofun)⟩, I.rdA m r⟩
  · exact .inr ⟨x', k, m.get e k1 (fun v z => by cases z) k2 (by nofun), hd⟩

/-- the iterator is moved on -/
theorem SInv.other {b : Addr} {ob : Obj} {h' : Heap} {tk : Nat} (I : SInv c κ sts s₀ X ρ env s) (hb : s.heap.get? b = some ob) (h0 : s₀.heap.get? b = none) (hs : Heap.ExtBut b s.heap h') (hb' : b ∉ X)
    (hf : ∃ vs, ob.data = .fields vs ∧ ∀ q t, vs[1]? ≠ some (.str q t)) : SInv c κ sts s₀ X ρ env { s with heap := h', toks := tk } := by
  obtain ⟨vs, hd, hcode⟩ := hf
  have so : Soft X b ob := fun vs n e => by rw [hd] at e; cases e
  have keyN : ∀ {y : Str} {av : AV} {v : Value}, ρ.lookup y = some av → EntOk c s₀.heap s.heap X av v → EntOk c s₀.heap h' X av v := fun {y av v} hl e => by
    by_cases hq : av.at? = some b
    · cases av with
      | own a zs =>
        have hb2 : a = b := by injection hq
        subst hb2
        obtain ⟨m, its, _, _, ha, ⟨k, hg⟩, _⟩ := I.own_at hl (I.ol y a zs hl)
        rw [hb] at hg; cases hg; cases hd
      | dat _ => cases hq
      | inst _ => cases hq
      | fnp _ _ _ => cases hq
    · exact e.same hb hs so hq
  refine ⟨I.sc, I.fk, I.gl, I.bu, I.co, I.qu, I.G0.same I.G h0 hb (fun vs' e => by rw [hd] at e; cases e; exact hcode) hs, ?_, fun y ay e k => ?_, fun a ha => ?_, I.G0, I.base.same h0 hs, I.gens, I.os, I.lf, I.ow, I.ol, fun y hy => ?_⟩
  · obtain ⟨m, hn, hm⟩ := I.ns
    refine ⟨m, hn.extBut hs fun z => ?_, fun y ay e k => let ⟨v', e1, e2⟩ := hm y ay e k; ⟨v', e1, keyN e e2⟩⟩
    obtain ⟨o', es, ep, q, hd', _⟩ := hn
    rw [z, hb] at q; cases q; rw [hd] at hd'; cases hd'
  · obtain ⟨a, v', e1, ⟨o', e2, e3⟩, e4⟩ := I.cl y ay e k
    refine ⟨a, v', e1, ⟨o', hs a o' (fun z => ?_) e2, e3⟩, keyN e e4⟩
    rw [z, hb] at e2; cases e2; rw [hd] at e3; cases e3
  · obtain ⟨o', e⟩ := I.al a ha
    by_cases hz : a = b
    · exact (hb' (hz ▸ ha)).elim
    · exact ⟨o', hs a o' hz e⟩
  · obtain ⟨k, a, v', e1, e2, ⟨o', e3, e5⟩, e4⟩ := I.st y hy
    refine ⟨k, a, v', e1, e2, ⟨o', hs a o' (fun z => ?_) e3, e5⟩, e4⟩
    rw [z, hb] at e3; cases e3; rw [hd] at e5; cases e5

theorem Mv.skip {L : Addr} {P : Addr → Prop} {h h1 h2 : Heap} {b : Addr} (x : Mv L P h h1) (hs : Heap.ExtBut b h1 h2) (h0 : h.get? b = none) : Mv L P h h2 := by
  have hne : ∀ a o, h.get? a = some o → a ≠ b := fun a o e z => by rw [z, h0] at e; cases e
  refine ⟨fun a o e g1 g2 g3 => ?_, fun a o e => ?_⟩
  · rcases x.kp a o e g1 g2 g3 with x1 | ⟨hb, ps, more, q, x1⟩
    · exact .inl (hs a o (hne a o e) x1)
    · exact .inr ⟨hb, ps, more, q, hs a _ (hne a o e) x1⟩
  · obtain ⟨o1, e1⟩ := x.dom a o e
    exact ⟨o1, hs a o1 (hne a o e) e1⟩

/-! ## for -/

inductive Fo (c : Cx) (n : Nat) (κ : Sta) (sts : List Str) (Xo X : List Addr) (t : Expr) (body : List Stmt) : List PyData → List (Str × AV) → Out → Prop
  | nil (ρ : List (Str × AV)) : Fo c n κ sts Xo X t body [] ρ (.next X ρ)
  | turn {d : PyData} {ds : List PyData} {ρ ρ1 ρ2 : List (Str × AV)} {o : Out} : Tg c n κ sts X ρ t (.dat d) ρ1 → Ex c n κ sts Xo X ρ1 body (.next X ρ2) → Fo c n κ sts Xo X t body ds ρ2 o → Fo c n κ sts Xo X t body (d :: ds) ρ o
  | ret {d : PyData} {ds : List PyData} {ρ ρ1 : List (Str × AV)} {r : AV} : Tg c n κ sts X ρ t (.dat d) ρ1 → Ex c n κ sts Xo X ρ1 body (.ret r) → Fo c n κ sts Xo X t body (d :: ds) ρ (.ret r)

/-- an iterator's own tuple is not asked, or asked in vain -/
theorem letGo_it {t : Expr} {it : Addr} {v : Value} {A : Around} {Q : Unit → Shared → Prop} {E : Value → Shared → Prop} {ds : List PyData} (J : ItS s.heap X it ds) (h : Q () s) : wpAny c.M A (letOwnedTupleGo t (.ref it) v) Q E s := by
  have key : ∃ o T, s.heap.get? it = some o ∧ o.cls = .type T ∧ (["enumerate", "zip", "dict_itemiterator", "dict_reverseitemiterator", "odict_iterator", "itertools.zip_longest", "itertools.pairwise"] : List String).contains T = false := by
    rcases J with ⟨ax, its, i, ⟨o, e, hc, hd⟩, _⟩ | ⟨x, k, e, _⟩
    · exact ⟨o, _, e, hc, by decide⟩
    · exact ⟨_, _, e, rfl, by decide⟩
  obtain ⟨o, T, e, hc, hT⟩ := key
  have main : ∀ a : Addr, wpAny c.M A (do
      let o ← load it
      match o.cls, o.data with
      | .type n, .fields vs =>
        if (["enumerate", "zip", "dict_itemiterator", "dict_reverseitemiterator", "odict_iterator", "itertools.zip_longest", "itertools.pairwise"].contains n && vs[0]? == some (rawInt a)) = true then do
          rule "for.unpacks-the-owned-tuple"
          updateField it 0 .none
        else pure ()
      | _, _ => pure ()) Q E s := fun a => by
    refine wpAny_bind (wpAny_load e ?_)
    rw [hc]
    split
    · rename_i n vs e1 _
      cases e1
      rw [hT, Bool.false_and, if_neg Bool.false_ne_true]
      exact wpAny_pure h
    · exact wpAny_pure h
  cases t
  case Tuple => cases v <;> first | exact main _ | exact wpAny_pure h
  case List => cases v <;> first | exact main _ | exact wpAny_pure h
  all_goals exact wpAny_pure h

theorem Fo.run {t : Expr} {body : List Stmt} {it : Addr} {R : Result → Shared → Prop} {ds : List PyData} {ρ : List (Str × AV)} {o : Out} {ρ0 : List (Str × AV)} {sa : Shared} (F : Fo c n κ sts Xo X t body ds ρ o) (h1 : ∀ a ∈ Xo, ∃ o, s₀.heap.get? a = some o) (h2 : ∀ a ∈ Xo, a ∈ X)
    (I : SInv c κ sts s₀ X ρ env s) (J : ItS s.heap X it ds) (hit0 : s₀.heap.get? it = none) (hita : sa.heap.get? it = none) (hitX : it ∉ X) (mv : Mv env.locals (Owned ρ0) sa.heap s.heap) (hg : ∀ a, Owned ρ a → Owned ρ0 a ∨ sa.heap.get? a = none)
    (k : Post c κ sts s₀ Xo env ρ0 sa (fun f s' => R (.ok f) s') o) : codeAny c.M (Lv n) (.forLoop t (.ref it) body [] env) R s := by
  refine codeAny_forLoop_any (fun m s => ∃ ds ρ, ds.length = m ∧ Fo c n κ sts Xo X t body ds ρ o ∧ SInv c κ sts s₀ X ρ env s ∧ ItS s.heap X it ds ∧ Mv env.locals (Owned ρ0) sa.heap s.heap ∧ ∀ a, Owned ρ a → Owned ρ0 a ∨ sa.heap.get? a = none) ?_ ds.length ⟨ds, ρ, rfl, F, I, J, mv, hg⟩
  rintro m s ⟨ds, ρ, hm, F, I, J, mv, hg⟩
  obtain ⟨oi, vi, ei, di, ci, _⟩ := J.obj
  cases F with
  | nil ρ =>
    refine J.next_nil fun h' tk he => wpAny_execs_nil ?_
    exact k _ (I.other (tk := tk) ei hit0 he hitX ⟨vi, di, ci⟩) h2 (mv.skip he hita) hg
  | turn ht hb hf =>
    rename_i d ds ρ1 ρ2
    refine J.next_cons fun v h' tk hs r J' => letGo_it J' ?_
    have I' := I.other (tk := tk) ei hit0 hs.extBut hitX ⟨vi, di, ci⟩
    have mv' := mv.skip hs.extBut hita
    refine ht s₀ env _ v _ _ I' r fun s2 I2 _ m2 o2 => ?_
    have J2 := I'.it m2 J'
    have mv2 := mv'.trans m2 hg
    refine hb s₀ env s2 _ _ h1 h2 I2 fun s3 I3 _ m3 o3 => ?_
    refine ⟨ds.length, by rw [← hm]; simp, ds, ρ2, rfl, hf, I3, I2.it m3 J2, mv2.trans m3 (fun a h => hg a (o2 a h)), fun a h => ?_⟩
    rcases o3 a h with q | q
    · exact hg a (o2 a q)
    · exact .inr (mv2.gone q)
  | ret ht hb =>
    rename_i d ds ρ1 r
    refine J.next_cons fun v h' tk hs r J' => letGo_it J' ?_
    have I' := I.other (tk := tk) ei hit0 hs.extBut hitX ⟨vi, di, ci⟩
    refine ht s₀ env _ v _ _ I' r fun s2 I2 _ m2 o2 => ?_
    exact hb s₀ env s2 _ _ h1 h2 I2 fun v s3 x r => k v s3 x r

noncomputable def notSet : Expr → Bool
  | .Set .. => false
  | _ => true
theorem fold_list {iter : Expr} (env : Env) (h : notSet iter = true) (x : Value) : foldedSetIterable iter env x = pure x := by
  cases iter <;> first | rfl | (cases h; done)

/-! what may be gone through -/
noncomputable def EvIt (c : Cx) (n : Nat) (κ : Sta) (X : List Addr) (ρ : List (Str × AV)) (e : Expr) (ds : List PyData) : Prop :=
  ∀ (env : Env) (s : Shared) (Q : Value → Shared → Prop) (E : Value → Shared → Prop), Inv c κ X ρ env s →
    (∀ it s', Ext c s s' → s.heap.get? it = none → ItS s'.heap X it ds → Q (.ref it) s') → wpAny c.M (Lv n) (eval e env) (fun x s1 => wpAny c.M (Lv n) (pyIter x) Q E s1) E s

theorem EvIt.list {e : Expr} {xs : List PyData} (h : Ev c n κ X ρ e (.dat (.list xs))) : EvIt c n κ X ρ e xs := fun env s Q E I k =>
  h env s _ E I fun v s1 x1 r => by
    obtain ⟨a, its, rfl, hl, r, ha⟩ := Rd.list_inv r
    refine wpAny_pyIter_list hl.isList ?_
    have xp := ext_push x1.gl { cls := .type "list_iterator", data := .fields #[.ref a, .int 0 0] }
    refine k _ _ (x1.trans xp) (x1.hx.gone (fresh_size _)) (.inl ⟨a, its, 0, ⟨_, Heap.get?_push_size _ rfl, rfl, rfl⟩, ha, xp.hx.plain hl, by simpa using r.ext xp.hx⟩)

theorem EvIt.range {p pos : Pos} {e : Expr} {m : Nat} (hk : κ.kd (Str.ofString "range") = some .globalImplicit) (hg : c.mg (Str.ofString "range") = none) (he : Ev c n κ X ρ e (.dat (.int (m : Nat)))) (hm : m ≤ 1000) (hs : notStar e = true := by rfl) :
    EvIt c n κ X ρ (.Call (.Name (Str.ofString "range") p) [e] [] pos) (rangeFrom 0 m) := fun env s Q E I k => by
  rw [eval_call_name]
  have hb : bootBuiltins (Str.ofString "range") = some (.type "range") := by decide +kernel
  refine wpAny_bind (name_builtin I hk hg hb ?_ (by decide) (by decide))
  have hA : EvAs c n κ X ρ [e] [.dat (.int (m : Nat))] := .cons he .nil hs
  refine callWith_machine hA.plain rfl (hA.args I fun vs s1 x1 rs => ?_)
  obtain ⟨v, rfl, r⟩ := rs.one
  obtain ⟨t, rfl⟩ := Rd.int_inv r
  refine call_range_1 ?_
  have xp := ext_push x1.gl { cls := .type "range", data := .fields #[.int 0 s1.toks, .int (m : Nat) t, .int 1 (s1.toks + 1)] }
  have xq : Ext c s1 { s1 with heap := s1.heap.push { cls := .type "range", data := .fields #[.int 0 s1.toks, .int (m : Nat) t, .int 1 (s1.toks + 1)] }, toks := s1.toks + 1 + 1 } := xp.trans (.toks xp.gl)
  refine wpAny_pyIter_range (IsRange.new ..) (small_one (by omega) (by omega) (by omega) (by omega)) ?_
  have xr := ext_push xq.gl { cls := .type "range_iterator", data := .fields #[rawInt 0, rawInt (Builtin.Range.rangeSize 0 (m : Nat) 1), rawInt 1] }
  refine k _ _ ((x1.trans xq).trans xr) ((x1.trans xq).hx.gone (fresh_size _)) (.inr ⟨0, m, ?_, rfl⟩)
  have : Builtin.Range.rangeSize 0 (m : Nat) 1 = (m : Nat) := by rw [rangeSize_one]; split <;> omega
  rw [this]
  exact Heap.get?_push_size _ rfl

theorem Sx.for {t iter : Expr} {body : List Stmt} {pos : Pos} {ds : List PyData} {o : Out} (hi : EvIt c n κ X ρ iter ds) (F : Fo c n κ sts Xo X t body ds ρ o) (hs : notSet iter = true := by rfl) :
    Sx c n κ sts Xo X ρ (.For t iter body [] pos) o := fun s₀ env s Q E h1 h2 I k =>
  wpAny_For (hi env s _ E I.inv fun it s1 x1 h0 J => by
    refine F.run (sa := s) (ρ0 := ρ) h1 h2 (I.ext x1) J (I.base.gone h0) h0 (fun m => ?_) (.ext x1.hx) (fun a h => .inl h) k
    obtain ⟨o, e⟩ := I.al it m
    rw [h0] at e; cases e) (fold_list env hs)

/-! ## while -/

inductive Wh (c : Cx) (n : Nat) (κ : Sta) (sts : List Str) (Xo X : List Addr) (t : Expr) (body : List Stmt) : Nat → List (Str × AV) → Out → Prop
  | stop {ρ : List (Str × AV)} : Ts c n κ X ρ t false → Wh c n κ sts Xo X t body 0 ρ (.next X ρ)
  | turn {m : Nat} {ρ ρ1 : List (Str × AV)} {o : Out} : Ts c n κ X ρ t true → Ex c n κ sts Xo X ρ body (.next X ρ1) → Wh c n κ sts Xo X t body m ρ1 o → Wh c n κ sts Xo X t body (m + 1) ρ o

theorem Wh.run {t : Expr} {body : List Stmt} {R : Result → Shared → Prop} {m : Nat} {ρ : List (Str × AV)} {o : Out} {ρ0 : List (Str × AV)} {sa : Shared} (F : Wh c n κ sts Xo X t body m ρ o) (h1 : ∀ a ∈ Xo, ∃ o, s₀.heap.get? a = some o) (h2 : ∀ a ∈ Xo, a ∈ X)
    (I : SInv c κ sts s₀ X ρ env s) (mv : Mv env.locals (Owned ρ0) sa.heap s.heap) (hg : ∀ a, Owned ρ a → Owned ρ0 a ∨ sa.heap.get? a = none)
    (k : Post c κ sts s₀ Xo env ρ0 sa (fun f s' => R (.ok f) s') o) : codeAny c.M (Lv n) (.whileLoop t body [] env) R s := by
  refine codeAny_whileLoop (fun m s => ∃ ρ, Wh c n κ sts Xo X t body m ρ o ∧ SInv c κ sts s₀ X ρ env s ∧ Mv env.locals (Owned ρ0) sa.heap s.heap ∧ ∀ a, Owned ρ a → Owned ρ0 a ∨ sa.heap.get? a = none) ?_ m ⟨ρ, F, I, mv, hg⟩
  rintro m s ⟨ρ, F, I, mv, hg⟩
  cases F with
  | stop ht =>
    refine ht env s _ _ I.inv fun s1 x1 => ?_
    refine wpAny_execs_nil (k s1 (I.ext x1) h2 (mv.trans (.ext (X := Owned ρ) x1.hx) hg) hg)
  | turn ht hb hf =>
    rename_i m ρ1
    refine ht env s _ _ I.inv fun s1 x1 => ?_
    have mv1 := mv.trans (.ext (X := Owned ρ) x1.hx) hg
    refine hb s₀ env s1 _ _ h1 h2 (I.ext x1) fun s2 I2 _ m2 o2 => ?_
    refine ⟨m, Nat.lt_succ_self _, ρ1, hf, I2, mv1.trans m2 hg, fun a h => ?_⟩
    rcases o2 a h with q | q
    · exact hg a q
    · exact .inr (mv1.gone q)

theorem Sx.while {t : Expr} {body : List Stmt} {pos : Pos} {m : Nat} {o : Out} (F : Wh c n κ sts Xo X t body m ρ o) : Sx c n κ sts Xo X ρ (.While t body [] pos) o := fun s₀ env s Q E h1 h2 I k =>
  wpAny_While (F.run (sa := s) (ρ0 := ρ) h1 h2 I (.refl ..) (fun a h => .inl h) k)

end
end Mine
end

section
open PySem PySem.W PyProof.Rows PySem.SeqAt
set_option maxRecDepth 100000
namespace Mine

/-! ## New frames -/

theorem cellsFrom_append : ∀ (names : List (Str × NameKind)) (m : Nat) (acc : List (Str × Addr)), cellsFrom m names acc = cellsFrom m names [] ++ acc
  | [], _, _ => rfl
  | (x, k) :: r, m, acc => by
    unfold cellsFrom
    by_cases h : (k == .cell) = true
    · rw [if_pos h, if_pos h, cellsFrom_append r (m + 1) ((x, m) :: acc), cellsFrom_append r (m + 1) [(x, m)], List.append_assoc]; rfl
    · rw [if_neg h, if_neg h]; exact cellsFrom_append r m acc
theorem cellsFrom_mem : ∀ (names : List (Str × NameKind)) (m : Nat) (acc : List (Str × Addr)) (x : Str) (a : Addr), (x, a) ∈ cellsFrom m names acc → (x, .cell) ∈ names ∨ (x, a) ∈ acc
  | [], _, _, _, _, h => .inr h
  | (y, k) :: r, m, acc, x, a, h => by
    unfold cellsFrom at h
    by_cases hk : (k == .cell) = true
    · rw [if_pos hk] at h
      rcases cellsFrom_mem r _ _ x a h with q | q
      · exact .inl (.tail _ q)
      · rcases List.mem_cons.mp q with q | q
        · cases q
          have : k = .cell := by simpa using hk
          exact .inl (this ▸ .head _)
        · exact .inr q
    · rw [if_neg hk] at h
      rcases cellsFrom_mem r _ _ x a h with q | q
      · exact .inl (.tail _ q)
      · exact .inr q

/-- each name stands once -/
noncomputable def scopeOk (σ : Scope) : Bool := σ.names.all fun y => σ.names.lookup y.1 == some y.2
theorem scopeOk.at {σ : Scope} (h : scopeOk σ = true) {x : Str} {k : NameKind} (hx : (x, k) ∈ σ.names) : σ.names.lookup x = some k := by
  have := List.all_eq_true.mp h (x, k) hx
  simpa using this
noncomputable def cellNames (σ : Scope) : List Str := σ.names.filterMap fun y => if y.2 == .cell then some y.1 else none
theorem cellNames.mem {σ : Scope} {x : Str} (h : x ∈ cellNames σ) : (x, NameKind.cell) ∈ σ.names := by
  obtain ⟨⟨y, k⟩, hy, e⟩ := List.mem_filterMap.mp h
  by_cases hk : (k == NameKind.cell) = true
  · rw [if_pos hk] at e; cases e
    have : k = .cell := by simpa using hk
    exact this ▸ hy
  · rw [if_neg hk] at e; cases e

theorem wp_newEnv {M : Model} {A : Around} {E : Value → Shared → Prop} {s : Shared} {scope : Scope} {globals : Addr} {closure : List (Str × Addr)} {binds : List (Str × Value)} {qual : Str} {func : Option Addr} {code : Value} {around : Option Env} {builtins : Addr} {Q : Env → Shared → Prop}
    (h : ∀ env, env = newEnv scope s.heap.objs.size globals (cellsFrom (s.heap.objs.size + 1) scope.names closure) qual func code around builtins →
      wpAny M A (forIn binds PUnit.unit (fun x _ => do storeName env x.1 x.2; pure (.yield ⟨⟩))) (fun _ s' => Q env s') E
        { s with heap := pushCells (s.heap.push { cls := .type (if around.isSome then "dict" else "frame"), data := .dict #[] }) scope.names }) :
    wpAny M A (newFunctionEnv scope globals closure binds qual func code around builtins) Q E s := by
  unfold newFunctionEnv
  refine wpAny_bind (wpAny_alloc ?_)
  refine wpAny_bind (wpAny_layCells _ (fun name kind cells => by cases hkc : kind == NameKind.cell <;> simp [hkc]) _ _ _ _ ?_)
  rw [show ({ s with heap := s.heap.push { cls := .type (if around.isSome then "dict" else "frame"), data := .dict #[] } } : Shared).heap.objs.size = s.heap.objs.size + 1 from Heap.size_push ..]
  have := h _ rfl
  cases around with
  | none => exact wpAny_bind (wpAny_mono this (fun _ _ q => wpAny_pure q) fun _ _ q => q)
  | some o => exact wpAny_bind (wpAny_mono this (fun _ _ q => wpAny_pure q) fun _ _ q => q)

section
variable {c : Cx} {n : Nat} {κ : Sta} {X : List Addr} {ρ : List (Str × AV)} {s : Shared} {env : Env}

/-- what a new frame knows: the closure's names -/
noncomputable def ClosOk (c : Cx) (h : Heap) (X : List Addr) (closure : List (Str × Addr)) (ρ : List (Str × AV)) : Prop :=
  ∀ x av, ρ.lookup x = some av → ∃ a v, closure.lookup x = some a ∧ h.IsCell a (some v) ∧ av.R c h X v

theorem lookup_append_none {α : Type} {x : Str} : ∀ {l r : List (Str × α)}, l.lookup x = none → (l ++ r).lookup x = r.lookup x
  | [], _, _ => rfl
  | (y, a) :: l, r, h => by
    rw [List.cons_append, List.lookup_cons]
    rw [List.lookup_cons] at h
    cases hb : x == y with
    | true => rw [hb] at h; cases h
    | false => rw [hb] at h; exact lookup_append_none h
theorem lookup_append_some {α : Type} {x : Str} {a : α} : ∀ {l r : List (Str × α)}, l.lookup x = some a → (l ++ r).lookup x = some a
  | (y, b) :: l, r, h => by
    rw [List.cons_append, List.lookup_cons]
    rw [List.lookup_cons] at h
    cases hb : x == y with
    | true => rw [hb] at h; exact h
    | false => rw [hb] at h; exact lookup_append_some h
theorem lookup_none_of {α : Type} {x : Str} : ∀ {l : List (Str × α)}, (∀ a, (x, a) ∉ l) → l.lookup x = none
  | [], _ => rfl
  | (y, b) :: l, h => by
    rw [List.lookup_cons]
    cases hb : x == y with
    | true => exact (h b (by rw [beq_iff_eq.mp hb]; exact .head _)).elim
    | false => exact lookup_none_of fun a m => h a (.tail _ m)

/-- the frame as it is made, nothing stored yet; the scope may be another one with the same cells -/
theorem SInv.start {s₀ : Shared} {scope : Scope} {cls : Value} {closure : List (Str × Addr)} {sts : List Str} (G0 : Gl c s₀.heap) (x0 : Ext c s₀ s) (al : ∀ a ∈ X, ∃ o, s.heap.get? a = some o) (hs : scopeOk scope = true)
    (hsc : env.scope = κ.scope) (hfk : κ.scope.kind = .function) (hgl : env.globals = mainGlobals) (hbu : env.builtins = builtinsNs) (hco : env.code = κ.code) (hqu : env.qual = κ.qual)
    (hL : env.locals = s.heap.objs.size) (hce : env.cells = cellsFrom (s.heap.objs.size + 1) scope.names closure) (hclo : ClosOk c s₀.heap X closure ρ)
    (hno : ∀ x av, ρ.lookup x = some av → (κ.kd x = some .cell ∨ κ.kd x = some .free) ∧ scope.names.lookup x = some .free ∧ av.at? = none) (hsts : ∀ x ∈ sts, (x, NameKind.cell) ∈ scope.names ∧ κ.kd x = some .cell) (hcl : ∀ x a, closure.lookup x = some a → ∃ o, s.heap.get? a = some o) :
    SInv c κ sts s₀ X ρ env { s with heap := pushCells (s.heap.push { cls := cls, data := .dict #[] }) scope.names } := by
  have hk1 : Keep s.heap (pushCells (s.heap.push { cls := cls, data := .dict #[] }) scope.names) := fun b o e => pushCells_keeps _ _ b o (Heap.get?_push_of_some _ e)
  have x1 : Ext c s { s with heap := pushCells (s.heap.push { cls := cls, data := .dict #[] }) scope.names } := .keep (tk := s.toks) x0.gl hk1
  have ok := cellsFrom_ok scope.names (s.heap.push { cls := cls, data := .dict #[] }) (s.heap.objs.size + 1) [] ⟨fun _ _ hm => (nomatch hm), List.Pairwise.nil⟩ (by rw [Heap.size_push]; exact Nat.le_refl _)
  rw [Heap.size_push] at ok
  have hce' : env.cells = cellsFrom (s.heap.objs.size + 1) scope.names [] ++ closure := hce.trans (cellsFrom_append ..)
  have free : ∀ x, scope.names.lookup x = some .free → (cellsFrom (s.heap.objs.size + 1) scope.names []).lookup x = none := fun x hx => lookup_none_of fun a m => by
    rcases cellsFrom_mem _ _ _ _ _ m with q | q
    · have := scopeOk.at hs q
      rw [hx] at this; cases this
    · cases q
  refine ⟨hsc, hfk, hgl, hbu, hco, hqu, x1.gl, ⟨fun _ => none, ?_, fun x av e k => ?_⟩, fun x av e k => ?_, fun a ha => let ⟨o, e⟩ := al a ha; ⟨o, hk1 a o e⟩, G0, x0.hx.trans x1.hx, x0.gens, x0.os, ?_, fun x a xs e => ?_, fun x a xs e => ?_, fun x hx => ?_⟩
  · rw [hL]; exact (Heap.Ns.new s.heap cls).keeps (pushCells_keeps _ _)
  · obtain ⟨h1, _⟩ := hno x av e
    rw [k] at h1; rcases h1 with h1 | h1 <;> cases h1
  · obtain ⟨h1, h2, h3⟩ := hno x av e
    obtain ⟨a, v, e1, e2, e3⟩ := hclo x av e
    refine ⟨a, v, ?_, (x0.hx.trans x1.hx).cell e2, .inl e3⟩
    rw [hce', lookup_append_none (free x h2)]; exact e1
  · rw [hL]; exact x0.hx.gone (fresh_size _)
  · obtain ⟨_, _, h3⟩ := hno x _ e; cases h3
  · obtain ⟨_, _, h3⟩ := hno x _ e; cases h3
  · obtain ⟨h1, h2⟩ := hsts x hx
    refine ⟨h2, ?_⟩
    have hsome := cellsFrom_some (x := x) scope.names (s.heap.objs.size + 1) [] (.inl (scopeOk.at hs h1))
    obtain ⟨a, ha⟩ := Option.isSome_iff_exists.mp hsome
    obtain ⟨hc, hlo⟩ := ok.empty x a (PySem.mem_of_lookup ha)
    have hfresh : s.heap.get? a = none := Heap.get?_none_of_le (Nat.le_trans (Nat.le_succ _) hlo)
    refine ⟨a, none, by rw [hce']; exact lookup_append_some ha, x0.hx.gone hfresh, hc, fun y hy => ?_⟩
    rw [hce'] at hy
    cases hq : (cellsFrom (s.heap.objs.size + 1) scope.names []).lookup y with
    | some b =>
      rw [lookup_append_some hq] at hy; cases hy
      exact PySem.name_of_addr ok.apart (PySem.mem_of_lookup hq) (PySem.mem_of_lookup ha)
    | none =>
      rw [lookup_append_none hq] at hy
      obtain ⟨o, e⟩ := hcl y a hy
      rw [hfresh] at e; cases e

end
end Mine
end

section
open PySem PySem.W PyProof.Rows PySem.SeqAt
set_option maxRecDepth 100000
namespace Mine

/-! ## Calls of functions -/

theorem lv_le {α : Type} {M : Model} {n : Nat} {env : Env} {t : Sem α} {Q : α → Shared → Prop} {E : Value → Shared → Prop} {s : Shared} (h : wpAny M (Lv n) t Q E s) (hn : n < 70) : wpAny M ((Lv (n + 1)).deeper env) t Q E s := fun Γ p hΓ => by
  refine h Γ p ⟨hΓ.1, ?_, fun l hl => (by cases hl), fun l hl => (by cases hl), ?_⟩
  · have := hΓ.2.1
    simp only [Lv, Around.deeper] at this ⊢
    omega
  · have := hΓ.2.2.2.2
    simp only [Lv, Around.deeper] at this ⊢
    omega

noncomputable def bindρ : List Str → List AV → List (Str × AV) → List (Str × AV)
  | x :: xs, a :: as, ρ => bindρ xs as ((x, a) :: ρ)
  | _, _, ρ => ρ

section
variable {c : Cx} {n : Nat} {κ : Sta} {sts : List Str} {X : List Addr} {s₀ s : Shared} {env : Env} {A : Around} {E : Value → Shared → Prop}

theorem bind_run : ∀ {names : List Str} {as : List AV} {vs : List Value} {ρ : List (Str × AV)} {s : Shared} {Q : PUnit → Shared → Prop}, SInv c κ sts s₀ X ρ env s → AvAll c s₀.heap X vs as → names.length = as.length →
    (∀ x ∈ names, stOk κ sts x = true) → (∀ a ∈ as, a.at? = none) → (∀ s', SInv c κ sts s₀ X (bindρ names as ρ) env s' → Q ⟨⟩ s') →
    wpAny c.M A (forIn (names.zip vs) PUnit.unit (fun x _ => do storeName env x.1 x.2; pure (.yield ⟨⟩))) Q E s
  | [], [], [], ρ, s, Q, I, _, _, _, _, k => wpAny_pure (k s I)
  | x :: xs, a :: as, v :: vs, ρ, s, Q, I, ⟨r, rs⟩, hl, h1, h2, k => by
    have e : (forIn ((x :: xs).zip (v :: vs)) PUnit.unit (fun x _ => do storeName env x.1 x.2; pure (.yield ⟨⟩)) : Sem PUnit) = (do storeName env x v; forIn (xs.zip vs) PUnit.unit (fun x _ => do storeName env x.1 x.2; pure (.yield ⟨⟩))) := by
      simp [List.zip_cons_cons, List.forIn_cons]
    rw [e]
    refine wpAny_bind (I.store (h1 x (.head _)) (.inl r) (fun b ys z => by have := h2 a (.head _); rw [z] at this; cases this) fun s' I' _ _ => ?_)
    exact bind_run I' rs (Nat.succ.inj hl) (fun y hy => h1 y (.tail _ hy)) (fun b hb => h2 b (.tail _ hb)) k
  | [], _ :: _, _, _, _, _, _, _, hl, _, _, _ => by cases hl
  | _ :: _, [], _, _, _, _, _, _, hl, _, _, _ => by cases hl
  | [], [], _ :: _, _, _, _, _, r, _, _, _, _ => r.elim
  | _ :: _, _ :: _, [], _, _, _, _, r, _, _, _, _ => r.elim

/-- what is known of a function of the text -/
theorem len1 {α : Type} {P : List α → Prop} {vs : List α} (h : vs.length = 1) (k : ∀ a, P [a]) : P vs := by
  cases vs with
  | nil => cases h
  | cons a vs => cases vs with
    | nil => exact k a
    | cons b vs => simp at h
theorem len2 {α : Type} {P : List α → Prop} {vs : List α} (h : vs.length = 2) (k : ∀ a b, P [a, b]) : P vs := by
  cases vs with
  | nil => cases h
  | cons a vs => exact len1 (P := fun vs => P (a :: vs)) (by simpa using h) fun b => k a b
theorem len3' {α : Type} {P : List α → Prop} {vs : List α} (h : vs.length = 3) (k : ∀ a b c, P [a, b, c]) : P vs := by
  cases vs with
  | nil => cases h
  | cons a vs => exact len2 (P := fun vs => P (a :: vs)) (by simpa using h) fun b c => k a b c
theorem len4 {α : Type} {P : List α → Prop} {vs : List α} (h : vs.length = 4) (k : ∀ a b c d, P [a, b, c, d]) : P vs := by
  cases vs with
  | nil => cases h
  | cons a vs => exact len3' (P := fun vs => P (a :: vs)) (by simpa using h) fun b c d => k a b c d

theorem bind1 {fd : FuncData} {names : List Str} (h : ∀ a : Value, bindArgs fd ⟨[a], []⟩ = pure (names.zip [a])) (vs : List Value) (hl : vs.length = 1) : bindArgs fd ⟨vs, []⟩ = pure (names.zip vs) :=
  len1 (P := fun vs => bindArgs fd ⟨vs, []⟩ = pure (names.zip vs)) hl h
theorem bind2 {fd : FuncData} {names : List Str} (h : ∀ a b : Value, bindArgs fd ⟨[a, b], []⟩ = pure (names.zip [a, b])) (vs : List Value) (hl : vs.length = 2) : bindArgs fd ⟨vs, []⟩ = pure (names.zip vs) :=
  len2 (P := fun vs => bindArgs fd ⟨vs, []⟩ = pure (names.zip vs)) hl h
theorem bind3 {fd : FuncData} {names : List Str} (h : ∀ a b c : Value, bindArgs fd ⟨[a, b, c], []⟩ = pure (names.zip [a, b, c])) (vs : List Value) (hl : vs.length = 3) : bindArgs fd ⟨vs, []⟩ = pure (names.zip vs) :=
  len3' (P := fun vs => bindArgs fd ⟨vs, []⟩ = pure (names.zip vs)) hl h
theorem bind4 {fd : FuncData} {names : List Str} (h : ∀ a b c d : Value, bindArgs fd ⟨[a, b, c, d], []⟩ = pure (names.zip [a, b, c, d])) (vs : List Value) (hl : vs.length = 4) : bindArgs fd ⟨vs, []⟩ = pure (names.zip vs) :=
  len4 (P := fun vs => bindArgs fd ⟨vs, []⟩ = pure (names.zip vs)) hl h

structure FnOk (K : Frag) (f : Addr) (fd : FuncData) (names : List Str) (body : List Stmt) : Prop where
  at' : ∃ o, K.lookup f = some o ∧ o.data = .func fd
  body' : fd.body = .stmts body
  co : fd.scope.isCoroutine = false
  gen : fd.scope.isGenerator = false
  kind : fd.scope.kind = .function
  glob : fd.globals = mainGlobals
  bui : fd.builtins = builtinsNs
  clo : fd.closure = []
  code : codeIn K fd.code fd.qualname = true
  bind : ∀ vs : List Value, vs.length = names.length → bindArgs fd ⟨vs, []⟩ = pure (names.zip vs)
  one : scopeOk fd.scope = true
  par : names.all (fun x => stOk ⟨fd.scope, fd.code, fd.qualname ++ ".<locals>."⟩ (cellNames fd.scope) x) = true

noncomputable def Sta.of (fd : FuncData) : Sta := ⟨fd.scope, fd.code, fd.qualname ++ ".<locals>."⟩

theorem Fn.of_body {f : Addr} {fd : FuncData} {names : List Str} {body : List Stmt} {args : List AV} {r : AV} (F : FnOk c.K f fd names body) (hn : n < 70) (hl : names.length = args.length) (ha : ∀ a ∈ args, a.at? = none)
    (h : ∀ X, Ex c n (Sta.of fd) (cellNames fd.scope) X X (bindρ names args []) body (.ret r)) : Fn c (n + 1) f args r := fun X s vs Q E G al rs k => by
  obtain ⟨o, ho, hd⟩ := F.at'
  refine wpAny_call (codeAny_call_function (fd := fd) (body := body) ?_ (G.k _ _ ho) hd F.co F.gen F.body' (codeRec_of G.k F.code) ?_)
  · show 800 - (n + 1) < 1000; omega
  rw [F.bind vs (rs.length.trans hl.symm)]
  refine wpAny_pure (wp_newEnv fun env he => ?_)
  have I := SInv.start (c := c) (κ := Sta.of fd) (X := X) (ρ := []) (s := s) (env := env) (scope := fd.scope) (cls := .type "frame") (closure := []) (sts := cellNames fd.scope) G (.refl G) al F.one (by rw [he]; rfl) F.kind (by rw [he]; exact F.glob) (by rw [he]; exact F.bui) (by rw [he]; rfl) (by rw [he]; rfl) (by rw [he]; rfl)
    (by rw [he, F.clo]; rfl) (fun x av e => by cases e) (fun x av e => by cases e) (fun x hx => ⟨cellNames.mem hx, scopeOk.at F.one (cellNames.mem hx)⟩) (fun x a e => by cases e)
  refine bind_run (s₀ := s) I rs hl (fun x hx => List.all_eq_true.mp F.par x hx) ha fun s' I' => ?_
  refine ⟨I'.G.nl, codeAny_func (lv_le ?_ hn)⟩
  exact h X s env s' _ _ al (fun _ h => h) I' fun v s'' x r => k v s'' x r

end
end Mine
end

section
open PySem PySem.W PyProof.Rows PySem.SeqAt
set_option maxRecDepth 100000
namespace Mine

/-! ## Comprehensions -/

noncomputable def ctRhs (e t : Expr) (k : Nat) (p : Pos) (ifs : List Expr) (it acc : Value) (env : Env) (emit : Sem PySem.Fin) : Sem PySem.Fin := do
      standAt p
      match ← pyNext it with
      | none => pure (.done .next)
      | some v =>
        letOwnedTupleGo t it v
        PySem.assign t env v
        let mut ok := true
        for c in ifs do
          if ok then ok ← isTrue c env (eval c env)
        if ok then emit else again (.compLoop e k it acc env)
theorem ct1 (elt target iter : Expr) (ifs : List Expr) (scope : Scope) (pos : Pos) (it acc : Value) (env : Env) :
    compTurn (.ListComp elt [⟨target, iter, ifs, 0⟩] scope pos) 0 it acc env = ctRhs (.ListComp elt [⟨target, iter, ifs, 0⟩] scope pos) target 0 iter.pos ifs it acc env (do
      (do let _ ← PySem.call (.builtin "list.append") [acc, ← eval elt env]); again (.compLoop (.ListComp elt [⟨target, iter, ifs, 0⟩] scope pos) 0 it acc env)) := by rfl
theorem ct2b (elt target iter : Expr) (g : Comprehension) (ifs : List Expr) (scope : Scope) (pos : Pos) (it acc : Value) (env : Env) :
    compTurn (.ListComp elt [g, ⟨target, iter, ifs, 0⟩] scope pos) 1 it acc env = ctRhs (.ListComp elt [g, ⟨target, iter, ifs, 0⟩] scope pos) target 1 iter.pos ifs it acc env (do
      (do let _ ← PySem.call (.builtin "list.append") [acc, ← eval elt env]); again (.compLoop (.ListComp elt [g, ⟨target, iter, ifs, 0⟩] scope pos) 1 it acc env)) := by rfl
theorem ct2a (elt target iter target2 iter2 : Expr) (ifs ifs2 : List Expr) (scope : Scope) (pos : Pos) (it acc : Value) (env : Env) :
    compTurn (.ListComp elt [⟨target, iter, ifs, 0⟩, ⟨target2, iter2, ifs2, 0⟩] scope pos) 0 it acc env = ctRhs (.ListComp elt [⟨target, iter, ifs, 0⟩, ⟨target2, iter2, ifs2, 0⟩] scope pos) target 0 iter.pos ifs it acc env (do
      let x ← eval iter2 env
      standAt iter2.pos
      let x ← foldedSetIterable iter2 env x
      let _ ← runOwn (.compStart (.ListComp elt [⟨target, iter, ifs, 0⟩, ⟨target2, iter2, ifs2, 0⟩] scope pos) 1 (← holding [x] (pyIter x)) acc env) env
      again (.compLoop (.ListComp elt [⟨target, iter, ifs, 0⟩, ⟨target2, iter2, ifs2, 0⟩] scope pos) 0 it acc env)) := by rfl

theorem start_1 {prog : Program} {w : World} {A : Around} {R : Result → Shared → Prop} {s : Shared} {elt target iter : Expr} {ifs : List Expr} {g : Comprehension} {scope : Scope} {pos : Pos} {it acc : Value} {env : Env}
    (h0 : codeAny (model prog w) A (.compLoop (.ListComp elt [g, ⟨target, iter, ifs, 0⟩] scope pos) 1 it acc env) R s)
    (h : wpAny (model prog w) A (pyIter it) (fun it' s' => codeAny (model prog w) A (.compLoop (.ListComp elt [g, ⟨target, iter, ifs, 0⟩] scope pos) 1 it' acc env) R s')
      (notedBy (model prog w) A env fun x s' => R (.error x) s') s) :
    codeAny (model prog w) A (.compStart (.ListComp elt [g, ⟨target, iter, ifs, 0⟩] scope pos) 1 it acc env) R s := by
  refine codeAny_of_tree ?_
  show wpAny _ _ ((compStart (.ListComp elt [g, ⟨target, iter, ifs, 0⟩] scope pos) 1 it acc env).onRaise (fun x => do noteFrame x env; standAt theWindowsPlace)) _ _ s
  refine wpAny_notedAt ?_
  unfold compStart
  show wpAny _ _ (ask >>= _) _ _ s
  refine wpAny_bind (wpAny_askSetting (wpAny_ite ?_))
  split
  · first
      | exact wpAny_bind (wpAny_pure (wpAny_pure (And.intro rfl h0)))
      | exact wpAny_pure (And.intro rfl h0)
  · refine wpAny_bind (wpAny_rule ?_)
    show wpAny _ _ (standAt iter.pos >>= _) _ _ s
    exact wpAny_bind (wpAny_standAt (wpAny_bind (wpAny_mono h (fun it' s' h' => wpAny_pure (And.intro rfl h')) fun _ _ x => x)))

section
variable {c : Cx} {n : Nat} {κ : Sta} {sts : List Str} {Xo X : List Addr} {ρ : List (Str × AV)} {s₀ s : Shared} {env : Env}

/-- a store at an address that the frame does not read through -/
theorem SInv.any {b : Addr} {ob : Obj} {h' : Heap} {tk : Nat} (I : SInv c κ sts s₀ X ρ env s) (hb : s.heap.get? b = some ob) (h0 : s₀.heap.get? b = none) (hs : Heap.ExtBut b s.heap h') (hX : b ∈ X → ∃ o, h'.get? b = some o)
    (hL : b ≠ env.locals) (hc : ∀ v, ob.data ≠ .cell v) (hf : ∀ vs, ob.data = .fields vs → ∀ q t, vs[1]? ≠ some (.str q t)) (so : Soft X b ob) (ho : ¬ Owned ρ b) : SInv c κ sts s₀ X ρ env { s with heap := h', toks := tk } := by
  have keyN : ∀ {y : Str} {av : AV} {v : Value}, ρ.lookup y = some av → EntOk c s₀.heap s.heap X av v → EntOk c s₀.heap h' X av v := fun {y av v} hl e => by
    by_cases hq : av.at? = some b
    · cases av with
      | own a zs =>
        have hb2 : a = b := by injection hq
        subst hb2
        exact (ho ⟨y, zs, hl⟩).elim
      | dat _ => cases hq
      | inst _ => cases hq
      | fnp _ _ _ => cases hq
    · exact e.same hb hs so hq
  refine ⟨I.sc, I.fk, I.gl, I.bu, I.co, I.qu, I.G0.same I.G h0 hb hf hs, ?_, fun y ay e k => ?_, fun a ha => ?_, I.G0, I.base.same h0 hs, I.gens, I.os, I.lf, I.ow, I.ol, fun y hy => ?_⟩
  · obtain ⟨m, hn, hm⟩ := I.ns
    exact ⟨m, hn.extBut hs (Ne.symm hL), fun y ay e k => let ⟨v', e1, e2⟩ := hm y ay e k; ⟨v', e1, keyN e e2⟩⟩
  · obtain ⟨a, v', e1, ⟨o', e2, e3⟩, e4⟩ := I.cl y ay e k
    refine ⟨a, v', e1, ⟨o', hs a o' (fun z => ?_) e2, e3⟩, keyN e e4⟩
    rw [z, hb] at e2; cases e2; exact hc _ e3
  · obtain ⟨o', e⟩ := I.al a ha
    by_cases hz : a = b
    · rw [hz]; exact hX (hz ▸ ha)
    · exact ⟨o', hs a o' hz e⟩
  · obtain ⟨k, a, v', e1, e2, ⟨o', e3, e5⟩, e4⟩ := I.st y hy
    refine ⟨k, a, v', e1, e2, ⟨o', hs a o' (fun z => ?_) e3, e5⟩, e4⟩
    rw [z, hb] at e3; cases e3; exact hc _ e5

/-- the state of a comprehension: its frame, and its list D -/
structure CI (c : Cx) (κ : Sta) (sts : List Str) (s₀ : Shared) (X : List Addr) (ρ : List (Str × AV)) (env : Env) (D : Addr) (acc : List PyData) (s : Shared) : Prop where
  I : SInv c κ sts s₀ X ρ env s
  L : ∃ items, s.heap.PlainList D items ∧ RdA s.heap X items.toList acc
  D0 : s₀.heap.get? D = none
  DX : D ∈ X
  no : ∀ a, ¬ Owned ρ a

variable {D : Addr} {acc : List PyData}

theorem CI.ext {s' : Shared} (C : CI c κ sts s₀ X ρ env D acc s) (x : Ext c s s') : CI c κ sts s₀ X ρ env D acc s' :=
  ⟨C.I.ext x, let ⟨its, h1, h2⟩ := C.L; ⟨its, x.hx.plain h1, h2.ext x.hx⟩, C.D0, C.DX, C.no⟩
theorem CI.softD (C : CI c κ sts s₀ X ρ env D acc s) : ∀ a, a = D → (∀ o, s.heap.get? a = some o → o.cls = .type "list") ∧ a ∈ X := fun a e => by
  subst e
  obtain ⟨its, ⟨k, hg⟩, _⟩ := C.L
  exact ⟨fun o q => by rw [hg] at q; cases q; rfl, C.DX⟩
theorem CI.rdA (C : CI c κ sts s₀ X ρ env D acc s) {h' : Heap} (m : Mv env.locals (· = D) s.heap h') : ∀ {ds : List PyData} {vs : List Value}, RdA s.heap X vs ds → RdA h' X vs ds := fun {ds vs} r => by
  have one : ∀ {v : Value} {d : PyData}, Rd s.heap X v d → Rd h' X v d := fun ⟨as, ra, hx⟩ => by
    refine ⟨as, Reads.mv m C.I.softL C.softD ra hx, fun a ha => ⟨(hx a ha).1, ?_⟩⟩
    obtain ⟨vs, k, e⟩ := (hx a ha).2
    exact ⟨vs, k, m.get e (fun z => C.I.softL _ (z ▸ e) _ _ rfl) (fun v z => by cases z) (fun z => (hx a ha).1 (C.softD a z).2) (by nofun)⟩
  induction ds generalizing vs with
  | nil => rw [r.nil_inv]; exact .nil
  | cons d ds ih =>
    obtain ⟨v, vs', rfl, r1, r2⟩ := r.cons_inv
    exact .cons (one r1) (ih r2)
theorem CI.it (C : CI c κ sts s₀ X ρ env D acc s) {h' : Heap} (m : Mv env.locals (· = D) s.heap h') {it : Addr} {ds : List PyData} (J : ItS s.heap X it ds) : ItS h' X it ds := by
  obtain ⟨oi, vi, ei, di, _⟩ := J.obj
  have k1 : it ≠ env.locals := fun z => by
    obtain ⟨m, ⟨o', es, ep, q, hd, _⟩, _⟩ := C.I.ns
    rw [← z, ei] at q; cases q; rw [di] at hd; cases hd
  have k2 : it ≠ D := fun z => by
    obtain ⟨its, ⟨k, hg⟩, _⟩ := C.L
    rw [← z, ei] at hg; cases hg; cases di
  rcases J with ⟨ax, its, i, ⟨o, e, hc, hd⟩, hX, ⟨k, hl⟩, r⟩ | ⟨x', k, e, hd⟩
  · refine .inl ⟨ax, its, i, ⟨o, m.get e k1 (fun v z => by rw [hd] at z; cases z) k2 (fun ps z => by rw [z] at hc; cases hc), hc, hd⟩, hX, ⟨k, m.get hl (fun z => C.I.softL _ (z ▸ hl) _ _ rfl) (fun v z => by cases z) (fun z => hX (z ▸ C.DX)) (by nofun)⟩, C.rdA m r⟩
  · exact .inr ⟨x', k, m.get e k1 (fun v z => by cases z) k2 (by nofun), hd⟩
/-- the iterator moves -/
theorem CI.moved {it : Addr} {ds : List PyData} {h' : Heap} {tk : Nat} (C : CI c κ sts s₀ X ρ env D acc s) (J : ItS s.heap X it ds) (h0 : s₀.heap.get? it = none) (hX : it ∉ X) (hs : Heap.ExtBut it s.heap h') : CI c κ sts s₀ X ρ env D acc { s with heap := h', toks := tk } := by
  obtain ⟨oi, vi, ei, di, ci, _⟩ := J.obj
  have so : Soft X it oi := fun vs n e => by rw [di] at e; cases e
  refine ⟨C.I.any ei h0 hs (fun m => (hX m).elim) (fun z => ?_) (fun v z => by rw [di] at z; cases z) (fun vs z => by rw [di] at z; cases z; exact ci) so (C.no it), ?_, C.D0, C.DX, C.no⟩
  · obtain ⟨m, ⟨o', es, ep, q, hd, _⟩, _⟩ := C.I.ns
    rw [← z, ei] at q; cases q; rw [di] at hd; cases hd
  · obtain ⟨its, ⟨k, hg⟩, r⟩ := C.L
    have k2 : D ≠ it := fun z => by rw [z, ei] at hg; cases hg; cases di
    exact ⟨its, ⟨k, hs D _ k2 hg⟩, r.same ei hs so⟩
/-- an item is added -/
theorem CI.push {v : Value} {d : PyData} {items : Array Value} {h' : Heap} {tk : Nat} (C : CI c κ sts s₀ X ρ env D acc s) (hl : s.heap.PlainList D items) (hl' : h'.PlainList D (items.push v)) (hs : Heap.SameBut D s.heap h') (r : Rd s.heap X v d) :
    CI c κ sts s₀ X ρ env D (acc ++ [d]) { s with heap := h', toks := tk } := by
  obtain ⟨its, ⟨k, hg⟩, ra⟩ := C.L
  have : items = its := by obtain ⟨k2, hg2⟩ := hl; rw [hg] at hg2; cases hg2; rfl
  subst this
  have so : Soft X D { cls := .type "list", data := .seq items k } := fun vs n e => ⟨by simp, fun _ => C.DX⟩
  refine ⟨C.I.any hg C.D0 hs.extBut (fun _ => let ⟨_, q⟩ := hl'; ⟨_, q⟩) (fun z => ?_) (fun v z => by cases z) (fun vs z => by cases z) so (C.no D), ⟨_, hl', ?_⟩, C.D0, C.DX, C.no⟩
  · exact C.I.softL _ (z ▸ hg) _ _ rfl
  · have := (ra.same hg hs.extBut so).append (.cons (Rd.same hg hs.extBut so r) .nil)
    simpa using this
/-- a target is bound -/
theorem CI.tg {t : Expr} {d : PyData} {ρ1 : List (Str × AV)} {v : Value} {Q : Unit → Shared → Prop} {E : Value → Shared → Prop} (C : CI c κ sts s₀ X ρ env D acc s) (ht : Tg c n κ sts X ρ t (.dat d) ρ1) (r : Rd s.heap X v d)
    (k : ∀ s', CI c κ sts s₀ X ρ1 env D acc s' → Mv env.locals (· = D) s.heap s'.heap → Q () s') : wpAny c.M (Lv n) (PySem.assign t env v) Q E s := by
  refine ht s₀ env s v Q E C.I r fun s' I' _ m o => ?_
  have m' : Mv env.locals (· = D) s.heap s'.heap := m.mono fun a h => (C.no a h).elim
  refine k s' ⟨I', ?_, C.D0, C.DX, fun a h => C.no a (o a h)⟩ m'
  obtain ⟨its, ⟨k, hg⟩, ra⟩ := C.L
  have hm : Mv env.locals (fun _ => False) s.heap s'.heap := m.mono fun a h => (C.no a h).elim
  refine ⟨its, ⟨k, hm.get hg (fun z => C.I.softL _ (z ▸ hg) _ _ rfl) (fun v z => by cases z) id (by nofun)⟩, C.rdA m' ra⟩

noncomputable def TsL (c : Cx) (n : Nat) (κ : Sta) (X : List Addr) (ρ : List (Str × AV)) : List Expr → Bool → Prop
  | [], b => b = true
  | [e], b => Ts c n κ X ρ e b
  | _, _ => False

inductive Lp (c : Cx) (n : Nat) (κ : Sta) (sts : List Str) (X : List Addr) (t : Expr) (ifs : List Expr) (B : List (Str × AV) → List (Str × AV) → List PyData → Prop) : List PyData → List (Str × AV) → List (Str × AV) → List PyData → Prop
  | nil (ρ : List (Str × AV)) : Lp c n κ sts X t ifs B [] ρ ρ []
  | skip {d : PyData} {ds : List PyData} {ρ ρ1 ρ' : List (Str × AV)} {out : List PyData} : Tg c n κ sts X ρ t (.dat d) ρ1 → TsL c n κ X ρ1 ifs false → Lp c n κ sts X t ifs B ds ρ1 ρ' out → Lp c n κ sts X t ifs B (d :: ds) ρ ρ' out
  | take {d : PyData} {ds : List PyData} {ρ ρ1 ρ2 ρ' : List (Str × AV)} {o out : List PyData} : Tg c n κ sts X ρ t (.dat d) ρ1 → TsL c n κ X ρ1 ifs true → B ρ1 ρ2 o → Lp c n κ sts X t ifs B ds ρ2 ρ' out → Lp c n κ sts X t ifs B (d :: ds) ρ ρ' (o ++ out)

theorem TsL.run {ifs : List Expr} {b : Bool} {Q : Bool → Shared → Prop} {E : Value → Shared → Prop} (h : TsL c n κ X ρ ifs b) (I : Inv c κ X ρ env s) (k : ∀ s', Ext c s s' → Q b s') :
    wpAny c.M (Lv n) (forIn ifs true fun c r => if r = true then do let ok ← isTrue c env (eval c env); pure (ForInStep.yield ok) else pure (ForInStep.yield r)) Q E s := by
  match ifs, h with
  | [], h => rw [show b = true from h] at k; exact wpAny_tests_nil (k s (.refl I.G))
  | [e], h => exact wpAny_tests_one (h env s _ _ I k)

theorem Lp.run {elt t : Expr} {gens : List Comprehension} {σ : Scope} {pos p : Pos} {k : Nat} {ifs : List Expr} {B : List (Str × AV) → List (Str × AV) → List PyData → Prop} {it : Addr} {R : Result → Shared → Prop} {emit : Sem PySem.Fin} {fin out : List PyData} {ρ' : List (Str × AV)} {ds : List PyData} {sa : Shared}
    (F : Lp c n κ sts X t ifs B ds ρ ρ' out) (hT : compTurn (.ListComp elt gens σ pos) k (.ref it) (.ref D) env = ctRhs (.ListComp elt gens σ pos) t k p ifs (.ref it) (.ref D) env emit)
    (hB : ∀ ρ1 ρ2 o acc s Q E, B ρ1 ρ2 o → CI c κ sts s₀ X ρ1 env D acc s → acc.length + o.length ≤ 100000 → (∀ s', CI c κ sts s₀ X ρ2 env D (acc ++ o) s' → Mv env.locals (· = D) s.heap s'.heap → Q (.again (.compLoop (.ListComp elt gens σ pos) k (.ref it) (.ref D) env)) s') → wpAny c.M (Lv n) emit Q E s)
    (C : CI c κ sts s₀ X ρ env D acc s) (J : ItS s.heap X it ds) (hit0 : s₀.heap.get? it = none) (hita : sa.heap.get? it = none) (hitX : it ∉ X) (mv : Mv env.locals (· = D) sa.heap s.heap) (hf : acc ++ out = fin) (hz : fin.length ≤ 100000)
    (q : ∀ s', CI c κ sts s₀ X ρ' env D fin s' → Mv env.locals (· = D) sa.heap s'.heap → R (.ok .next) s') : codeAny c.M (Lv n) (.compLoop (.ListComp elt gens σ pos) k (.ref it) (.ref D) env) R s := by
  refine codeAny_loop rfl (fun m s => ∃ ds ρ acc out, ds.length = m ∧ Lp c n κ sts X t ifs B ds ρ ρ' out ∧ CI c κ sts s₀ X ρ env D acc s ∧ ItS s.heap X it ds ∧ Mv env.locals (· = D) sa.heap s.heap ∧ acc ++ out = fin) ?_ ds.length ⟨ds, ρ, acc, out, rfl, F, C, J, mv, hf⟩
  rintro m s ⟨ds, ρ, acc, out, hm, F, C, J, mv, hf⟩
  show wpAny _ (Lv n) ((compTurn (.ListComp elt gens σ pos) k (.ref it) (.ref D) env).onRaise (fun x => do noteFrame x env; theTreesLotGoes x)) _ _ s
  refine wpAny_noted ?_
  rw [hT]
  refine wpAny_bind (wpAny_standAt (wpAny_bind ?_))
  cases F with
  | nil ρ =>
    refine J.next_nil fun h' tk he => wpAny_pure ?_
    rw [List.append_nil] at hf
    exact q _ (hf ▸ C.moved (tk := tk) J hit0 hitX he) (mv.skip he hita)
  | skip ht hn hf' =>
    rename_i d ds ρ1
    refine J.next_cons fun v h' tk hs r J' => ?_
    have C' := C.moved (tk := tk) J hit0 hitX hs.extBut
    have mv' := mv.skip hs.extBut hita
    refine wpAny_bind (letGo_it J' (wpAny_bind (C'.tg ht r fun s2 C2 m2 => ?_)))
    have mv2 := mv'.trans m2 fun a h => .inl h
    refine wpAny_bind (hn.run C2.I.inv fun s3 x3 => ?_)
    exact wpAny_pure ⟨rfl, ds.length, by rw [← hm]; simp, ds, ρ1, acc, out, rfl, hf', C2.ext x3, (C'.it m2 J').ext x3.hx, mv2.trans (.ext (X := (· = D)) x3.hx) fun a h => .inl h, hf⟩
  | take ht hn hb hf' =>
    rename_i d ds ρ1 ρ2 o out
    refine J.next_cons fun v h' tk hs r J' => ?_
    have C' := C.moved (tk := tk) J hit0 hitX hs.extBut
    have mv' := mv.skip hs.extBut hita
    refine wpAny_bind (letGo_it J' (wpAny_bind (C'.tg ht r fun s2 C2 m2 => ?_)))
    have mv2 := mv'.trans m2 fun a h => .inl h
    refine wpAny_bind (hn.run C2.I.inv fun s3 x3 => ?_)
    have C3 := C2.ext x3
    have J3 := (C'.it m2 J').ext x3.hx
    have mv3 := mv2.trans (.ext (X := (· = D)) x3.hx) fun a h => .inl h
    rw [← List.append_assoc] at hf
    refine hB ρ1 ρ2 o acc s3 _ _ hb C3 (by rw [← List.length_append]; refine Nat.le_trans ?_ hz; rw [← hf]; simp) fun s4 C4 m4 => ?_
    exact ⟨rfl, ds.length, by rw [← hm]; simp, ds, ρ2, acc ++ o, out, rfl, hf', C4, C3.it m4 J3, mv3.trans m4 fun a h => .inl h, hf⟩

/-- the element is added -/
noncomputable def B1 (c : Cx) (n : Nat) (κ : Sta) (X : List Addr) (elt : Expr) (ρ1 ρ2 : List (Str × AV)) (o : List PyData) : Prop := ρ2 = ρ1 ∧ ∃ d, Ev c n κ X ρ1 elt (.dat d) ∧ o = [d]

theorem B1.run {elt : Expr} {code : Code} {ρ1 ρ2 : List (Str × AV)} {o : List PyData} {Q : PySem.Fin → Shared → Prop} {E : Value → Shared → Prop} (h : B1 c n κ X elt ρ1 ρ2 o) (C : CI c κ sts s₀ X ρ1 env D acc s) (hz : acc.length + o.length ≤ 100000)
    (k : ∀ s', CI c κ sts s₀ X ρ2 env D (acc ++ o) s' → Mv env.locals (· = D) s.heap s'.heap → Q (.again code) s') :
    wpAny c.M (Lv n) (do (do let _ ← PySem.call (.builtin "list.append") [.ref D, ← eval elt env]); again code) Q E s := by
  obtain ⟨rfl, d, hd, rfl⟩ := h
  refine wpAny_bind (wpAny_bind (hd env s _ _ C.I.inv fun v s1 x1 r => ?_))
  have C1 := C.ext x1
  obtain ⟨its, hl, ra⟩ := C1.L
  have e1 := ra.length
  simp at e1
  refine wpAny_bind (wpAny_list_append_plain (hsz := by rw [e1]; exact Nat.le_trans (Nat.le_trans (Nat.le_add_right _ _) hz) (by decide)) hl fun h' hl' hs => wpAny_pure (wpAny_pure ?_))
  exact k _ (C1.push (tk := s1.toks) hl hl' hs r) ((Mv.ext x1.hx).trans (Mv.same (X := (· = D)) hs (let ⟨_, q⟩ := hl'; ⟨_, q⟩) (.inr (.inl rfl))) fun a h => .inl h)

/-- an inner clause -/
noncomputable def B2 (c : Cx) (n : Nat) (κ : Sta) (sts : List Str) (X : List Addr) (t iter : Expr) (ifs : List Expr) (elt : Expr) (ρ1 ρ2 : List (Str × AV)) (o : List PyData) : Prop :=
  ∃ ds, EvIt c n κ X ρ1 iter ds ∧ notSet iter = true ∧ Lp c n κ sts X t ifs (B1 c n κ X elt) ds ρ1 ρ2 o

theorem ItS.self {it : Addr} {ds : List PyData} {A : Around} {Q : Value → Shared → Prop} {E : Value → Shared → Prop} (J : ItS s.heap X it ds) (h : Q (.ref it) s) : wpAny c.M A (pyIter (.ref it)) Q E s := by
  rcases J with ⟨ax, its, i, hit, _⟩ | ⟨x', k, e, hd⟩
  · exact wpAny_pyIter_listiter hit h
  · exact wpAny_pyIter_rangeiter e h

theorem B2.run {elt t iter t0 iter0 : Expr} {ifs ifs0 : List Expr} {σ : Scope} {pos : Pos} {code : Code} {ρ1 ρ2 : List (Str × AV)} {o : List PyData} {Q : PySem.Fin → Shared → Prop} {E : Value → Shared → Prop} (h : B2 c n κ sts X t iter ifs elt ρ1 ρ2 o) (C : CI c κ sts s₀ X ρ1 env D acc s) (hz : acc.length + o.length ≤ 100000)
    (k : ∀ s', CI c κ sts s₀ X ρ2 env D (acc ++ o) s' → Mv env.locals (· = D) s.heap s'.heap → Q (.again code) s') :
    wpAny c.M (Lv n) (do
      let x ← eval iter env
      standAt iter.pos
      let x ← foldedSetIterable iter env x
      let _ ← runOwn (.compStart (.ListComp elt [⟨t0, iter0, ifs0, 0⟩, ⟨t, iter, ifs, 0⟩] σ pos) 1 (← holding [x] (pyIter x)) (.ref D) env) env
      again code) Q E s := by
  obtain ⟨ds, hi, hs, F⟩ := h
  refine wpAny_bind (wpAny_mono (hi env s (fun v s' => ∃ it, v = .ref it ∧ Ext c s s' ∧ s.heap.get? it = none ∧ ItS s'.heap X it ds) E C.I.inv fun it s1 x1 h0 J => ⟨it, rfl, x1, h0, J⟩) (fun x s1 h1 => ?_) fun _ _ e => e)
  refine wpAny_bind (wpAny_standAt (wpAny_bind (wpAny_of_eq (fold_list env hs x) (wpAny_bind (wpAny_holding (wpAny_mono h1 (fun v s2 h2 => ?_) fun _ _ e => e))))))
  obtain ⟨it, rfl, x2, h0, J⟩ := h2
  have C2 := C.ext x2
  refine wpAny_bind (wpAny_runOwn ?_)
  show codeAny c.M (Lv n) _ _ s2
  have hX : it ∉ X := fun m => by
    obtain ⟨o, e⟩ := C.I.al it m
    rw [h0] at e; cases e
  have loop : codeAny c.M (Lv n) (.compLoop (.ListComp elt [⟨t0, iter0, ifs0, 0⟩, ⟨t, iter, ifs, 0⟩] σ pos) 1 (.ref it) (.ref D) env) (fun r s' => match r with | .ok f => wpAny c.M (Lv n) (again code) Q E s' | .error e => cameBackBy c.M (Lv n) env E e s') s2 := by
    refine F.run (sa := s) (k := 1) (fin := acc ++ o) (ct2b ..) (fun ρ1 ρ2 o acc s Q E hb C hz k => hb.run C hz k) C2 J (C.I.base.gone h0) h0 hX (.ext x2.hx) rfl (by simpa using hz) fun s' C' m' => ?_
    exact wpAny_pure (k s' C' m')
  exact start_1 loop (J.self loop)

/-! ### The frame of a comprehension -/

noncomputable def relabF (τ : Scope) (p : Str × NameKind) : Str × NameKind := if (p.2 == .free && τ.kind == .function && τ.names.lookup p.1 == some .cell) then (p.1, .cell) else p
noncomputable def relab (σ τ : Scope) : Scope := { σ with names := σ.names.map (relabF τ) }
theorem relab_eq {σ τ : Scope} {env : Env} (h : env.scope = τ) : relabel σ env = relab σ τ := by subst h; rfl
noncomputable def Sta.comp (κ : Sta) (σ : Scope) : Sta := ⟨relab σ κ.scope, κ.code, κ.qual⟩

theorem relabF_cases (τ : Scope) (p : Str × NameKind) : (relabF τ p = (p.1, .cell) ∧ p.2 = .free) ∨ relabF τ p = p := by
  unfold relabF
  split
  · rename_i h; simp at h; exact .inl ⟨rfl, h.1.1⟩
  · exact .inr rfl
theorem relab_keep {τ : Scope} {x : Str} {k : NameKind} (hk : k ≠ .free) : ∀ {names : List (Str × NameKind)}, names.lookup x = some k → (names.map (relabF τ)).lookup x = some k
  | [], h => by cases h
  | (y, j) :: r, h => by
    rw [List.lookup_cons] at h
    rw [List.map_cons]
    rcases relabF_cases τ (y, j) with ⟨e, hj⟩ | e
    · rw [e, List.lookup_cons]
      cases hb : x == y with
      | true => rw [hb] at h; cases h; exact (hk hj).elim
      | false => rw [hb] at h; exact relab_keep hk h
    · rw [e, List.lookup_cons]
      cases hb : x == y with
      | true => rw [hb] at h; exact h
      | false => rw [hb] at h; exact relab_keep hk h
theorem relab_free {τ : Scope} {x : Str} : ∀ {names : List (Str × NameKind)}, names.lookup x = some .free → (names.map (relabF τ)).lookup x = some .cell ∨ (names.map (relabF τ)).lookup x = some .free
  | [], h => by cases h
  | (y, j) :: r, h => by
    rw [List.lookup_cons] at h
    rw [List.map_cons]
    rcases relabF_cases τ (y, j) with ⟨e, hj⟩ | e
    · rw [e, List.lookup_cons]
      cases hb : x == y with
      | true => exact .inl rfl
      | false => rw [hb] at h; exact relab_free h
    · rw [e, List.lookup_cons]
      cases hb : x == y with
      | true => rw [hb] at h; exact .inr h
      | false => rw [hb] at h; exact relab_free h
theorem kd_keep {σ : Scope} {x : Str} {k : NameKind} (h : σ.names.lookup x = some k) (hk : k ≠ .free) : (κ.comp σ).kd x = some k := relab_keep hk h
theorem kd_free {σ : Scope} {x : Str} (h : σ.names.lookup x = some .free) : (κ.comp σ).kd x = some .cell ∨ (κ.comp σ).kd x = some .free := relab_free h

inductive Frees (κ : Sta) (ρ : List (Str × AV)) : List (Str × NameKind) → List (Str × AV) → Prop
  | nil : Frees κ ρ [] []
  | skip {x : Str} {k : NameKind} {names : List (Str × NameKind)} {ρ0 : List (Str × AV)} (h : (k == .free) = false) : Frees κ ρ names ρ0 → Frees κ ρ ((x, k) :: names) ρ0
  | free {x : Str} {av : AV} {names : List (Str × NameKind)} {ρ0 : List (Str × AV)} (hl : ρ.lookup x = some av) (hk : κ.kd x = some .cell ∨ κ.kd x = some .free) (ha : av.at? = none) : Frees κ ρ names ρ0 → Frees κ ρ ((x, .free) :: names) ((x, av) :: ρ0)

theorem Frees.mem {names : List (Str × NameKind)} {ρ0 : List (Str × AV)} (F : Frees κ ρ names ρ0) : ∀ p ∈ ρ0, ρ.lookup p.1 = some p.2 ∧ (κ.kd p.1 = some .cell ∨ κ.kd p.1 = some .free) ∧ p.2.at? = none ∧ (p.1, NameKind.free) ∈ names := by
  induction F with
  | nil => nofun
  | skip h _ ih => exact fun p hp => let ⟨a, b, c, d⟩ := ih p hp; ⟨a, b, c, .tail _ d⟩
  | free hl hk ha _ ih =>
    intro p hp
    rcases List.mem_cons.mp hp with rfl | hp
    · exact ⟨hl, hk, ha, .head _⟩
    · exact let ⟨a, b, c, d⟩ := ih p hp; ⟨a, b, c, .tail _ d⟩
theorem Frees.has {names : List (Str × NameKind)} {ρ0 : List (Str × AV)} (F : Frees κ ρ names ρ0) : ∀ x, (x, NameKind.free) ∈ names → ∃ av, ρ.lookup x = some av ∧ (κ.kd x = some .cell ∨ κ.kd x = some .free) := by
  induction F with
  | nil => nofun
  | skip h _ ih =>
    intro x hx
    rcases List.mem_cons.mp hx with e | hx
    · cases e; cases h
    · exact ih x hx
  | free hl hk ha _ ih =>
    intro x hx
    rcases List.mem_cons.mp hx with e | hx
    · cases e; exact ⟨_, hl, hk⟩
    · exact ih x hx

theorem closure_go : ∀ (names : List (Str × NameKind)) (acc : List (Str × Addr)), (∀ x, (x, NameKind.free) ∈ names → ∃ a, env.cells.lookup x = some a) →
    ∃ cl, (forIn names acc fun x cs => match x with | (name, kind) => if (kind == NameKind.free) = true then do let a ← cellOf env name; pure (ForInStep.yield ((name, a) :: cs)) else pure (ForInStep.yield cs) : Sem (List (Str × Addr))) = pure cl ∧
      (∀ p ∈ cl, p ∈ acc ∨ (env.cells.lookup p.1 = some p.2 ∧ (p.1, NameKind.free) ∈ names)) ∧ (∀ p ∈ acc, p ∈ cl) ∧ ∀ x, (x, NameKind.free) ∈ names → ∃ a, (x, a) ∈ cl
  | [], acc, _ => ⟨acc, rfl, fun p h => .inl h, fun p h => h, nofun⟩
  | (y, k) :: r, acc, h => by
    by_cases hk : (k == NameKind.free) = true
    · have hk' : k = .free := by simpa using hk
      subst hk'
      obtain ⟨a, ha⟩ := h y (.head _)
      obtain ⟨cl, e, h1, h2, h3⟩ := closure_go r ((y, a) :: acc) fun x hx => h x (.tail _ hx)
      refine ⟨cl, ?_, fun p hp => ?_, fun p hp => h2 p (.tail _ hp), fun x hx => ?_⟩
      · rw [List.forIn_cons]
        have : cellOf env y = pure a := by unfold cellOf; rw [ha]
        simp only [hk, if_true, this]
        exact e
      · rcases h1 p hp with q | q
        · rcases List.mem_cons.mp q with rfl | q
          · exact .inr ⟨ha, .head _⟩
          · exact .inl q
        · exact .inr ⟨q.1, .tail _ q.2⟩
      · rcases List.mem_cons.mp hx with e | hx
        · cases e; exact ⟨a, h2 _ (.head _)⟩
        · exact h3 x hx
    · obtain ⟨cl, e, h1, h2, h3⟩ := closure_go r acc fun x hx => h x (.tail _ hx)
      refine ⟨cl, ?_, fun p hp => (h1 p hp).imp id fun q => ⟨q.1, .tail _ q.2⟩, h2, fun x hx => ?_⟩
      · rw [List.forIn_cons]
        simp only [hk]
        exact e
      · rcases List.mem_cons.mp hx with e | hx
        · cases e; exact (hk rfl).elim
        · exact h3 x hx

theorem lookup_none_mem {α : Type} {x : Str} {a : α} : ∀ {l : List (Str × α)}, l.lookup x = none → (x, a) ∈ l → False
  | (y, b) :: l, h, m => by
    rw [List.lookup_cons] at h
    cases hb : x == y with
    | true => rw [hb] at h; cases h
    | false =>
      rw [hb] at h
      rcases List.mem_cons.mp m with e | m
      · cases e; simp at hb
      · exact lookup_none_mem h m

theorem Frees.closure {σ : Scope} {ρ0 : List (Str × AV)} (F : Frees κ ρ σ.names ρ0) (I : Inv c κ X ρ env s) : ∃ cl, closureFor σ env = pure cl ∧ ClosOk c s.heap X cl ρ0 ∧ ∀ x a, cl.lookup x = some a → ∃ o, s.heap.get? a = some o := by
  have hc : ∀ x, (x, NameKind.free) ∈ σ.names → ∃ a v, env.cells.lookup x = some a ∧ s.heap.IsCell a (some v) := fun x hx => by
    obtain ⟨av, e, k⟩ := F.has x hx
    obtain ⟨a, v, e1, e2, _⟩ := I.cl x av e k
    exact ⟨a, v, e1, e2⟩
  obtain ⟨cl, e, h1, _, h3⟩ := closure_go (env := env) σ.names [] fun x hx => let ⟨a, _, e, _⟩ := hc x hx; ⟨a, e⟩
  refine ⟨cl, ?_, fun x av hl => ?_, fun x a hl => ?_⟩
  · unfold closureFor
    show ((forIn σ.names [] fun x cs => match x with | (name, kind) => if (kind == NameKind.free) = true then do let a ← cellOf env name; pure (ForInStep.yield ((name, a) :: cs)) else pure (ForInStep.yield cs) : Sem (List (Str × Addr))) >>= fun cs => pure cs) = pure cl
    rw [e]; rfl
  · obtain ⟨g1, g2, g3, g4⟩ := F.mem (x, av) (mem_of_lookupA hl)
    obtain ⟨a, v, e1, e2, e3⟩ := I.cl x av g1 g2
    refine ⟨a, v, ?_, e2, e3⟩
    obtain ⟨a', ha'⟩ := h3 x g4
    cases hq : cl.lookup x with
    | none => exact (lookup_none_mem hq ha').elim
    | some b =>
      rcases h1 (x, b) (PySem.mem_of_lookup hq) with q | q
      · cases q
      · rw [e1] at q; exact q.1.symm
  · rcases h1 (x, a) (PySem.mem_of_lookup hl) with q | q
    · cases q
    · obtain ⟨b, v, e1, o, e2, _⟩ := hc x q.2
      rw [e1] at q; cases q.1
      exact ⟨o, e2⟩
end
end Mine
end

section
open PySem PySem.W PyProof.Rows PySem.SeqAt
set_option maxRecDepth 100000
namespace Mine
section
variable {c : Cx} {n : Nat} {κ : Sta} {sts : List Str} {Xo X : List Addr} {ρ : List (Str × AV)} {s₀ s : Shared} {env : Env}

theorem ItS.fresh {h : Heap} {it D : Addr} {ds : List PyData} (J : ItS h X it ds) (hD : h.get? D = none) : ItS h (D :: X) it ds := by
  rcases J with ⟨ax, its, i, hit, hX, ⟨k, hl⟩, r⟩ | ⟨x', k, e, hd⟩
  · refine .inl ⟨ax, its, i, hit, fun m => ?_, ⟨k, hl⟩, r.fresh hD⟩
    rcases List.mem_cons.mp m with z | z
    · rw [z, hD] at hl; cases hl
    · exact hX z
  · exact .inr ⟨x', k, e, hd⟩

theorem comp_core {elt t iter : Expr} {ifs : List Expr} {gs : List Comprehension} {σ : Scope} {pos p : Pos} {ds out : List PyData} {ρ0 : List (Str × AV)} {use : Option (Value → Sem Unit)} {Q : Value → Shared → Prop} {E : Value → Shared → Prop}
    (I : Inv c κ X ρ env s) (hi : EvIt c n κ X ρ iter ds) (hσ : scopeOk σ = true) (hk : σ.kind = .function) (F : Frees κ ρ σ.names ρ0) (hs : notSet iter = true)
    (hloop : ∀ (D it : Addr) (cenv : Env) (s4 : Shared) (R : Result → Shared → Prop), D ∉ X → CI c (κ.comp σ) (cellNames σ) s (D :: X) ρ0 cenv D [] s4 → ItS s4.heap (D :: X) it ds → s.heap.get? it = none → it ∉ D :: X →
      (∀ s' ρ', CI c (κ.comp σ) (cellNames σ) s (D :: X) ρ' cenv D out s' → R (.ok .next) s') → codeAny c.M (Lv n) (.compLoop (.ListComp elt (⟨t, iter, ifs, 0⟩ :: gs) σ pos) 0 (.ref it) (.ref D) cenv) R s4)
    (k : ∀ D s' ρ' cenv, s.heap.get? D = none → CI c (κ.comp σ) (cellNames σ) s (D :: X) ρ' cenv D out s' → compPost c.M (Lv n) E use Q (.ref D) cenv.locals (.ok .next) s') :
    wpAny c.M (Lv n) (comprehension (.ListComp elt (⟨t, iter, ifs, 0⟩ :: gs) σ pos) σ env p (newList []) false (eval iter env) use) Q E s := by
  obtain ⟨cl, hcl, hclo, hclx⟩ := F.closure I
  refine wpAny_comprehension_free (use := use) rfl (fold_list env hs) hcl hk (fun x hx hl => ?_) ?_
  · obtain ⟨y, j⟩ := x
    cases hl
    exact scopeOk.at hσ hx
  refine hi env s _ E I fun it s2 x2 h0 J => ?_
  refine wpAny_newObj_type ?_
  have hD2 := fresh_size s2.heap
  generalize hD : s2.heap.objs.size = D at hD2 ⊢
  have x3 := ext_push x2.gl { cls := .type "list", data := .seq ([] : List Value).toArray }
  have hDs : s.heap.get? D = none := x2.hx.gone hD2
  have hDX : D ∉ X := not_mem_fresh I.al hDs
  have hg3 : (s2.heap.push { cls := .type "list", data := .seq ([] : List Value).toArray }).get? D = some { cls := .type "list", data := .seq ([] : List Value).toArray } := by rw [← hD]; exact Heap.get?_push_size _ rfl
  have hit : it ∉ D :: X := fun m => by
    rcases List.mem_cons.mp m with z | z
    · obtain ⟨oi, vi, ei, _⟩ := J.obj
      rw [z, hD2] at ei; cases ei
    · obtain ⟨o, e⟩ := I.al it z
      rw [h0] at e; cases e
  refine wp_newEnv fun cenv he => ?_
  have S := SInv.start (c := c) (κ := κ.comp σ) (X := D :: X) (ρ := ρ0) (s₀ := s) (s := { s2 with heap := s2.heap.push { cls := .type "list", data := .seq ([] : List Value).toArray } }) (env := { cenv with scope := relabel σ env }) (scope := σ) (cls := .type "dict") (closure := cl) (sts := cellNames σ)
    I.G (x2.trans x3) (fun a ha => ?_) hσ (relab_eq I.sc) hk (by rw [he]; exact I.gl) (by rw [he]; exact I.bu) (by rw [he]; exact I.co) (by rw [he]; exact I.qu) (by rw [he]; rfl) (by rw [he]; rfl)
    (fun x av e => let ⟨a, v, e1, e2, e3⟩ := hclo x av e; ⟨a, v, e1, e2, e3.fresh hDs⟩)
    (fun x av e => let ⟨_, _, g3, g4⟩ := F.mem (x, av) (mem_of_lookupA e); ⟨kd_free (scopeOk.at hσ g4), scopeOk.at hσ g4, g3⟩)
    (fun x hx => ⟨cellNames.mem hx, kd_keep (scopeOk.at hσ (cellNames.mem hx)) (by nofun)⟩)
    (fun x a e => let ⟨o, q⟩ := hclx x a e; (x2.trans x3).hx.dom q)
  · refine wpAny_pure ?_
    have xk : HExt (s2.heap.push { cls := .type "list", data := .seq ([] : List Value).toArray }) (pushCells ((s2.heap.push { cls := .type "list", data := .seq ([] : List Value).toArray }).push { cls := .type "dict", data := .dict #[] }) σ.names) :=
      .of_keep fun b o e => pushCells_keeps _ _ b o (Heap.get?_push_of_some _ e)
    have C : CI c (κ.comp σ) (cellNames σ) s (D :: X) ρ0 { cenv with scope := relabel σ env } D [] { s2 with heap := pushCells ((s2.heap.push { cls := .type "list", data := .seq ([] : List Value).toArray }).push { cls := .type "dict", data := .dict #[] }) σ.names } :=
      ⟨S, ⟨#[], xk.plain ⟨_, hg3⟩, .nil⟩, hDs, .head _, fun a ⟨x, xs, e⟩ => by
        obtain ⟨_, _, g3, _⟩ := F.mem (x, _) (mem_of_lookupA e)
        cases g3⟩
    have J4 : ItS (pushCells ((s2.heap.push { cls := .type "list", data := .seq ([] : List Value).toArray }).push { cls := .type "dict", data := .dict #[] }) σ.names) (D :: X) it ds := (J.fresh hD2).ext (x3.hx.trans xk)
    have loop := hloop D it { cenv with scope := relabel σ env } _ (compPost c.M (Lv n) E use Q (.ref D) cenv.locals) hDX C J4 h0 hit fun s' ρ' C' => k D s' ρ' { cenv with scope := relabel σ env } hDs C'
    exact codeAny_compStart_list loop (J4.self loop)
  · rcases List.mem_cons.mp ha with z | z
    · exact ⟨_, z ▸ hg3⟩
    · obtain ⟨o, e⟩ := I.al a z
      exact (x2.trans x3).hx.dom e

/-- what a comprehension of one clause gives -/
structure Cp (c : Cx) (n : Nat) (κ : Sta) (X : List Addr) (ρ : List (Str × AV)) (elt : Expr) (gens : List Comprehension) (σ : Scope) (out : List PyData) : Prop where
  run : ∀ {pos p : Pos} {use : Option (Value → Sem Unit)} {Q : Value → Shared → Prop} {E : Value → Shared → Prop} {env : Env} {s : Shared}, Inv c κ X ρ env s →
    (∀ D s' ρ' cenv, s.heap.get? D = none → CI c (κ.comp σ) (cellNames σ) s (D :: X) ρ' cenv D out s' → compPost c.M (Lv n) E use Q (.ref D) cenv.locals (.ok .next) s') →
    wpAny c.M (Lv n) (comprehension (.ListComp elt gens σ pos) σ env p (newList []) false (firstIter gens env) use) Q E s
  sync : firstAsync gens = false

theorem Cp.one {elt t iter : Expr} {ifs : List Expr} {σ : Scope} {ds out : List PyData} {ρ0 : List (Str × AV)} (hi : EvIt c n κ X ρ iter ds) (F : Frees κ ρ σ.names ρ0)
    (L : ∀ D, D ∉ X → ∃ ρ', Lp c n (κ.comp σ) (cellNames σ) (D :: X) t ifs (B1 c n (κ.comp σ) (D :: X) elt) ds ρ0 ρ' out) (hz : out.length ≤ 100000) (hσ : scopeOk σ = true := by decide +kernel) (hk : σ.kind = .function := by rfl) (hs : notSet iter = true := by rfl) :
    Cp c n κ X ρ elt [⟨t, iter, ifs, 0⟩] σ out := ⟨fun {pos p use Q E env s} I k => comp_core (gs := []) I hi hσ hk F hs (fun D it cenv s4 R hD C J h0 hit q => by
      obtain ⟨ρ', L⟩ := L D hD
      exact L.run (sa := s) (k := 0) (fin := out) (p := iter.pos) (ct1 ..) (fun ρ1 ρ2 o acc s Q E hb C hz k => hb.run C hz k) C J h0 h0 hit (.ext C.I.base) rfl hz fun s' C' m' => q s' ρ' C') k, rfl⟩

theorem Cp.two {elt t iter t2 iter2 : Expr} {ifs ifs2 : List Expr} {σ : Scope} {ds out : List PyData} {ρ0 : List (Str × AV)} (hi : EvIt c n κ X ρ iter ds) (F : Frees κ ρ σ.names ρ0)
    (L : ∀ D, D ∉ X → ∃ ρ', Lp c n (κ.comp σ) (cellNames σ) (D :: X) t ifs (B2 c n (κ.comp σ) (cellNames σ) (D :: X) t2 iter2 ifs2 elt) ds ρ0 ρ' out) (hz : out.length ≤ 100000) (hσ : scopeOk σ = true := by decide +kernel) (hk : σ.kind = .function := by rfl) (hs : notSet iter = true := by rfl) :
    Cp c n κ X ρ elt [⟨t, iter, ifs, 0⟩, ⟨t2, iter2, ifs2, 0⟩] σ out := ⟨fun {pos p use Q E env s} I k => comp_core (gs := [⟨t2, iter2, ifs2, 0⟩]) I hi hσ hk F hs (fun D it cenv s4 R hD C J h0 hit q => by
      obtain ⟨ρ', L⟩ := L D hD
      exact L.run (sa := s) (k := 0) (fin := out) (p := iter.pos) (ct2a ..) (fun ρ1 ρ2 o acc s Q E hb C hz k => hb.run C hz k) C J h0 h0 hit (.ext C.I.base) rfl hz fun s' C' m' => q s' ρ' C') k, rfl⟩

/-- the comprehension's variables go -/
theorem CI.done {D : Addr} {acc : List PyData} {h' : Heap} {tk : Nat} (C : CI c κ sts s₀ X ρ env D acc s) (hs : Heap.SameBut env.locals s.heap h') :
    Ext c s₀ { s with heap := h', toks := tk } ∧ ∃ items, h'.PlainList D items ∧ RdA h' X items.toList acc := by
  obtain ⟨m, ⟨o', es, ep, q, hd, r⟩, _⟩ := C.I.ns
  have so : Soft X env.locals o' := fun vs n e => by rw [hd] at e; cases e
  obtain ⟨its, ⟨k, hg⟩, ra⟩ := C.L
  refine ⟨⟨C.I.base.same C.I.lf hs.extBut, C.I.gens, C.I.os, C.I.G0.same C.I.G C.I.lf q (fun vs e => by rw [hd] at e; cases e) hs.extBut⟩, its, ⟨k, hs.extBut D _ (fun z => C.I.softL _ (z ▸ hg) _ _ rfl) hg⟩, ra.same q hs.extBut so⟩
theorem CI.nsL {D : Addr} {acc : List PyData} (C : CI c κ sts s₀ X ρ env D acc s) : ∃ m, s.heap.Ns env.locals m := let ⟨m, h, _⟩ := C.I.ns; ⟨m, h⟩

theorem EvN.comp {elt : Expr} {gens : List Comprehension} {σ : Scope} {pos : Pos} {out : List PyData} (C : Cp c n κ X ρ elt gens σ out) : EvN c n κ X ρ (.ListComp elt gens σ pos) out := fun env s Q E I k => by
  rw [eval_ListComp, C.sync]
  refine C.run I fun D s' ρ' cenv hD C' => ?_
  obtain ⟨m, hm⟩ := C'.nsL
  refine ⟨m, hm, fun h' hs => ?_⟩
  obtain ⟨x, items, hl, r⟩ := C'.done (tk := s'.toks) hs
  exact k D items _ x hD hl r

/-- a comprehension stored at once under a local -/
theorem Ex.assignC {x : Str} {p pos cpos : Pos} {elt : Expr} {gens : List Comprehension} {σ : Scope} {xs : List PyData} {rest : List Stmt} {o : Out} (C : Cp c n κ X ρ elt gens σ xs) (hx : κ.kd x = some .local)
    (hr : ∀ a, a ∉ X → Ex c n κ sts Xo (a :: X) ((x, .own a xs) :: ρ) rest o)
    (hsw : (p.line == cpos.line && !(σ.names.any fun (n, k) => n == x && (k == .local || k == .cell))) = true := by decide +kernel) :
    Ex c n κ sts Xo X ρ (.Assign [.Name x p] (.ListComp elt gens σ cpos) pos :: rest) o := fun s₀ env s Q E h1 h2 I k => by
  have hsw' : swapsWith (.ListComp elt gens σ cpos) (some (.Name x p)) pos.line env = pure true := by
    have e1 : env.blockKind = .function := by
      unfold Env.blockKind; rw [I.sc, I.fk]; rfl
    have e2 : env.kindOf x = some .local := by show env.scope.names.lookup x = _; rw [I.sc]; exact hx
    show (pure (env.blockKind == .function && env.kindOf x == some .local && p.line == cpos.line && !(σ.names.any fun (n, k) => n == x && (k == .local || k == .cell))) : Sem Bool) = pure true
    rw [e1, e2, Bool.and_assoc, hsw]; rfl
  refine wpAny_execs_cons ?_
  rw [exec_Assign_Name_used _ _ _ _ hsw']
  refine wpAny_bind (wpAny_standAt (wpAny_bind ?_))
  show wpAny _ (Lv n) (do let _ ← comprehension (.ListComp elt gens σ cpos) σ env _ (newList []) (firstAsync gens) (firstIter gens env) (some (PySem.assign (.Name x p) env))) _ _ s
  rw [C.sync]
  refine wpAny_bind (C.run (use := some (PySem.assign (.Name x p) env)) I.inv fun D s' ρ' cenv hD C' => ?_)
  have x1 : Ext c s s' := C'.I.ret
  obtain ⟨its, ⟨kk, hg⟩, ra⟩ := C'.L
  have I1 := I.grow x1 hD hg
  obtain ⟨mC, hmC⟩ := C'.nsL
  have hCs : s.heap.get? cenv.locals = none := C'.I.lf
  refine wpAny_assign_Name (I1.store_local (av := .own D xs) hx (.inr ⟨rfl, rfl, .head _, its, ⟨kk, hg⟩, ra⟩) (fun b ys e => by cases e; exact ⟨I.base.gone hD, hx⟩) fun s2 I2 _ m2 => ?_)
  have hLC : cenv.locals ≠ env.locals := fun z => by
    obtain ⟨m, ⟨o', es, ep, q, _⟩, _⟩ := I.ns
    rw [← z, hCs] at q; cases q
  obtain ⟨oC, es, ep, eC, dC, rC⟩ := id hmC
  have eC2 : s2.heap.get? cenv.locals = some oC := m2.get eC hLC (fun v z => by rw [dC] at z; cases z) id (fun ps z => by rw [z] at dC; cases dC)
  refine ⟨mC, ⟨oC, es, ep, eC2, dC, rC⟩, fun h' hs => wpAny_pure (wpAny_pure ?_)⟩
  have hno : ¬ Owned ((x, AV.own D xs) :: ρ) cenv.locals := fun h => by
    rcases owned_own _ h with z | z
    · rw [z, hg] at eC; cases eC; cases dC
    · obtain ⟨_, ha⟩ := I.softO _ z
      obtain ⟨o, e⟩ := I.al _ ha
      rw [hCs] at e; cases e
  have I3 := I2.any (tk := s2.toks) eC2 (I.base.gone hCs) hs.extBut (fun m => by
    rcases List.mem_cons.mp m with z | z
    · rw [z, hg] at eC; cases eC; cases dC
    · obtain ⟨o, e⟩ := I.al _ z
      rw [hCs] at e; cases e) hLC (fun v z => by rw [dC] at z; cases z) (fun vs z => by rw [dC] at z; cases z) (fun vs n e => by rw [dC] at e; cases e) hno
  exact hr D (not_mem_fresh I.al hD) s₀ env _ Q E h1 (fun b hb => .tail _ (h2 b hb)) I3 (k.back (((Mv.ext x1.hx).trans (m2.mono (Y := Owned ρ) nofun) fun _ h => .inl h).skip hs.extBut hCs) fun b hb => (owned_own b hb).elim (fun z => .inr (z ▸ hD)) .inl)

/-- a comprehension for a cell is not stored at once -/
theorem swaps_cell {x : Str} {p cpos : Pos} {l : Nat} {elt : Expr} {gens : List Comprehension} {σ : Scope} {env : Env} (hx : κ.kd x = some .cell) (he : env.scope = κ.scope) : swapsWithSole [.Name x p] (.ListComp elt gens σ cpos) l env = pure false := by
  have e2 : env.kindOf x = some .cell := by show env.scope.names.lookup x = _; rw [he]; exact hx
  show (pure (env.blockKind == .function && env.kindOf x == some .local && p.line == cpos.line && !(σ.names.any fun (n, k) => n == x && (k == .local || k == .cell))) : Sem Bool) = pure false
  rw [e2]
  cases env.blockKind == .function <;> rfl

end
end Mine
end

section
open PySem PySem.W PyProof.Rows PySem.SeqAt
set_option maxRecDepth 100000
namespace Mine
section
variable {c : Cx} {n : Nat} {κ : Sta} {sts : List Str} {Xo X : List Addr} {ρ : List (Str × AV)} {s₀ s : Shared} {env : Env}

/-! ## Lambdas -/

/-- the place of a lambda, and its table -/
noncomputable def LamAt (P : Addr) (l col : Nat) (q : Str) : Prop :=
  (P = 89 ∧ l = 91 ∧ col = 31 ∧ q = Str.ofString "_law_liked.<locals>.<lambda>") ∨ (P = 96 ∧ l = 94 ∧ col = 32 ∧ q = Str.ofString "_law_best.<locals>.<lambda>")
theorem LamAt.tab {P : Addr} {l col : Nat} {q : Str} (L : LamAt P l col q) {h : Heap} (G : Gl c h) : TabOk h P l col q := by
  rcases L with ⟨rfl, rfl, rfl, rfl⟩ | ⟨rfl, rfl, rfl, rfl⟩
  · exact G.t1
  · exact G.t2
theorem LamAt.mem {P : Addr} {l col : Nat} {q : Str} (L : LamAt P l col q) : P ∈ TABS := by
  rcases L with ⟨rfl, _⟩ | ⟨rfl, _⟩ <;> decide

theorem TabOk.other {h h' : Heap} {P P' : Addr} {l col : Nat} {q : Str} (t : TabOk h P' l col q) (hne : P' ≠ P) (hP : P ∈ TABS) (hs : Heap.ExtBut P h h') : TabOk h' P' l col q :=
  let ⟨ps, e, r⟩ := t.tab
  ⟨ps, hs _ _ hne e, r.imp id fun ⟨k, e1, e2, k', o, vs, tt, e3, e4, e5, e6⟩ => ⟨k, e1, e2, k', o, vs, tt, e3, hs k' o (fun z => e2 (by cases e3; exact z ▸ hP)) e4, e5, e6⟩⟩

theorem Gl.tabbed {h h' : Heap} {P : Addr} {ps : Array Value} {l col : Nat} {q : Str} {k : Addr} (G : Gl c h) (L : LamAt P l col q) (hP : h.get? P = some (tabObj ps)) (hs : Heap.ExtBut P h h') (hP' : h'.get? P = some (tabObj #[rawInt l, rawInt col, .ref k])) (hk : k ∉ TABS) (hc : h'.CodeRec (.ref k) q) : Gl c h' := by
  have nsne : ∀ {a : Addr} {m}, h.Ns a m → a ≠ P := fun ⟨o, es, ep, e, hd, _⟩ z => by rw [z, hP] at e; cases e; cases hd
  refine ⟨fun a o e => hs a o (fun z => ?_) (G.k a o e), G.nt, G.g.extBut hs (nsne G.g), G.b.extBut hs (nsne G.b), G.bb, ?_, ?_, ?_, ?_⟩
  · have e2 := G.k a o e
    rw [z, hP] at e2; cases e2
    have := List.all_eq_true.mp G.nt (a, tabObj ps) (mem_of_lookupK e)
    simp at this
  · obtain ⟨m, n, r⟩ := G.nl
    exact ⟨m, n.extBut hs (nsne n), r⟩
  · obtain ⟨x, o, e, q1, q2, q3, r⟩ := G.bm
    exact ⟨x, o, e, q1, hs x _ (fun z => by rw [z, hP] at q2; cases q2; cases q3) q2, q3, r⟩
  · rcases L with ⟨rfl, rfl, rfl, rfl⟩ | ⟨rfl, rfl, rfl, rfl⟩
    · exact ⟨_, hP', .inr ⟨k, rfl, hk, hc⟩⟩
    · exact G.t1.other (by decide) (by decide) hs
  · rcases L with ⟨rfl, rfl, rfl, rfl⟩ | ⟨rfl, rfl, rfl, rfl⟩
    · exact G.t2.other (by decide) (by decide) hs
    · exact ⟨_, hP', .inr ⟨k, rfl, hk, hc⟩⟩

theorem AV.R.nilX {h : Heap} {v : Value} : ∀ {av : AV}, av.at? = none → av.R c h X v → av.R c h [] v := by
  intro av e r
  cases av with
  | dat d => exact Rd.sub r nofun
  | own b xs => cases e
  | inst k => exact InstR.sub r nofun
  | fnp => exact r

/-- a made lambda, called -/
theorem lam_call {f : Addr} {name qual : Str} {params : Arguments} {body : Expr} {σ : Scope} {cl : List (Str × Addr)} {pm cdv ct : Value} {pn : Str} {ρ0 : List (Str × AV)} {dom : List PyData} {p : PyData → Bool} {h : Heap}
    (hf : h.get? f = some { cls := .type "function", data := .func (kla_fn name qual params body σ cl pm cdv ct) }) (hcd : h.CodeRec cdv qual) (hct : ∀ k, cdv = .ref k → k ∉ TABS) (hclo : ClosOk c h [] cl ρ0) (hclx : ∀ x a, cl.lookup x = some a → ∃ o, h.get? a = some o)
    (hρ : ∀ q ∈ ρ0, q.2.at? = none ∧ (q.1, NameKind.free) ∈ σ.names) (hn : n < 70)
    (hbind : ∀ v : Value, bindArgs (kla_fn name qual params body σ cl pm cdv ct) ⟨[v], []⟩ = pure [(pn, v)]) (hσ : scopeOk σ = true) (hk : σ.kind = .function) (hco : σ.isCoroutine = false) (hgen : σ.isGenerator = false)
    (hpn : stOk ⟨σ, cdv, qual ++ ".<locals>."⟩ (cellNames σ) pn = true)
    (hb : ∀ x ∈ dom, Ev c n ⟨σ, cdv, qual ++ ".<locals>."⟩ [] ((pn, .dat x) :: ρ0) body (.dat (.bool (p x)))) : FnpR c h (.ref f) (n + 1) dom p := by
  refine ⟨⟨f, _, _, rfl, hf, rfl, rfl⟩, fun s x vx Q E hx G hm r k => ?_⟩
  refine wpAny_call (kla_callFunE (fd := kla_fn name qual params body σ cl pm cdv ct) (body := body) ?_ (hx.getC hf (by nofun)) rfl hco hgen rfl (hx.code hct hcd) ?_)
  · show 800 - (n + 1) < 1000; omega
  rw [hbind vx]
  refine wpAny_pure (wp_newEnv fun env he => ?_)
  have S := SInv.start (c := c) (κ := ⟨σ, cdv, qual ++ ".<locals>."⟩) (X := []) (ρ := ρ0) (s₀ := s) (s := s) (env := env) (scope := σ) (cls := .type "frame") (closure := cl) (sts := cellNames σ) G (.refl G) nofun hσ (by rw [he]; rfl) hk (by rw [he]; rfl) (by rw [he]; rfl) (by rw [he]; rfl) (by rw [he]; rfl) (by rw [he]; rfl)
    (by rw [he]; rfl) (fun x av e => let ⟨a, v, e1, e2, e3⟩ := hclo x av e; ⟨a, v, e1, hx.cell e2, e3.ext hx⟩)
    (fun x av e => let ⟨g1, g2⟩ := hρ (x, av) (mem_of_lookupA e); ⟨.inr (scopeOk.at hσ g2), scopeOk.at hσ g2, g1⟩) (fun x hx => ⟨cellNames.mem hx, scopeOk.at hσ (cellNames.mem hx)⟩) (fun x a e => let ⟨o, q⟩ := hclx x a e; hx.dom q)
  refine bind_run (names := [pn]) (as := [.dat x]) (vs := [vx]) (s₀ := s) S ⟨r, trivial⟩ rfl (fun y hy => by rcases List.mem_singleton.mp hy with rfl; exact hpn) (fun a ha => by rcases List.mem_singleton.mp ha with rfl; rfl) fun s' I' => ?_
  refine ⟨I'.G.nl, kla_codeExpr (lv_le ?_ hn)⟩
  refine hb x hm env s' _ _ I'.inv fun v s2 x2 r2 => ?_
  rw [Rd.bool_inv r2]
  exact k s2 (I'.ext x2).ret

theorem Ev.lambda {params : Arguments} {body : Expr} {σ : Scope} {pos : Pos} {pn : Str} {P cA : Addr} {ρ0 : List (Str × AV)} {dom : List PyData} {p : PyData → Bool} {n' : Nat}
    (F : Frees κ ρ σ.names ρ0) (hcode : κ.code = .ref cA) (hC : codeHdIn c.K cA P = true) (L : LamAt P pos.line pos.col (κ.qual ++ "<lambda>")) (hdef : ∀ env, defaultsOf params env = ([], [])) (hn : n' < 70)
    (hbind : ∀ name qual cl pm cdv ct (v : Value), bindArgs (kla_fn name qual params body σ cl pm cdv ct) ⟨[v], []⟩ = pure [(pn, v)]) (hσ : scopeOk σ = true) (hk : σ.kind = .function) (hco : σ.isCoroutine = false) (hgen : σ.isGenerator = false)
    (hpn : ∀ cd q, stOk ⟨σ, cd, q⟩ (cellNames σ) pn = true)
    (hb : ∀ cd q, ∀ x ∈ dom, Ev c n' ⟨σ, cd, q⟩ [] ((pn, .dat x) :: ρ0) body (.dat (.bool (p x)))) : Ev c n κ X ρ (.Lambda params body σ pos) (.fnp (n' + 1) dom p) := fun env s Q E I k => by
  obtain ⟨cl, hcl, hclo, hclx⟩ := F.closure I
  have hρ : ∀ q ∈ ρ0, q.2.at? = none ∧ (q.1, NameKind.free) ∈ σ.names := fun q hq => let ⟨_, _, g3, g4⟩ := F.mem q hq; ⟨g3, g4⟩
  have hclo0 : ClosOk c s.heap [] cl ρ0 := fun x av e => let ⟨a, v, e1, e2, e3⟩ := hclo x av e; ⟨a, v, e1, e2, e3.nilX (hρ (x, av) (mem_of_lookupA e)).1⟩
  refine kla_eval (hdef env) ?_
  obtain ⟨ps, hP, hps⟩ := (L.tab I.G).tab
  have hPm := L.mem
  have hgP : mainGlobals ≠ P := fun z => by
    obtain ⟨o, es, ep, e, hd, _⟩ := I.G.g
    rw [z, hP] at e; cases e; cases hd
  obtain ⟨bm, ob, b1, b2, b3, b4, b5, b6⟩ := I.G.bm
  have hbP : bm ≠ P := fun z => by rw [z, hP] at b3; cases b3; cases b4
  have hbG : bm ≠ mainGlobals := fun z => by
    obtain ⟨o, es, ep, e, hd, _⟩ := I.G.g
    rw [z, e] at b3; cases b3; rw [hd] at b6; cases b6
  have hcode' : env.code = .ref cA := I.co.trans hcode
  have hq : env.qual ++ "<lambda>" = κ.qual ++ "<lambda>" := by rw [I.qu]
  rw [hq]
  rcases hps with rfl | ⟨kk, rfl, hkT, hkc⟩
  · refine kla_makeFunction hcl I.gl I.G.g hcode' (codeHd_of_K I.G.k hC) hP trivial rfl hgP ⟨bm, ob, b1, b2, hbG, hbP, b3, b4, b5, b6⟩ fun c' ctv h' tk hx hge hlt hrec htb => ?_
    have hc' : c' ∉ TABS := fun m => by
      have t1 := I.G.t1.tab
      have t2 := I.G.t2.tab
      obtain ⟨_, e1, _⟩ := t1
      obtain ⟨_, e2, _⟩ := t2
      have l1 := Heap.lt_size e1
      have l2 := Heap.lt_size e2
      simp [TABS] at m
      rcases m with rfl | rfl
      · exact absurd hge (Nat.not_le.mpr l2)
      · exact absurd hge (Nat.not_le.mpr l1)
    have htb' : h'.get? P = some (tabObj #[rawInt pos.line, rawInt pos.col, .ref c']) := by rw [htb]; rfl
    have G' := I.G.tabbed L hP hx htb' hc' hrec
    have x1 : Ext c s { s with heap := h', toks := tk } := ⟨fun b o e => by
      by_cases hb : b = P
      · subst hb
        rw [hP] at e; cases e
        exact .inr ⟨hPm, #[], _, rfl, htb⟩
      · exact .inl (hx b o hb e), rfl, rfl, G'⟩
    have x2 := ext_push x1.gl (kla_obj (Str.ofString "<lambda>") (κ.qual ++ "<lambda>") params body σ cl ((c.mg "__name__").getD .none) c' ctv)
    have X2 := x1.trans x2
    refine k _ _ X2 ?_
    exact lam_call (Heap.get?_push_size _ rfl) (hrec.keeps fun b o e => Heap.get?_push_of_some _ e) (fun k e => by cases e; exact hc') (fun x av e => let ⟨a, v, e1, e2, e3⟩ := hclo0 x av e; ⟨a, v, e1, X2.hx.cell e2, e3.ext X2.hx⟩) (fun x a e => let ⟨o, q⟩ := hclx x a e; X2.hx.dom q) hρ hn
      (fun v => hbind _ _ _ _ _ _ v) hσ hk hco hgen (hpn _ _) (hb _ _)
  · have hfind : codeAmong pos (#[rawInt pos.line, rawInt pos.col, .ref kk] : Array Value).toList = some (.ref kk) := by
      show (if ((pos.line : Int) == pos.line && (pos.col : Int) == pos.col) = true then some (Value.ref kk) else _) = _
      simp
    refine kla_makeFunctionHit hcl I.gl I.G.g hcode' (codeHd_of_K I.G.k hC) hP trivial hfind ⟨bm, ob, b1, b2, hbG, hbP, b3, b4, b5, b6⟩ fun ctv h' tk hx hsz => ?_
    have x1 : Ext c s { s with heap := h', toks := tk } := .keep I.G hx
    have x2 := ext_push x1.gl { cls := .type "function", data := .func (kla_fn (Str.ofString "<lambda>") (κ.qual ++ "<lambda>") params body σ cl ((c.mg "__name__").getD .none) (.ref kk) ctv) }
    have X2 := x1.trans x2
    refine k _ _ X2 ?_
    exact lam_call (Heap.get?_push_size _ rfl) ((hkc.keeps hx).keeps fun b o e => Heap.get?_push_of_some _ e) (fun k e => by cases e; exact hkT) (fun x av e => let ⟨a, v, e1, e2, e3⟩ := hclo0 x av e; ⟨a, v, e1, X2.hx.cell e2, e3.ext X2.hx⟩) (fun x a e => let ⟨o, q⟩ := hclx x a e; X2.hx.dom q) hρ hn
      (fun v => hbind _ _ _ _ _ _ v) hσ hk hco hgen (hpn _ _) (hb _ _)

end
end Mine
end

section
open PySem PySem.W PyProof.Rows PySem.SeqAt
set_option maxRecDepth 100000
namespace Mine

/-! ## The class -/

structure Tc (K : Frag) : Prop where
  mks : makesIn K 38 = true
  init : findIn K (.ref 38) "__init__" = some (some (.ref 28))
  fty : typeIn K (.ref 28) = some (.type "function")
  fn : ∃ fd p1 p2 p3 p4, FnOk K 28 fd [Str.ofString "self", Str.ofString "comp_select_list"] [.Assign [.Attribute (.Name (Str.ofString "self") p1) (Str.ofString "comp_select_list") p2] (.Name (Str.ofString "comp_select_list") p3) p4] ∧
    (∀ x ∈ fd.scope.names, x.2 ≠ .cell) ∧ fd.scope.names.lookup (Str.ofString "self") = some .local ∧ fd.scope.names.lookup (Str.ofString "comp_select_list") = some .local
  ga : findIn K (.ref 38) "__getattribute__" = some (some (.builtin "object.__getattribute__"))
  gt : findIn K (.ref 38) "__getattr__" = some none
  st : findIn K (.ref 38) "__setattr__" = some (some (.builtin "object.__setattr__"))
  plain : plainOver K 38 = true
  taker : takerIn K 38 (Str.ofString "comp_select_list") = some none
  has : hasDictIn K 38 = true
  fa : findIn K (.ref 38) (Str.ofString "comp_select_list") = some none
  cmp : findIn K (.ref 38) (Str.ofString "compare") = some (some (.ref 35))
  cty : typeIn K (.ref 35) = some (.type "function")
  keep : keepIn K (.ref 38) = true

section
variable {c : Cx} {n : Nat} {κ : Sta} {sts : List Str} {Xo X : List Addr} {ρ : List (Str × AV)} {s₀ s : Shared} {env : Env}

theorem inst_at {h : Heap} {v : Value} {k : PyData} (r : InstR h X v k) : ∃ x dx hsh t vk m, v = .ref x ∧ InstAt h x (instObj 38 dx) 38 (some (dictOf [⟨hsh, .str (Str.ofString "comp_select_list") t, vk⟩] m)) ∧ Rd h X vk k :=
  by obtain ⟨x, dx, hsh, t, vk, m, e, e1, e2, r⟩ := r; exact ⟨x, dx, hsh, t, vk, m, e, ⟨e1, rfl, rfl, e2⟩, r⟩

/-- self.comp_select_list -/
theorem Ev.attr {x : Str} {p pos : Pos} {xs : List PyData} (T : Tc c.K) (h : Ev c n κ X ρ (.Name x p) (.inst (.list xs))) : Ev c n κ X ρ (.Attribute (.Name x p) (Str.ofString "comp_select_list") pos) (.dat (.list xs)) := fun env s Q E I k => by
  rw [arm_eval_Attribute]
  refine wpAny_bind (h env s _ E I fun v s1 x1 r => wpAny_bind (wpAny_standAt (wpAny_bind (wpAny_holding ?_))))
  obtain ⟨a, dx, hsh, t, vk, m, rfl, IA, rk⟩ := inst_at r
  obtain ⟨b, its, rfl, _⟩ := Rd.list_inv rk
  refine get_value (K := c.K) (C := 38) x1.gl.k IA T.ga (findObj_own T.has T.fa rfl (v := .ref b) ?_) rfl ?_
  · have : (Value.str (Str.ofString "comp_select_list") t).isStr (Str.ofString "comp_select_list") = true := by simp [Value.isStr]
    simp [lookIn, List.find?, this]
  · exact wpAny_bind (wpAny_letTemporaryGo (wpAny_pure (k _ _ (x1.trans (.toks x1.gl)) rk)))

/-- judge.compare(a, b) -/
theorem Ev.compare {x : Str} {p apos pos : Pos} {es : List Expr} {as : List AV} {keys : PyData} {r : AV} {o : Obj} {fd : FuncData} (T : Tc c.K) (ho : c.K.lookup 35 = some o) (hd : o.data = .func fd) (h : Ev c n κ X ρ (.Name x p) (.inst keys)) (hA : EvAs c n κ X ρ es as) (hf : Fn c n 35 (.inst keys :: as) r)
    (he : ∀ env, ∃ pl, eval (.Call (.Attribute (.Name x p) (Str.ofString "compare") apos) es [] pos) env = (do
      let ov ← eval (.Name x p) env
      standAt apos.atName
      let (f, first) ← holding [ov] (getMethod ov (Str.ofString "compare") pl)
      callWith pos f first (backTo pos (starEach es env)) (backToKw pos (keywordEach [] env))) := by intro env; exact ⟨_, rfl⟩) :
    Ev c n κ X ρ (.Call (.Attribute (.Name x p) (Str.ofString "compare") apos) es [] pos) r := fun env s Q E I k => by
  obtain ⟨pl, he⟩ := he env
  refine methodCall_KW (pl := pl) (h env s _ E I fun v s1 x1 rv => ?_) he
  obtain ⟨a, dx, hsh, t, vk, m, rfl, IA, rk⟩ := inst_at rv
  refine method_fn (K := c.K) x1.gl.k IA T.ga T.gt T.cmp T.cty ?_ ?_
  · show (lookIn (Str.ofString "compare") (dictOf [⟨hsh, .str (Str.ofString "comp_select_list") t, vk⟩] m)).map (·.isSome) = some false
    have : (Value.str (Str.ofString "comp_select_list") t).isStr (Str.ofString "compare") = false := by
      show (Str.ofString "comp_select_list" == Str.ofString "compare") = false
      decide +kernel
    simp [lookIn, List.find?, this, DictEntry.refKey]
  · show wpAny c.M (Lv n) (callWith pos (.ref 35) [.ref a] (backTo pos (starEach es env)) []) Q E s1
    refine Calls.callWith_function (o := o) (fd := fd) (hA.args (I.ext x1) fun vs s2 x2 rs => ⟨⟨x2.gl.k 35 o ho, hd⟩, ?_⟩)
    exact hf X s2 (.ref a :: vs) Q E x2.gl ((I.ext x1).ext x2).al ⟨rv.ext x2.hx, rs⟩ fun w s3 x3 rw => k w s3 ((x1.trans x2).trans x3) rw

theorem init_run {A : Around} {x dx : Addr} {vk : Value} {h : Heap} {p1 p2 p3 p4 : Pos} {env : Env} {Q : Flow → Shared → Prop} {E : Value → Shared → Prop} {m : Str → Option Value} (T : Tc c.K)
    (X0 : c.K.In s.heap) (F : Fr h env.locals s.heap m) (N : News h env.locals s.heap [(dx, emptyDict), (x, instObj 38 dx)]) (hne : x ≠ dx) (hsf : env.scope.kind = .function) (hs1 : env.kindOf (Str.ofString "self") = some .local) (hs2 : env.kindOf (Str.ofString "comp_select_list") = some .local)
    (hm1 : m (Str.ofString "self") = some (.ref x)) (hm2 : m (Str.ofString "comp_select_list") = some vk)
    (k : ∀ h' tk, Keep h h' → h'.get? x = some (instObj 38 dx) → (∃ hsh t n, h'.get? dx = some (dictOf [⟨hsh, .str (Str.ofString "comp_select_list") t, vk⟩] n)) → Q .next { s with heap := h', toks := tk }) :
    wpAny c.M A (execs [.Assign [.Attribute (.Name (Str.ofString "self") p1) (Str.ofString "comp_select_list") p2] (.Name (Str.ofString "comp_select_list") p3) p4] env) Q E s := by
  refine wpAny_execs_cons (wpAny_Assign_stores ?_ rfl rfl)
  refine wpAny_Name (wpAny_loadName_local hsf hs2 F.ns hm2 ?_) (by decide +kernel)
  show wpAny c.M A (PySem.assign (.Attribute (.Name (Str.ofString "self") p1) (Str.ofString "comp_select_list") p2) env vk) _ _ s
  rw [arm_assign_Attribute]
  refine wpAny_bind (wpAny_holding (wpAny_Name (wpAny_loadName_local hsf hs1 F.ns hm1 ?_) (by decide +kernel)))
  have hx := (N (x, instObj 38 dx) (by simp)).1
  have hdx := (N (dx, emptyDict) (by simp)).1
  have IA : InstAt s.heap x (instObj 38 dx) 38 (some emptyDict) := ⟨hx, rfl, rfl, hdx⟩
  refine wpAny_bind (wpAny_standAt (wpAny_bind (wpAny_holding (set_plain (K := c.K) X0 IA T.st ?_))))
  refine osa_dict (K := c.K) (C := 38) (h₀ := h) (L := env.locals) (m := m) (pre := []) (post := [(x, instObj 38 dx)]) (od := emptyDict) (od' := dictOf [⟨PyData.keyHash c.w.params (Str.ofString "comp_select_list"), .str (Str.ofString "comp_select_list") (s.toks + 1), vk⟩] 1) (es := [⟨PyData.keyHash c.w.params (Str.ofString "comp_select_list"), .str (Str.ofString "comp_select_list") (s.toks + 1), vk⟩]) (n := 1)
    F N X0 IA rfl T.plain T.taker T.has rfl (by simp) (by simpa using hne) ?_ rfl (by simp) fun h' F' N' => ?_
  · rfl
  · refine wpAny_release (wpAny_execs_nil (k h' _ F'.keep (N' (x, instObj 38 dx) (by simp)).1 ⟨_, _, _, (N' _ (.head _)).1⟩))

/-- TupleComp(keys) -/
theorem fn_inst {keys : PyData} (T : Tc c.K) (hn : n < 70) : OpN c n X (fun vs => PySem.call (.ref 38) vs) [.dat keys] (.inst keys) := fun s vs Q E G al rs k => by
  obtain ⟨vk, rfl, rk⟩ := rs.one
  obtain ⟨fd, p1, p2, p3, p4, FO, hcell, hl1, hl2⟩ := T.fn
  obtain ⟨o, ho, hd⟩ := FO.at'
  obtain ⟨h, g, d, t, os⟩ := s
  refine wpAny_call (make_core (makes_of (M := c.M) G.k T.mks) (looks_findIn G.k T.init) (fun self => bind_fn G.k self T.fty) (.inl rfl) ?_)
  have kp : Keep h ((h.push emptyDict).push (instObj 38 h.objs.size)) := fun b o e => Heap.get?_push_of_some _ (Heap.get?_push_of_some _ e)
  have G2 := G.keeps kp
  refine codeAny_call_def (fd := fd) (binds := [(Str.ofString "self", .ref (h.objs.size + 1)), (Str.ofString "comp_select_list", vk)]) ?_ (G2.k _ _ ho) hd G2.nl (codeRec_of G2.k FO.code) FO.body' (.of_eq (FO.bind [_, _] rfl)) hcell (fun x hx => ?_) (fun h₀ hns hk => ?_) FO.co FO.gen FO.kind
  · have e : (Code.builtin "type.__call__" ⟨[.ref 38, vk], []⟩).weight = 1 := by rfl
    show 800 - n + (Code.builtin "type.__call__" ⟨[.ref 38, vk], []⟩).weight < 1000
    omega
  · simp at hx
    rcases hx with rfl | rfl
    · exact hl1
    · exact hl2
  · have hsz : ((h.push emptyDict).push (instObj 38 h.objs.size)).objs.size = h.objs.size + 2 := by simp [Heap.size_push]
    refine init_run (c := c) (h := h) (x := h.objs.size + 1) (dx := h.objs.size) (vk := vk) T (fun a o e => hk _ _ (G2.k a o e)) ⟨hns, fun b o e => hk _ _ (kp b o e), ?_⟩ (fun p hp => ?_) (by simp) ?_ hl1 hl2 rfl rfl fun h' tk k1 k2 k3 => ?_
    · show h.objs.size ≤ ((h.push emptyDict).push (instObj 38 h.objs.size)).objs.size
      rw [hsz]; omega
    · simp at hp
      rcases hp with rfl | rfl
      · refine ⟨hk _ _ (Heap.get?_push_of_some _ (Heap.get?_push_size _ rfl)), ?_, fresh_size _⟩
        show h.objs.size ≠ ((h.push emptyDict).push (instObj 38 h.objs.size)).objs.size
        rw [hsz]; omega
      · refine ⟨hk _ _ ?_, ?_, Heap.get?_none_of_le (Nat.le_succ _)⟩
        · have := Heap.get?_push_size (h.push emptyDict) (o := instObj 38 h.objs.size) rfl
          rwa [Heap.size_push] at this
        · show h.objs.size + 1 ≠ ((h.push emptyDict).push (instObj 38 h.objs.size)).objs.size
          rw [hsz]; omega
    · exact FO.kind
    · obtain ⟨hsh, t', m, e⟩ := k3
      have x1 : Ext c ⟨h, g, d, t, os⟩ { heap := h', gens := g, drawn := d, toks := tk, os := os } := .keep (s := ⟨h, g, d, t, os⟩) (tk := tk) G k1
      exact ⟨rfl, k _ _ x1 ⟨_, _, hsh, t', vk, m, rfl, k2, e, Rd.ext rk x1.hx⟩⟩
end
end Mine
end

section
open PySem PySem.W PyProof.Rows PySem.SeqAt
set_option maxRecDepth 100000
namespace Mine
section
variable {c : Cx} {n : Nat} {κ : Sta} {sts : List Str} {Xo X : List Addr} {ρ : List (Str × AV)} {s₀ s : Shared} {env : Env}

/-! ## To forget -/

/-- ρ' knows no more than ρ -/
noncomputable def Less (ρ ρ' : List (Str × AV)) : Prop := ∀ y av, ρ'.lookup y = some av → ρ.lookup y = some av
theorem Less.refl (ρ : List (Str × AV)) : Less ρ ρ := fun _ _ e => e
theorem Less.owned {ρ' : List (Str × AV)} (l : Less ρ ρ') (a : Addr) : Owned ρ' a → Owned ρ a := fun ⟨x, xs, e⟩ => ⟨x, xs, l x _ e⟩
theorem SInv.less {ρ' : List (Str × AV)} (I : SInv c κ sts s₀ X ρ env s) (l : Less ρ ρ') : SInv c κ sts s₀ X ρ' env s :=
  ⟨I.sc, I.fk, I.gl, I.bu, I.co, I.qu, I.G, (let ⟨m, h, r⟩ := I.ns; ⟨m, h, fun y av e k => r y av (l y av e) k⟩), fun y av e k => I.cl y av (l y av e) k, I.al, I.G0, I.base, I.gens, I.os, I.lf, fun x a xs e => I.ow x a xs (l x _ e), fun x a xs e => I.ol x a xs (l x _ e), I.st⟩
theorem Less.skip {x : Str} {av : AV} (h : ρ.lookup x = none) : Less ((x, av) :: ρ) ρ := fun y b e => by
  rw [lookup_cons_eq]
  by_cases hy : y = x
  · rw [hy, h] at e; cases e
  · rw [if_neg hy]; exact e
theorem Less.trans {ρ1 ρ2 : List (Str × AV)} (a : Less ρ ρ1) (b : Less ρ1 ρ2) : Less ρ ρ2 := fun y av e => a y av (b y av e)
theorem Less.cons {x : Str} {av : AV} {ρ' : List (Str × AV)} (h : ρ.lookup x = some av) (l : Less ρ ρ') : Less ρ ((x, av) :: ρ') := fun y b e => by
  rw [lookup_cons_eq] at e
  by_cases hy : y = x
  · rw [if_pos hy] at e; cases e; rw [hy]; exact h
  · rw [if_neg hy] at e; exact l y b e
theorem Less.nil : Less ρ [] := fun _ _ e => by cases e

theorem Sx.less {st : Stmt} {X' : List Addr} {ρ1 ρ2 : List (Str × AV)} (h : Sx c n κ sts Xo X ρ st (.next X' ρ1)) (l : Less ρ1 ρ2) : Sx c n κ sts Xo X ρ st (.next X' ρ2) :=
  fun s₀ env s Q E h1 h2 I k => h s₀ env s Q E h1 h2 I fun s' I' h2' mv hg => k s' (I'.less l) h2' mv fun a ha => hg a (l.owned a ha)
theorem Ex.less {ss : List Stmt} {X' : List Addr} {ρ1 ρ2 : List (Str × AV)} (h : Ex c n κ sts Xo X ρ ss (.next X' ρ1)) (l : Less ρ1 ρ2) : Ex c n κ sts Xo X ρ ss (.next X' ρ2) :=
  fun s₀ env s Q E h1 h2 I k => h s₀ env s Q E h1 h2 I fun s' I' h2' mv hg => k s' (I'.less l) h2' mv fun a ha => hg a (l.owned a ha)
theorem Tg.less {t : Expr} {av : AV} {ρ1 ρ2 : List (Str × AV)} (h : Tg c n κ sts X ρ t av ρ1) (l : Less ρ1 ρ2) : Tg c n κ sts X ρ t av ρ2 :=
  fun s₀ env s v Q E I r k => h s₀ env s v Q E I r fun s' I' h1 mv ho => k s' (I'.less l) h1 mv fun a ha => ho a (l.owned a ha)
/-- agrees but for x -/
noncomputable def Off (x : Str) (ρ ρ0 : List (Str × AV)) : Prop := ∀ y, y ≠ x → ρ.lookup y = ρ0.lookup y
theorem Off.refl (x : Str) (ρ : List (Str × AV)) : Off x ρ ρ := fun _ _ => rfl
theorem Off.cons (x : Str) (av : AV) (ρ : List (Str × AV)) : Off x ((x, av) :: ρ) ρ := fun y h => by rw [lookup_cons_eq, if_neg h]
theorem Off.less {x : Str} {av : AV} {ρ0 : List (Str × AV)} (h : Off x ρ ρ0) : Less ((x, av) :: ρ) ((x, av) :: ρ0) := fun y b e => by
  rw [lookup_cons_eq] at e ⊢
  by_cases hy : y = x
  · rw [if_pos hy] at e ⊢; exact e
  · rw [if_neg hy] at e ⊢; rw [h y hy]; exact e
theorem Tg.nameN {x : Str} {pos : Pos} {d : PyData} {ρ0 : List (Str × AV)} (hx : stOk κ sts x = true) (h : Off x ρ ρ0) : Tg c n κ sts X ρ (.Name x pos) (.dat d) ((x, .dat d) :: ρ0) := (Tg.name hx).less h.less

/-! ## Comprehensions over any list -/

theorem Lp.map {x : Str} {p : Pos} {ifs : List Expr} {elt : Expr} {ρ0 : List (Str × AV)} {g : PyData → Bool} {f : PyData → PyData} (hx : stOk κ sts x = true) : ∀ (ds : List PyData) (ρ : List (Str × AV)), Off x ρ ρ0 →
    (∀ d ∈ ds, TsL c n κ X ((x, .dat d) :: ρ0) ifs (g d) ∧ (g d = true → Ev c n κ X ((x, .dat d) :: ρ0) elt (.dat (f d)))) → ∃ ρ', Lp c n κ sts X (.Name x p) ifs (B1 c n κ X elt) ds ρ ρ' ((ds.filter g).map f)
  | [], ρ, _, _ => ⟨ρ, .nil ρ⟩
  | d :: ds, ρ, ho, h => by
    obtain ⟨h1, h2⟩ := h d (.head _)
    obtain ⟨ρ', L⟩ := Lp.map hx ds ((x, .dat d) :: ρ0) (.cons x _ ρ0) fun e he => h e (.tail _ he)
    refine ⟨ρ', ?_⟩
    cases hg : g d with
    | true =>
      rw [List.filter_cons_of_pos hg, List.map_cons]
      rw [hg] at h1
      exact .take (Tg.nameN hx ho) h1 ⟨rfl, _, h2 hg, rfl⟩ L
    | false =>
      rw [List.filter_cons_of_neg (by rw [hg]; simp)]
      rw [hg] at h1
      exact .skip (Tg.nameN hx ho) h1 L

/-- a comprehension of one clause over a name -/
theorem Cp.map {elt iter : Expr} {x : Str} {p : Pos} {ifs : List Expr} {σ : Scope} {ds : List PyData} {ρ0 : List (Str × AV)} {g : PyData → Bool} {f : PyData → PyData} (hi : EvIt c n κ X ρ iter ds) (F : Frees κ ρ σ.names ρ0) (hx : stOk (κ.comp σ) (cellNames σ) x = true) (hz : ds.length ≤ 1000)
    (h : ∀ D, D ∉ X → ∀ d ∈ ds, TsL c n (κ.comp σ) (D :: X) ((x, .dat d) :: ρ0) ifs (g d) ∧ (g d = true → Ev c n (κ.comp σ) (D :: X) ((x, .dat d) :: ρ0) elt (.dat (f d))))
    (hσ : scopeOk σ = true := by decide +kernel) (hk : σ.kind = .function := by rfl) (hs : notSet iter = true := by rfl) : Cp c n κ X ρ elt [⟨.Name x p, iter, ifs, 0⟩] σ ((ds.filter g).map f) :=
  Cp.one hi F (fun D hD => Lp.map hx ds ρ0 (.refl _ _) (h D hD)) (by rw [List.length_map]; exact Nat.le_trans (List.length_filter_le _ _) (Nat.le_trans hz (by decide))) hσ hk hs
/-- and without a test -/
theorem Cp.map0 {elt iter : Expr} {x : Str} {p : Pos} {σ : Scope} {ds : List PyData} {ρ0 : List (Str × AV)} {f : PyData → PyData} (hi : EvIt c n κ X ρ iter ds) (F : Frees κ ρ σ.names ρ0) (hx : stOk (κ.comp σ) (cellNames σ) x = true) (hz : ds.length ≤ 1000)
    (h : ∀ D, D ∉ X → ∀ d ∈ ds, Ev c n (κ.comp σ) (D :: X) ((x, .dat d) :: ρ0) elt (.dat (f d)))
    (hσ : scopeOk σ = true := by decide +kernel) (hk : σ.kind = .function := by rfl) (hs : notSet iter = true := by rfl) : Cp c n κ X ρ elt [⟨.Name x p, iter, [], 0⟩] σ (ds.map f) := by
  have := Cp.map (g := fun _ => true) (f := f) (ifs := []) (p := p) (elt := elt) hi F hx hz (fun D hD d hd => ⟨rfl, fun _ => h D hD d hd⟩) hσ hk hs
  rwa [List.filter_eq_self.mpr fun _ _ => rfl] at this

/-- over pairs -/
theorem Cp.pairs {elt iter : Expr} {x y : Str} {p q tp : Pos} {k : Nat} {σ : Scope} {ps : List (PyData × PyData)} {ρ0 : List (Str × AV)} {f : PyData → PyData → PyData} (hi : EvIt c n κ X ρ iter (ps.map fun r => .tuple [r.1, r.2])) (F : Frees κ ρ σ.names ρ0)
    (hx : stOk (κ.comp σ) (cellNames σ) x = true) (hy : stOk (κ.comp σ) (cellNames σ) y = true) (hz : ps.length ≤ 1000)
    (h : ∀ D, D ∉ X → ∀ r ∈ ps, Ev c n (κ.comp σ) (D :: X) ((y, .dat r.2) :: (x, .dat r.1) :: ρ0) elt (.dat (f r.1 r.2)))
    (hσ : scopeOk σ = true := by decide +kernel) (hk : σ.kind = .function := by rfl) (hs : notSet iter = true := by rfl) : Cp c n κ X ρ elt [⟨.Tuple [.Name x p, .Name y q] k tp, iter, [], 0⟩] σ (ps.map fun r => f r.1 r.2) := by
  refine Cp.one hi F (fun D hD => ?_) (by rw [List.length_map]; exact Nat.le_trans hz (by decide)) hσ hk hs
  have key : ∀ (l : List (PyData × PyData)) (ρ1 : List (Str × AV)), (∀ z, z ≠ x → z ≠ y → ρ1.lookup z = ρ0.lookup z) → (∀ r ∈ l, Ev c n (κ.comp σ) (D :: X) ((y, .dat r.2) :: (x, .dat r.1) :: ρ0) elt (.dat (f r.1 r.2))) →
      ∃ ρ', Lp c n (κ.comp σ) (cellNames σ) (D :: X) (.Tuple [.Name x p, .Name y q] k tp) [] (B1 c n (κ.comp σ) (D :: X) elt) (l.map fun r => .tuple [r.1, r.2]) ρ1 ρ' (l.map fun r => f r.1 r.2) := by
    intro l
    induction l with
    | nil => intro ρ1 _ _; exact ⟨ρ1, .nil ρ1⟩
    | cons r l ih =>
      intro ρ1 ho hl
      have ho' : ∀ z, z ≠ x → z ≠ y → ((y, AV.dat r.2) :: (x, AV.dat r.1) :: ρ0).lookup z = ρ0.lookup z := fun z h1 h2 => by rw [lookup_cons_eq, if_neg h2, lookup_cons_eq, if_neg h1]
      obtain ⟨ρ', L⟩ := ih _ ho' fun e he => hl e (.tail _ he)
      refine ⟨ρ', ?_⟩
      rw [List.map_cons, List.map_cons]
      refine .take (ρ1 := (y, .dat r.2) :: (x, .dat r.1) :: ρ0) (o := [f r.1 r.2]) (Tg.less (Tg.pair (Tg.name hx) (Tg.name hy)) fun z b e => ?_) rfl ⟨rfl, _, hl r (.head _), rfl⟩ L
      rw [lookup_cons_eq, lookup_cons_eq] at e ⊢
      by_cases h2 : z = y
      · rw [if_pos h2] at e ⊢; exact e
      · rw [if_neg h2] at e ⊢
        by_cases h1 : z = x
        · rw [if_pos h1] at e ⊢; exact e
        · rw [if_neg h1] at e ⊢; rw [ho z h1 h2]; exact e
  exact key ps ρ0 (fun _ _ _ => rfl) (h D hD)

/-! ## Loops that leave nothing behind -/

/-! ## A new list that is kept as it is -/

theorem Ex.assignD {x : Str} {p pos cpos : Pos} {elt : Expr} {gens : List Comprehension} {σ : Scope} {xs : List PyData} {rest : List Stmt} {o : Out} (C : Cp c n κ X ρ elt gens σ xs) (hx : κ.kd x = some .local)
    (hr : Ex c n κ sts Xo X ((x, .dat (.list xs)) :: ρ) rest o)
    (hsw : (p.line == cpos.line && !(σ.names.any fun (n, k) => n == x && (k == .local || k == .cell))) = true := by decide +kernel) :
    Ex c n κ sts Xo X ρ (.Assign [.Name x p] (.ListComp elt gens σ cpos) pos :: rest) o := fun s₀ env s Q E h1 h2 I k => by
  have hsw' : swapsWith (.ListComp elt gens σ cpos) (some (.Name x p)) pos.line env = pure true := by
    have e1 : env.blockKind = .function := by
      unfold Env.blockKind; rw [I.sc, I.fk]; rfl
    have e2 : env.kindOf x = some .local := by show env.scope.names.lookup x = _; rw [I.sc]; exact hx
    show (pure (env.blockKind == .function && env.kindOf x == some .local && p.line == cpos.line && !(σ.names.any fun (n, k) => n == x && (k == .local || k == .cell))) : Sem Bool) = pure true
    rw [e1, e2, Bool.and_assoc, hsw]; rfl
  refine wpAny_execs_cons ?_
  rw [exec_Assign_Name_used _ _ _ _ hsw']
  refine wpAny_bind (wpAny_standAt (wpAny_bind ?_))
  show wpAny _ (Lv n) (do let _ ← comprehension (.ListComp elt gens σ cpos) σ env _ (newList []) (firstAsync gens) (firstIter gens env) (some (PySem.assign (.Name x p) env))) _ _ s
  rw [C.sync]
  refine wpAny_bind (C.run (use := some (PySem.assign (.Name x p) env)) I.inv fun D s' ρ' cenv hD C' => ?_)
  have x1 : Ext c s s' := C'.I.ret
  obtain ⟨its, ⟨kk, hg⟩, ra⟩ := C'.L
  have I1 := I.ext x1
  obtain ⟨mC, hmC⟩ := C'.nsL
  have hCs : s.heap.get? cenv.locals = none := C'.I.lf
  have rD : Rd s'.heap X (.ref D) (.list xs) := Rd.list ⟨kk, hg⟩ (ra.sub fun b hb => .tail _ hb) (not_mem_fresh I.al hD)
  refine wpAny_assign_Name (I1.store_local (av := .dat (.list xs)) hx (.inr ⟨rfl, rD⟩) nofun fun s2 I2 _ m2 => ?_)
  have hLC : cenv.locals ≠ env.locals := fun z => by
    obtain ⟨m, ⟨o', es, ep, q, _⟩, _⟩ := I.ns
    rw [← z, hCs] at q; cases q
  obtain ⟨oC, es, ep, eC, dC, rC⟩ := id hmC
  have eC2 : s2.heap.get? cenv.locals = some oC := m2.get eC hLC (fun v z => by rw [dC] at z; cases z) id (fun ps z => by rw [z] at dC; cases dC)
  refine ⟨mC, ⟨oC, es, ep, eC2, dC, rC⟩, fun h' hs => wpAny_pure (wpAny_pure ?_)⟩
  have hno : ¬ Owned ((x, AV.dat (.list xs)) :: ρ) cenv.locals := fun h => by
    obtain ⟨_, ha⟩ := I.softO _ (owned_cons rfl _ h)
    obtain ⟨o, e⟩ := I.al _ ha
    rw [hCs] at e; cases e
  have I3 := I2.any (tk := s2.toks) eC2 (I.base.gone hCs) hs.extBut (fun m => by
    obtain ⟨o, e⟩ := I.al _ m
    rw [hCs] at e; cases e) hLC (fun v z => by rw [dC] at z; cases z) (fun vs z => by rw [dC] at z; cases z) (fun vs n e => by rw [dC] at e; cases e) hno
  exact hr s₀ env _ Q E h1 h2 I3 (k.back (((Mv.ext x1.hx).trans (m2.mono (Y := Owned ρ) nofun) fun _ h => .inl h).skip hs.extBut hCs) fun b hb => .inl (owned_cons rfl b hb))

/-! ## Two owned lists are handed out -/

theorem Sx.retO2 {x y : Str} {p q tp pos : Pos} {k : Nat} {a b : Addr} {xs ys : List PyData} (hx : ρ.lookup x = some (.own a xs)) (hk : κ.kd x = some .local) (hy : ρ.lookup y = some (.own b ys)) (hk2 : κ.kd y = some .local)
    (hd : (x == ("__debug__" : Str)) = false := by decide +kernel) (hn : (x == ("__classdict__" : Str)) = false := by decide +kernel) (hd2 : (y == ("__debug__" : Str)) = false := by decide +kernel) (hn2 : (y == ("__classdict__" : Str)) = false := by decide +kernel) :
    Sx c n κ sts Xo X ρ (.Return (some (.Tuple [.Name x p, .Name y q] k tp)) pos) (.ret (.dat (.tuple [.list xs, .list ys]))) :=
  fun s₀ env s Q E h1 h2 I k => wpAny_Return_some (by
    have hA : EvAs c n κ X ρ [.Name x p, .Name y q] [.own a xs, .own b ys] := .cons (Ev.name hx (.inl hk) hd hn) (.cons (Ev.name hy (.inl hk2) hd2 hn2) .nil)
    refine wpAny_Tuple (hA.run I.inv fun vs s1 x1 r => ?_)
    obtain ⟨v, w, rfl, ⟨e1, ha, its, hl, ra⟩, ⟨e2, hb, its2, hl2, rb⟩⟩ := r.two
    subst e1 e2
    refine ⟨by show 2 ≤ _; decide, ?_⟩
    have xp := ext_push x1.gl { cls := .type "tuple", data := .seq [Value.ref a, Value.ref b].toArray }
    have na : ∀ (z : Str) (d : Addr) (zs : List PyData), ρ.lookup z = some (.own d zs) → d ∉ Xo := fun z d zs hz m => by
      obtain ⟨o, e⟩ := h1 d m
      rw [I.ow z d zs hz] at e; cases e
    refine k _ _ (((I.ext x1).ext xp).ret) (Rd.tuple (items := [Value.ref a, Value.ref b].toArray) ⟨_, Heap.get?_push_size _ rfl, rfl, _, rfl⟩ ?_)
    exact .cons (Rd.list (xp.hx.plain hl) ((ra.ext xp.hx).sub h2) (na x a xs hx)) (.cons (Rd.list (xp.hx.plain hl2) ((rb.ext xp.hx).sub h2) (na y b ys hy)) .nil))

/-! ## TupleComp(e), kept for a last statement -/

theorem Ev.inst {p pos : Pos} {e : Expr} {keys : PyData} (T : Tc c.K) (hn : n < 70) (hk : κ.kd (Str.ofString "TupleComp") = some .globalImplicit) (hg : c.mg (Str.ofString "TupleComp") = some (.ref 38)) (h : Ev c n κ X ρ e (.dat keys)) (hs : notStar e = true := by rfl) :
    Ev c n κ X ρ (.Call (.Name (Str.ofString "TupleComp") p) [e] [] pos) (.inst keys) := fun env s Q E I k => by
  rw [eval_call_name]
  refine wpAny_bind (name_global I hk hg ?_ (by decide +kernel))
  have hA : EvAs c n κ X ρ [e] [.dat keys] := .cons h .nil hs
  have hp := hA.plain (pos := pos) (env := env)
  refine callWith_of (P := c.K.In) (by rw [hp]; rfl) (keeps_K T.keep) (hA.args I fun vs s1 x1 rs => ⟨x1.gl.k, ?_⟩)
  exact fn_inst T hn s1 vs Q E x1.gl (I.ext x1).al rs fun v s2 x2 rv => k v s2 (x1.trans x2) rv

theorem Ex.assignRet {x : Str} {p pos pos2 : Pos} {value e : Expr} {keys : PyData} {rest : List Stmt} {d : PyData} (hv : Ev c n κ X ρ value (.inst keys)) (hx : x ∈ sts) (hxl : ∀ a xs, ρ.lookup x ≠ some (.own a xs)) (he : Ev c n κ X ((x, .inst keys) :: ρ) e (.dat d))
    (hs : ∀ env : Env, env.scope = κ.scope → swapsWithSole [.Name x p] value pos.line env = pure false := by intro env h; rfl) (hw : ∀ env, swappedStores [.Name x p] value env = pure none := by intro env; rfl) :
    Ex c n κ sts Xo X ρ (.Assign [.Name x p] value pos :: .Return (some e) pos2 :: rest) (.ret (.dat d)) := fun s₀ env s Q E h1 h2 I k => by
  refine wpAny_execs_cons (wpAny_Assign_stores (hv env s _ E I.inv fun v s1 x1 rv => ?_) (hs env I.sc) (hw env))
  have I1 := I.ext x1
  obtain ⟨kx, a, v₀, hc, h0, hv0, hu⟩ := I1.st x hx
  obtain ⟨o, ho, hd⟩ := id hv0
  show wpAny c.M (Lv n) (PySem.assign (.Name x p) env v) _ E s1
  refine wpAny_assign_Name (wpAny_storeName_cell (by rw [I1.sc]; exact I1.fk) (by show env.scope.names.lookup x = _; rw [I1.sc]; exact kx) hc hv0 fun h' hn' hs => ?_)
  have so : Soft X a o := fun vs n e => by rw [hd] at e; cases e
  have keyN : ∀ {av : AV} {v : Value}, EntOk c s₀.heap s1.heap X av v → EntOk c s₀.heap h' X av v := fun {av v} e => by
    by_cases hq : av.at? = some a
    · have := own_list hq (e.now I1.base)
      obtain ⟨o', ho', _, vs, n, hd'⟩ := this
      rw [ho] at ho'; cases ho'; rw [hd] at hd'; cases hd'
    · exact e.same ho hs.extBut so hq
  have hL : env.locals ≠ a := fun z => by
    obtain ⟨m, ⟨o', es, ep, q, hd', _⟩, _⟩ := I1.ns
    rw [z, ho] at q; cases q; rw [hd] at hd'; cases hd'
  have base' := I1.base.same h0 hs.extBut
  have G' := I1.G0.same I1.G h0 ho (fun vs e => by rw [hd] at e; cases e) hs.extBut
  have rv' : InstR h' X v keys := by
    obtain ⟨y, dy, hsh, t, vk, m, e1, e2, e3, r⟩ := rv
    refine ⟨y, dy, hsh, t, vk, m, e1, hs.extBut y _ (fun z => ?_) e2, hs.extBut dy _ (fun z => ?_) e3, Rd.same ho hs.extBut so r⟩
    · rw [z, ho] at e2; cases e2; cases hd
    · rw [z, ho] at e3; cases e3; cases hd
  have J : Inv c κ X ((x, .inst keys) :: ρ) env { s1 with heap := h' } := by
    refine ⟨I1.sc, I1.fk, I1.gl, I1.bu, I1.co, I1.qu, G', ?_, fun y ay e k => ?_, fun b hb => ?_⟩
    · obtain ⟨m, hn, hm⟩ := I1.ns
      refine ⟨m, hn.sameBut hs hL, fun y ay e k => ?_⟩
      rw [lookup_cons_eq] at e
      have hy : y ≠ x := fun z => by rw [z, kx] at k; cases k
      rw [if_neg hy] at e
      obtain ⟨v', e1, e2⟩ := hm y ay e k
      exact ⟨v', e1, (keyN e2).now base'⟩
    · rw [lookup_cons_eq] at e
      by_cases hy : y = x
      · rw [if_pos hy] at e; cases e
        exact ⟨a, v, hy ▸ hc, hn', rv'⟩
      · rw [if_neg hy] at e
        obtain ⟨b, v', e1, e2, e3⟩ := I1.cl y ay e k
        exact ⟨b, v', e1, e2.sameBut hs fun z => hy (hu y (z ▸ e1)), (keyN e3).now base'⟩
    · obtain ⟨o', e⟩ := I1.al b hb
      by_cases hz : b = a
      · obtain ⟨o2, q, _⟩ := hn'; exact ⟨o2, hz ▸ q⟩
      · exact ⟨o', (hs.2 b hz).trans e⟩
  refine wpAny_execs_cons (wpAny_Return_some (he env _ _ E J fun w s3 x3 rw => ?_))
  exact k w s3 ⟨base'.trans x3.hx, x3.gens.trans I1.gens, x3.os.trans I1.os, x3.gl⟩ (Rd.sub rw h2)

end
end Mine
end

section
open PySem PySem.W PyProof.Rows PySem.SeqAt
set_option maxRecDepth 100000
namespace Mine
section
variable {c : Cx} {n : Nat} {κ : Sta} {sts : List Str} {Xo X : List Addr} {ρ : List (Str × AV)} {s₀ s : Shared} {env : Env}

/-! ## Parts of a str -/

noncomputable def pySlS (x : Str) (lo hi : Option Int) : Str :=
  if (Builtin.Str.strSliceIndices lo hi 1 x.length).length == x.length then x else ⟨((Builtin.Str.strSliceIndices lo hi 1 x.length).filterMap (x.cps[·]?)).toArray⟩

theorem IsPart.val {v : Value} {k : Option Int} (h : IsPart v k) : ∃ l : Option (Int × Tok), v = partValue l ∧ l.map (·.1) = k := by
  cases h with
  | none => exact ⟨none, rfl, rfl⟩
  | int i t => exact ⟨some (i, t), rfl, rfl⟩

theorem Ev.sliceS {v : Expr} {lo hi : Option Expr} {p pos : Pos} {x : Str} {a b : Option Int} (hv : Ev c n κ X ρ v (.dat (.str x))) (hl : EvP c n κ X ρ lo a) (hh : EvP c n κ X ρ hi b) (hz : (pySlS x a b).length ≤ 1000) (ht : ∀ o r, letTemporaryGo v o r = pure () := by intro _ _; rfl) :
    Ev c n κ X ρ (.Subscript v (.Slice lo hi none p) pos) (.dat (.str (pySlS x a b))) :=
  fun env s Q E I k => wpAny_Subscript_str_slice (hv env s _ E I fun va s1 x1 ra => hl.run (I.ext x1) fun vl s2 x2 pl => hh.run ((I.ext x1).ext x2) fun vu s3 x3 pu => by
    obtain ⟨t, rfl⟩ := Rd.str_inv ra
    obtain ⟨l, e1, e2⟩ := IsPart.val pl
    obtain ⟨u, e3, e4⟩ := IsPart.val pu
    refine ⟨x, t, l, u, rfl, e1, e3, ?_⟩
    have xA := (x1.trans x2).trans x3
    have xp := ext_push x3.gl { cls := .type "slice", data := .fields #[vl, vu, .none] }
    have e5 : slicePicked x l u none = Builtin.Str.strSliceIndices a b 1 x.length := by unfold slicePicked; rw [e2, e4]; rfl
    unfold sliceMade
    rw [e5]
    have hk : pySlS x a b = if (Builtin.Str.strSliceIndices a b 1 x.length).length == x.length then x else ⟨((Builtin.Str.strSliceIndices a b 1 x.length).filterMap (x.cps[·]?)).toArray⟩ := rfl
    by_cases hq : ((Builtin.Str.strSliceIndices a b 1 x.length).length == x.length) = true
    · rw [if_pos hq] at hk
      rw [if_pos (by rw [hq]; rfl)]
      rw [hk] at k
      exact k _ _ (xA.trans xp) (Rd.str _ _)
    · rw [if_neg hq] at hk
      rw [if_neg (by intro z; exact hq (Bool.and_eq_true_iff.mp z).2)]
      rw [hk] at k
      refine ⟨?_, k _ _ ((xA.trans xp).trans (.toks xp.gl)) (Rd.str _ _)⟩
      rw [hk] at hz
      exact Nat.le_trans hz (by decide)) ht

theorem Ts.str {e : Expr} {x : Str} (h : Ev c n κ X ρ e (.dat (.str x))) (hz : x.length ≤ 1000) (hv : valTest e = true := by rfl) : Ts c n κ X ρ e ((x.length : Int) != 0) :=
  fun env s Q E I k => wpAny_isTrue_value (h env s _ E I fun v s1 x1 r => by
    obtain ⟨t, rfl⟩ := Rd.str_inv r
    exact P.truthy_str (by omega) (k _ (x1.trans (.toks x1.gl)))) (isTrue_val hv env _)

end

/-! ## sorted, any keys -/

noncomputable def kgo {α : Type} (lt : Nat → Nat → Bool) : KasT α → α
  | .ret a => a
  | .ask i j k => kgo lt (k (lt i j))
noncomputable def kin {α : Type} (n : Nat) : KasT α → Bool
  | .ret _ => true
  | .ask i j k => decide (i < n) && decide (j < n) && kin n (k true) && kin n (k false)
theorem kin_ask {α : Type} {n i j : Nat} {k : Bool → KasT α} (h : kin n (.ask i j k) = true) : i < n ∧ j < n ∧ ∀ b, kin n (k b) = true := by
  simp only [kin, Bool.and_eq_true, decide_eq_true_eq] at h
  exact ⟨h.1.1.1, h.1.1.2, fun b => by cases b; exact h.2; exact h.1.2⟩
theorem kgo_wp {α : Type} {n : Nat} {lt : Nat → Nat → Bool} {cmp : Nat → Nat → (Bool → Shared → Prop) → Shared → Prop} {Q : α → Shared → Prop} {s : Shared} (hc : ∀ i j C, i < n → j < n → C (lt i j) s → cmp i j C s) : ∀ t : KasT α, kin n t = true → Q (kgo lt t) s → t.kasWp cmp Q s
  | .ret _, _, h => h
  | .ask i j k, hk, h => by
    obtain ⟨h1, h2, h3⟩ := kin_ask hk
    exact hc i j _ h1 h2 (kgo_wp hc (k (lt i j)) (h3 _) h)
theorem kgo_congr {α : Type} {n : Nat} {lt lt' : Nat → Nat → Bool} (hc : ∀ i j, i < n → j < n → lt i j = lt' i j) : ∀ t : KasT α, kin n t = true → kgo lt t = kgo lt' t
  | .ret _, _ => rfl
  | .ask i j k, hk => by
    obtain ⟨h1, h2, h3⟩ := kin_ask hk
    show kgo lt (k (lt i j)) = kgo lt' (k (lt' i j))
    rw [hc i j h1 h2]
    exact kgo_congr hc _ (h3 _)

section
variable {prog : Program} {w : World} {A : Around} {E : Value → Shared → Prop} {s : Shared}

theorem sort_raw {a : Addr} {vs : List Value} {kd : SortKind} {lt : Nat → Nat → Bool} {m : Nat} {P : PySem.Fin → Shared → Prop} (ho : s.heap.get? a = some (seqObj "list" vs.toArray m)) (h2 : 2 ≤ vs.length) (h64 : vs.length < 64) (hin : kin vs.length (kas_sort vs.length) = true)
    (hkd : ∀ (s' : Shared) (Q : SortKind → Shared → Prop) E, (∀ b o, b ≠ a → s.heap.get? b = some o → s'.heap.get? b = some o) → Q kd s' → wpAny (model prog w) A (keyKind' vs.toArray) Q E s')
    (hlt : ∀ (s' : Shared) (i j : Nat) (Q : Bool → Shared → Prop), (∀ b o, b ≠ a → s.heap.get? b = some o → s'.heap.get? b = some o) → i < vs.length → j < vs.length → Q (lt i j) s' → wpAny (model prog w) A (keyLt' kd (vs.getD i Value.none) (vs.getD j Value.none)) Q (fun _ _ => False) s')
    (h : ∀ h' e, (∀ b o, b ≠ a → s.heap.get? b = some o → h'.get? b = some o) → h'.get? a = some (seqObj "list" (((kgo lt (kas_sort vs.length)).toList.map fun i => vs.getD i Value.none).toArray) e) → P (.done (.ret .none)) { s with heap := h' }) :
    wpAny (model prog w) A (Builtin.«list.sort» ⟨[.ref a], []⟩) P E s := by
  have s1 := Heap.SameBut.update s.heap a (Obj.mapSeq fun _ => (#[] : Array Value))
  obtain ⟨e1, ho1⟩ : ∃ e1, (s.heap.update a (Obj.mapSeq fun _ => (#[] : Array Value))).get? a = some (seqObj "list" #[] e1) := ⟨_, get?_update_seq ho fun _ => #[]⟩
  rw [list_sort_plain]
  refine wpAny_bind (listItems_at ho rfl ?_)
  refine wpAny_bind (listUpdate_at ho rfl ?_ (by rw [List.size_toArray, sizeLine_eq]; omega) (Nat.zero_le _))
  refine wpAny_bind (seqEpoch_at ho1 rfl ?_)
  refine wpAny_bind (wpAny_newTuple ?_ (by show vs.length ≤ _; rw [sizeLine_eq]; omega))
  refine wpAny_bind (wpAny_newList ?_ (Nat.zero_le _))
  refine wpAny_holding ?_
  show wpAny (model prog w) A _ P E { s with heap := ((s.heap.update a (Obj.mapSeq fun _ => (#[] : Array Value))).push (seqObj "tuple" vs.toArray 0)).push (seqObj "list" #[] 0) }
  dsimp only
  have kp : ∀ b o, b ≠ a → s.heap.get? b = some o → (((s.heap.update a (Obj.mapSeq fun _ => (#[] : Array Value))).push (seqObj "tuple" vs.toArray 0)).push (seqObj "list" #[] 0)).get? b = some o := fun b o hb e =>
    Heap.get?_push_of_some _ (Heap.get?_push_of_some _ (s1.extBut b o hb e))
  have na := Heap.get?_push_of_some (seqObj "list" #[] 0) (Heap.get?_push_of_some (seqObj "tuple" vs.toArray 0) ho1)
  have hn2 : ¬ vs.toArray.size < 2 := by rw [List.size_toArray]; omega
  rw [if_neg hn2, if_neg hn2]
  refine wpAny_bind (hkd _ _ _ kp ?_)
  refine wpAny_bind (wpAny_mono (kat_run (Q := fun st' s' => s' = { s with heap := ((s.heap.update a (Obj.mapSeq fun _ => (#[] : Array Value))).push (seqObj "tuple" vs.toArray 0)).push (seqObj "list" #[] 0) } ∧ (kgo lt (kas_sort vs.length)).size = vs.length ∧ arrOf st' = (kgo lt (kas_sort vs.length)).map (kas_item (vs.toArray.zip vs.toArray)) ∧ failedOf st' = none)
    (G := fun p s' => p = kgo lt (kas_sort vs.length) ∧ s' = { s with heap := ((s.heap.update a (Obj.mapSeq fun _ => (#[] : Array Value))).push (seqObj "tuple" vs.toArray 0)).push (seqObj "list" #[] 0) })
    rfl h2 h64 (fun p' st' s' a1 a2 a3 a4 => by obtain ⟨rfl, rfl⟩ := a4; exact ⟨rfl, a1, a2, a3⟩) (kgo_wp (fun i j C hi hj hC => hlt _ i j C kp hi hj hC) _ hin ⟨rfl, rfl⟩)) ?_ fun _ _ e => e)
  rintro ⟨⟨⟩, st'⟩ s' ⟨rfl, hp, har, hf⟩
  dsimp only
  have hout := kat_snds rfl har
  have hsz : (List.toArray ((kgo lt (kas_sort vs.length)).toList.map fun i => vs.getD i Value.none)).size = vs.length := by rw [List.size_toArray, List.length_map, Array.length_toList, hp]
  rw [hout]
  refine wpAny_bind (seqEpoch_at na rfl ?_)
  refine wpAny_bind (listUpdate_at na rfl ?_ (Nat.zero_le _) (Nat.le_trans (Nat.le_of_eq hsz) (by rw [sizeLine_eq]; omega)))
  rw [hf]
  simp only [bne_self_eq_false, Bool.false_eq_true, if_false]
  have s2 := Heap.SameBut.update (((s.heap.update a (Obj.mapSeq fun _ => (#[] : Array Value))).push (seqObj "tuple" vs.toArray 0)).push (seqObj "list" #[] 0)) a (Obj.mapSeq fun _ => List.toArray ((kgo lt (kas_sort vs.length)).toList.map fun i => vs.getD i Value.none))
  exact wpAny_pure (h _ _ (fun b o hb e => s2.extBut b o hb (kp b o hb e)) (get?_update_seq na fun _ => List.toArray ((kgo lt (kas_sort vs.length)).toList.map fun i => vs.getD i Value.none)))

theorem sorted_raw {l : Addr} {vs : List Value} {kd : SortKind} {lt : Nat → Nat → Bool} {Q : Value → Shared → Prop} (hl : s.heap.IsList l vs.toArray) (h2 : 2 ≤ vs.length) (h64 : vs.length < 64) (hin : kin vs.length (kas_sort vs.length) = true)
    (hkd : ∀ (s' : Shared) (Q : SortKind → Shared → Prop) E, Keep s.heap s'.heap → Q kd s' → wpAny (model prog w) A.in1.in1 (keyKind' vs.toArray) Q E s')
    (hlt : ∀ (s' : Shared) (i j : Nat) (Q : Bool → Shared → Prop), Keep s.heap s'.heap → i < vs.length → j < vs.length → Q (lt i j) s' → wpAny (model prog w) A.in1.in1 (keyLt' kd (vs.getD i Value.none) (vs.getD j Value.none)) Q (fun _ _ => False) s')
    (h : ∀ h' e, Keep s.heap h' → h'.get? (s.heap.objs.size + 1) = some (seqObj "list" (((kgo lt (kas_sort vs.length)).toList.map fun i => vs.getD i Value.none).toArray) e) → Q (.ref (s.heap.objs.size + 1)) { s with heap := h' }) :
    wpAny (model prog w) A (call (.builtin "sorted") [.ref l]) Q E s := by
  refine Calls.call_function_entry kind_sorted plain_sorted entry_sorted (args_sorted1 _) ?_
  unfold Builtin.«sorted»
  refine wpAny_bind (m := checkCount "sorted" 1 1 _) (wpAny_pure ?_)
  refine wpAny_bind (collect_list hl ?_ (by rw [sizeLine_eq]; omega))
  refine wpAny_bind (wpAny_newList ?_ (by rw [sizeLine_eq]; omega))
  have hsz : ((s.heap.push (seqObj "list" #[] 0)).update s.heap.objs.size (Obj.mapSeq (· ++ vs.toArray))).objs.size = s.heap.objs.size + 1 := by
    rw [Heap.size_update, size_push']
  have hoL : (((s.heap.push (seqObj "list" #[] 0)).update s.heap.objs.size (Obj.mapSeq (· ++ vs.toArray))).push (seqObj "list" vs.toArray 0)).get? (s.heap.objs.size + 1) = some (seqObj "list" vs.toArray 0) := by
    rw [← hsz]; exact Heap.get?_push_size _ rfl
  have keep : ∀ b o, s.heap.get? b = some o → (((s.heap.push (seqObj "list" #[] 0)).update s.heap.objs.size (Obj.mapSeq (· ++ vs.toArray))).push (seqObj "list" vs.toArray 0)).get? b = some o := fun b o q => by
    have hlt : b < s.heap.objs.size := Heap.lt_size q
    rw [Heap.get?_push_ne _ _ _ (by rw [hsz]; exact Nat.ne_of_lt (Nat.lt_succ_of_lt hlt)), Heap.get?_update_ne _ _ _ _ (Nat.ne_of_lt hlt), Heap.get?_push_ne _ _ _ (Nat.ne_of_lt hlt)]
    exact q
  have ne : ∀ b o, s.heap.get? b = some o → b ≠ s.heap.objs.size + 1 := fun b o q => Nat.ne_of_lt (Nat.lt_succ_of_lt (Heap.lt_size q))
  show wpAny _ _ _ _ _ { s with heap := ((s.heap.push (seqObj "list" #[] 0)).update s.heap.objs.size (Obj.mapSeq (· ++ vs.toArray))).push (seqObj "list" vs.toArray 0) }
  rw [hsz]
  refine wpAny_bind (wpAny_holding (wpAny_call_entry slot_list_sort ⟨_, hoL, rfl⟩ entry_list_sort ?_ (args_list_sort _)))
  refine sort_raw (s := { s with heap := ((s.heap.push (seqObj "list" #[] 0)).update s.heap.objs.size (Obj.mapSeq (· ++ vs.toArray))).push (seqObj "list" vs.toArray 0) }) (kd := kd) (lt := lt) hoL h2 h64 hin
    (fun s' Q E k hq => hkd s' Q E (fun b o e => k b o (ne b o e) (keep b o e)) hq) (fun s' i j Q k hi hj hq => hlt s' i j Q (fun b o e => k b o (ne b o e) (keep b o e)) hi hj hq) fun h' e k ha => ?_
  exact ⟨_, rfl, wpAny_pure ⟨_, rfl, h h' e (fun b o q => k b o (ne b o q) (keep b o q)) ha⟩⟩
end
end Mine
end

section
open PySem PySem.W PyProof.Rows PySem.SeqAt
open AutoSeq1 (wpAny_loadPart')
open MeetsSeq MeetsSeq3
set_option maxRecDepth 100000
namespace Mine

/-! ## Lists of ints in order -/

noncomputable def lexLt : List Int → List Int → Bool
  | [], [] => false
  | [], _ :: _ => true
  | _ :: _, [] => false
  | a :: as, b :: bs => if a == b then lexLt as bs else decide (a < b)

theorem ints_get : ∀ {vs : List Value} {ns : List Int} {i : Nat} (h : IntsAre vs ns) (hi : i < vs.length), ∃ t x, vs[i]? = some (.int x t) ∧ ns[i]? = some x
  | _, _, 0, .cons x t _, _ => ⟨t, x, rfl, rfl⟩
  | _, _, i + 1, .cons x t h, hi => by
    obtain ⟨t', x', e1, e2⟩ := ints_get (i := i) h (by simpa using hi)
    exact ⟨t', x', by simpa using e1, by simpa using e2⟩

theorem lt_loop (l b : Addr) (items items2 : Array Value) (ns ms : List Int) (n n2 : Nat) (h1 : IntsAre items.toList ns) (h2 : IntsAre items2.toList ms) (hsz : items.size = items2.size) (k : Nat) :
    ∀ i : Nat, items.size - i = k → Meets (Builtin.«list.__eq__.loop» ⟨[.ref l, .ref b, rawInt i, rawInt 0], []⟩)
      (fun A R s => s.heap.get? l = some { cls := .type "list", dict := none, data := .seq items n, slots := #[] } ∧ s.heap.get? b = some { cls := .type "list", dict := none, data := .seq items2 n2, slots := #[] } ∧
        R (.ok (.ret (.bool (lexLt (ns.drop i) (ms.drop i))))) s) := by
  have z1 : ns.length = items.size := by rw [← h1.length]; simp
  have z2 : ms.length = items2.size := by rw [← h2.length]; simp
  induction k with
  | zero =>
    intro i hk prog w A R s h
    obtain ⟨hp, g, d, tk, os⟩ := s; obtain ⟨hl, hb, h⟩ := h
    wp_walk using wpAny_loadPart' hl, wpAny_loadPart' hb
    have hi1 : items[((i : Nat) : Int).toNat]? = none := by simp; omega
    have hi2 : items2[((i : Nat) : Int).toNat]? = none := by simp; omega
    rw [List.drop_eq_nil_of_le (by omega), List.drop_eq_nil_of_le (by omega)] at h
    rw [hi1, hi2]
    wp_walk using wpAny_loadPart' hl, wpAny_loadPart' hb
    show R (.ok (.ret (.bool (decide (items.size < items2.size))))) _
    rw [hsz]
    simpa [lexLt] using h
  | succ k ih =>
    intro i hk prog w A R s h
    obtain ⟨hp, g, d, tk, os⟩ := s; obtain ⟨hl, hb, h⟩ := h
    wp_walk using wpAny_loadPart' hl, wpAny_loadPart' hb
    have hlt : i < items.size := by omega
    have hlt2 : i < items2.size := by omega
    obtain ⟨t, x, e1, e2⟩ := ints_get (i := i) h1 (by simpa using hlt)
    obtain ⟨u, y, e3, e4⟩ := ints_get (i := i) h2 (by simpa using hlt2)
    have hi1 : items[((i : Nat) : Int).toNat]? = some (.int x t) := by simpa using e1
    have hi2 : items2[((i : Nat) : Int).toNat]? = some (.int y u) := by simpa using e3
    have hc : ((i : Int) + 1) = ((i + 1 : Nat) : Int) := by push_cast; rfl
    have d1 : ns.drop i = x :: ns.drop (i + 1) := by
      obtain ⟨q, e⟩ := List.getElem?_eq_some_iff.mp e2
      rw [List.drop_eq_getElem_cons q, e]
    have d2 : ms.drop i = y :: ms.drop (i + 1) := by
      obtain ⟨q, e⟩ := List.getElem?_eq_some_iff.mp e4
      rw [List.drop_eq_getElem_cons q, e]
    rw [d1, d2, lexLt] at h
    rw [hi1, hi2]
    refine wpAny_bind (EqGives.int x y t u prog w _ _ _ _ ?_)
    by_cases hb' : (x == y) = true
    · rw [if_pos hb'] at h
      rw [hb']
      wp_walk
      rw [hc]
      exact ⟨plainId_quiet plain_eq_loop _, codeAny_builtin entry_eq_loop (by
        rw [Around.under_plainId plain_eq_loop _]
        exact ih (i + 1) (by omega) prog w A R _ ⟨hl, hb, h⟩)⟩
    · rw [if_neg hb'] at h
      rw [Bool.eq_false_iff.mpr hb']
      wp_walk using wpAny_loadPart' hl, wpAny_loadPart' hb
      rw [hi1, hi2]
      show wpAny _ _ (richCompare .Lt (.int x t) (.int y u) >>= fun r => ret r) _ _ _
      refine wpAny_bind (PyProof.Rows.lt_int ?_)
      exact wpAny_pure h

theorem list_lt (l b : Addr) (items items2 : Array Value) (ns ms : List Int) (n n2 : Nat) (h1 : IntsAre items.toList ns) (h2 : IntsAre items2.toList ms) (hsz : items.size = items2.size) :
    Meets (Builtin.«list.__lt__» ⟨[.ref l, .ref b], []⟩)
      (fun _ R s => s.heap.get? l = some { cls := .type "list", dict := none, data := .seq items n, slots := #[] } ∧ s.heap.get? b = some { cls := .type "list", dict := none, data := .seq items2 n2, slots := #[] } ∧
        R (.ok (.ret (.bool (lexLt ns ms)))) s) := by
  intro prog w A R s h
  obtain ⟨hp, g, d, tk, os⟩ := s; obtain ⟨hl, hb, h⟩ := h
  have f3 := AutoSeq1.sub_list_list
  wp_walk using wpAny_loadPart' hl, wpAny_loadPart' hb
  exact ⟨plainId_quiet plain_eq_loop _, codeAny_builtin entry_eq_loop (by
    rw [Around.under_plainId plain_eq_loop _]
    exact lt_loop l b items items2 ns ms n n2 h1 h2 hsz _ 0 rfl prog w A R _ ⟨hl, hb, by simpa using h⟩)⟩
end Mine
end

section
open PySem PySem.W PyProof.Rows PySem.SeqAt
set_option maxRecDepth 100000
namespace Mine

/-! ## Shapes of data -/

noncomputable abbrev DI (ns : List Int) : PyData := .list (ns.map .int)
noncomputable abbrev DDI (nss : List (List Int)) : PyData := .list (nss.map DI)
noncomputable abbrev DB (bs : List Bool) : PyData := .list (bs.map .bool)

theorem eqvAll_ints : ∀ ns ms : List Int, PyData.eqvAll (ns.map .int) (ms.map .int) = (ns == ms)
  | [], [] => rfl
  | [], _ :: _ => rfl
  | _ :: _, [] => rfl
  | a :: as, b :: bs => by
    show (PyData.eqv (.int a) (.int b) && PyData.eqvAll (as.map .int) (bs.map .int)) = (a == b && as == bs)
    rw [eqvAll_ints as bs, PyData.eqv]
theorem eqv_ints (ns ms : List Int) : PyData.eqv (DI ns) (DI ms) = (ns == ms) := by rw [PyData.eqv]; exact eqvAll_ints ns ms
theorem eqvAll_lists : ∀ ns ms : List (List Int), PyData.eqvAll (ns.map DI) (ms.map DI) = (ns == ms)
  | [], [] => rfl
  | [], _ :: _ => rfl
  | _ :: _, [] => rfl
  | a :: as, b :: bs => by
    show (PyData.eqv (DI a) (DI b) && PyData.eqvAll (as.map DI) (bs.map DI)) = (a == b && as == bs)
    rw [eqvAll_lists as bs, eqv_ints]
theorem eqv_lists (ns ms : List (List Int)) : PyData.eqv (DDI ns) (DDI ms) = (ns == ms) := by rw [PyData.eqv]; exact eqvAll_lists ns ms
theorem eqvAll_bools : ∀ ns ms : List Bool, PyData.eqvAll (ns.map .bool) (ms.map .bool) = (ns == ms)
  | [], [] => rfl
  | [], _ :: _ => rfl
  | _ :: _, [] => rfl
  | a :: as, b :: bs => by
    show (PyData.eqv (.bool a) (.bool b) && PyData.eqvAll (as.map .bool) (bs.map .bool)) = (a == b && as == bs)
    rw [eqvAll_bools as bs, PyData.eqv]
theorem eqv_bools (ns ms : List Bool) : PyData.eqv (DB ns) (DB ms) = (ns == ms) := by rw [PyData.eqv]; exact eqvAll_bools ns ms

theorem lay_ints : ∀ ns : List Int, PyData.canLayAll0 (ns.map .int) = true
  | [] => rfl
  | _ :: ns => by
    rw [List.map_cons, PyData.canLayAll0, lay_ints ns, PyData.canLay0]; rfl
theorem lay_DI (ns : List Int) : (DI ns).canLay0 = true := by rw [PyData.canLay0]; exact lay_ints ns
theorem lay_lists : ∀ ns : List (List Int), PyData.canLayAll0 (ns.map DI) = true
  | [] => rfl
  | a :: ns => by
    rw [List.map_cons, PyData.canLayAll0, lay_lists ns, lay_DI]; rfl
theorem lay_DDI (ns : List (List Int)) : (DDI ns).canLay0 = true := by rw [PyData.canLay0]; exact lay_lists ns
theorem lay_bools : ∀ ns : List Bool, PyData.canLayAll0 (ns.map .bool) = true
  | [] => rfl
  | _ :: ns => by
    rw [List.map_cons, PyData.canLayAll0, lay_bools ns, PyData.canLay0]; rfl
theorem lay_DB (ns : List Bool) : (DB ns).canLay0 = true := by rw [PyData.canLay0]; exact lay_bools ns
theorem depth_ints : ∀ ns : List Int, PyData.depthAll (ns.map .int) = 0
  | [] => rfl
  | _ :: ns => by rw [List.map_cons, PyData.depthAll, depth_ints ns, PyData.depth]; rfl
theorem depth_DI (ns : List Int) : (DI ns).depth = 1 := by rw [PyData.depth, depth_ints]
theorem depth_lists : ∀ ns : List (List Int), PyData.depthAll (ns.map DI) ≤ 1
  | [] => by decide
  | a :: ns => by
    rw [List.map_cons, PyData.depthAll, depth_DI]
    exact Nat.max_le.mpr ⟨Nat.le_refl _, depth_lists ns⟩
theorem depth_DDI (ns : List (List Int)) : (DDI ns).depth ≤ 2 := by rw [PyData.depth]; exact Nat.succ_le_succ (depth_lists ns)
theorem depth_bools : ∀ ns : List Bool, PyData.depthAll (ns.map .bool) = 0
  | [] => rfl
  | _ :: ns => by rw [List.map_cons, PyData.depthAll, depth_bools ns, PyData.depth]; rfl
theorem depth_DB (ns : List Bool) : (DB ns).depth = 1 := by rw [PyData.depth, depth_bools]

/-! ## sorted over pairs (list of ints, int) -/

noncomputable def lt2 (p q : List Int × Int) : Bool := if p.1 == q.1 then (if p.2 == q.2 then false else decide (p.2 < q.2)) else lexLt p.1 q.1
noncomputable abbrev DP (p : List Int × Int) : PyData := .tuple [DI p.1, .int p.2]

section
variable {c : Cx} {A : Around} {E : Value → Shared → Prop} {s : Shared} {X : List Addr} {n : Nat}

theorem tup_lt {v u : Value} {p q : List Int × Int} {Q : Bool → Shared → Prop} (rv : Rd s.heap X v (DP p)) (ru : Rd s.heap X u (DP q)) (hlen : p.1.length = q.1.length) (hu : A.units + 10 < cLine) (h : Q (lt2 p q) s) : wpAny c.M A (keyLt' (tuples' true) v u) Q E s := by
  obtain ⟨a, its, rfl, ⟨o, ho, hc, k, hd⟩, ra⟩ := Rd.tuple_inv rv
  obtain ⟨b, its2, rfl, ⟨o2, ho2, hc2, k2, hd2⟩, rb⟩ := Rd.tuple_inv ru
  obtain ⟨l1, r1, e1, rl1, ra⟩ := ra.cons_inv
  obtain ⟨q1, r2, e2, rq1, ra⟩ := ra.cons_inv
  obtain ⟨l2, r3, e3, rl2, rb⟩ := rb.cons_inv
  obtain ⟨q2, r4, e4, rq2, rb⟩ := rb.cons_inv
  have z1 := ra.nil_inv
  have z2 := rb.nil_inv
  subst z1 z2 e2 e4
  obtain ⟨t1, rfl⟩ := Rd.int_inv rq1
  obtain ⟨t2, rfl⟩ := Rd.int_inv rq2
  have hs1 : its.size = 2 := by rw [← Array.length_toList, e1]; rfl
  have hs2 : its2.size = 2 := by rw [← Array.length_toList, e3]; rfl
  refine kat_lt ho hd ho2 hd2 ?_
  rw [e1, e3, hs1, hs2]
  obtain ⟨as1, x1, _⟩ := id rl1
  obtain ⟨as2, x2, _⟩ := id rl2
  refine kat_cons (eqBoolOverData _ _ A _ s l1 l2 _ _ _ _ _ x1 x2 (lay_DI _) (lay_DI _) (by rw [depth_DI]; omega) ?_)
  rw [eqv_ints]
  unfold lt2 at h
  by_cases hb : (p.1 == q.1) = true
  · rw [if_pos hb] at h
    rw [hb]
    refine kat_yes (kat_cons (PySem.wpAny_eqBool_int ?_))
    by_cases hb2 : (p.2 == q.2) = true
    · rw [if_pos hb2] at h
      rw [hb2]
      exact kat_yes (kat_nil h)
    · rw [if_neg hb2] at h
      rw [Bool.eq_false_iff.mpr hb2]
      exact kat_no (kat_one _ _ (PyProof.Rows.lt_int h))
  · rw [if_neg hb] at h
    rw [Bool.eq_false_iff.mpr hb]
    refine kat_no ?_
    show wpAny _ A (oneLt' true l1 l2) Q _ s
    rw [oneLt'_eq, if_pos rfl]
    obtain ⟨a1, i1, rfl, ⟨m1, g1⟩, d1, _⟩ := Rd.list_inv rl1
    obtain ⟨a2, i2, rfl, ⟨m2, g2⟩, d2, _⟩ := Rd.list_inv rl2
    have hz : i1.size = i2.size := by
      have y1 := d1.length
      have y2 := d2.length
      simp at y1 y2
      rw [y1, y2]; exact hlen
    refine wpAny_bind (wpAny_cRoomFor (by omega) (wpAny_bind (wpAny_callSpecialIfBound?_slot (s := s) ⟨_, g1, rfl⟩ PySem.F.slot_list_lt (call_meets PySem.F.slot_list_lt ⟨_, g1, rfl⟩ PySem.F.entry_list_lt (PySem.F.args_list_lt_2 _ _) (list_lt a1 a2 i1 i2 _ _ m1 m2 (RdA.ints d1) (RdA.ints d2) hz) ⟨g1, g2, ?_⟩))))
    exact wpAny_truthy_bool h
end
end Mine
end

section
open PySem PySem.W PyProof.Rows PySem.SeqAt
set_option maxRecDepth 100000
namespace Mine

noncomputable def tb3 (a b c : Bool) : Nat → Nat → Bool
  | 0, 1 => a
  | 1, 0 => !a
  | 0, 2 => b
  | 2, 0 => !b
  | 1, 2 => c
  | 2, 1 => !c
  | _, _ => false
theorem kin2 : kin 2 (kas_sort 2) = true := by decide +kernel
theorem kin3 : kin 3 (kas_sort 3) = true := by decide +kernel
theorem kgo3 : ∀ a b c : Bool, (a = true → c = true → b = true) → ((!c) = true → (!a) = true → (!b) = true) → (kgo (tb3 a b c) (kas_sort 3)).toList.Perm (List.range 3) ∧ (kgo (tb3 a b c) (kas_sort 3)).toList.Pairwise (fun i j => tb3 a b c i j = true) := by decide +kernel
theorem kgo2 : ∀ a : Bool, (kgo (tb3 a false false) (kas_sort 2)).toList.Perm (List.range 2) ∧ (kgo (tb3 a false false) (kas_sort 2)).toList.Pairwise (fun i j => tb3 a false false i j = true) := by decide +kernel
theorem lt2' {P : Nat → Prop} (h0 : P 0) (h1 : P 1) : ∀ i, i < 2 → P i
  | 0, _ => h0
  | 1, _ => h1
theorem lt3 {P : Nat → Prop} (h0 : P 0) (h1 : P 1) (h2 : P 2) : ∀ i, i < 3 → P i
  | 0, _ => h0
  | 1, _ => h1
  | 2, _ => h2

variable {α : Type} [DecidableEq α]
/-- what the sort of up to three gives: the sorted list -/
theorem sort_is {lt : α → α → Bool} {d : α} {ps ms : List α} (hirr : ∀ p, lt p p = false) (hasym : ∀ p ∈ ps, ∀ q ∈ ps, p ≠ q → lt q p = !lt p q) (htr : ∀ p q r, lt p q = true → lt q r = true → lt p r = true) (hnd : ps.Nodup) (hm : ms.Perm ps) (hs : ms.Pairwise (fun p q => lt p q = true))
    (h2 : 2 ≤ ps.length) (h3 : ps.length ≤ 3) : kin ps.length (kas_sort ps.length) = true ∧ (kgo (fun i j => lt (ps.getD i d) (ps.getD j d)) (kas_sort ps.length)).toList.map (fun i => ps.getD i d) = ms := by
  have uniq : ∀ out : List α, out.Perm ps → out.Pairwise (fun p q => lt p q = true) → out = ms := fun out hp ho => by
    refine List.Perm.eq_of_pairwise (le := fun p q => lt p q = true) (fun a b _ _ h1 h2 => ?_) ho hs (hp.trans hm.symm)
    have := htr a b a h1 h2
    rw [hirr] at this; cases this
  have fit : ∀ (n : Nat) (B : Nat → Nat → Bool), ps.length = n → kin n (kas_sort n) = true → (∀ i, i < n → ∀ j, j < n → B i j = lt (ps.getD i d) (ps.getD j d)) → (kgo B (kas_sort n)).toList.Perm (List.range n) → (kgo B (kas_sort n)).toList.Pairwise (fun i j => B i j = true) →
      kin ps.length (kas_sort ps.length) = true ∧ (kgo (fun i j => lt (ps.getD i d) (ps.getD j d)) (kas_sort ps.length)).toList.map (fun i => ps.getD i d) = ms := fun n B hl hk hB hp hw => by
    rw [hl]
    refine ⟨hk, ?_⟩
    rw [kgo_congr (lt := fun i j => lt (ps.getD i d) (ps.getD j d)) (lt' := B) (n := n) (fun i j hi hj => (hB i hi j hj).symm) (kas_sort n) hk]
    have hr : (List.range n).map (fun i => ps.getD i d) = ps := by
      refine List.ext_getElem (by rw [List.length_map, List.length_range, hl]) fun i h1 h2 => ?_
      rw [List.getElem_map, List.getElem_range, List.getD_eq_getElem?_getD, List.getElem?_eq_getElem h2]; rfl
    refine uniq _ ((hp.map fun i => ps.getD i d).trans (.of_eq hr)) (List.pairwise_map.mpr (hw.imp_of_mem fun {a b} ha hb e => ?_))
    rw [← hB a (List.mem_range.mp (hp.mem_iff.mp ha)) b (List.mem_range.mp (hp.mem_iff.mp hb))]; exact e
  by_cases hl : ps.length = 2
  · obtain ⟨p, q, rfl⟩ : ∃ p q, ps = [p, q] := len2 (P := fun l => ∃ p q, l = [p, q]) hl fun p q => ⟨p, q, rfl⟩
    have hne : p ≠ q := by simpa using hnd
    have s1 := hasym p (.head _) q (.tail _ (.head _)) hne
    have e := kgo2 (lt p q)
    exact fit 2 (tb3 (lt p q) false false) rfl kin2 (lt2' (lt2' (hirr p).symm rfl) (lt2' s1.symm (hirr q).symm)) e.1 e.2
  · obtain ⟨p, q, r, rfl⟩ : ∃ p q r, ps = [p, q, r] := len3' (P := fun l => ∃ p q r, l = [p, q, r]) (by omega) fun p q r => ⟨p, q, r, rfl⟩
    obtain ⟨n1, n2, n3⟩ : p ≠ q ∧ p ≠ r ∧ q ≠ r := by simpa [and_assoc] using hnd
    have s1 := hasym p (.head _) q (.tail _ (.head _)) n1
    have s2 := hasym p (.head _) r (.tail _ (.tail _ (.head _))) n2
    have s3 := hasym q (.tail _ (.head _)) r (.tail _ (.tail _ (.head _))) n3
    have t1 := htr p q r
    have t2 := htr r q p
    rw [s1, s2, s3] at t2
    have e := kgo3 (lt p q) (lt p r) (lt q r) t1 t2
    exact fit 3 (tb3 (lt p q) (lt p r) (lt q r)) rfl kin3 (lt3 (lt3 (hirr p).symm rfl rfl) (lt3 s1.symm (hirr q).symm rfl) (lt3 s2.symm s3.symm (hirr r).symm)) e.1 e.2
end Mine
end

section
open PySem PySem.W PyProof.Rows PySem.SeqAt
set_option maxRecDepth 100000
namespace Mine
section
variable {prog : Program} {w : World} {A : Around} {E : Value → Shared → Prop} {s : Shared}

theorem sort_small {a : Addr} {vs : List Value} {m : Nat} {P : PySem.Fin → Shared → Prop} (ho : s.heap.get? a = some (seqObj "list" vs.toArray m)) (h2 : vs.length < 2)
    (h : ∀ h' e, (∀ b o, b ≠ a → s.heap.get? b = some o → h'.get? b = some o) → h'.get? a = some (seqObj "list" vs.toArray e) → P (.done (.ret .none)) { s with heap := h' }) :
    wpAny (model prog w) A (Builtin.«list.sort» ⟨[.ref a], []⟩) P E s := by
  have s1 := Heap.SameBut.update s.heap a (Obj.mapSeq fun _ => (#[] : Array Value))
  obtain ⟨e1, ho1⟩ : ∃ e1, (s.heap.update a (Obj.mapSeq fun _ => (#[] : Array Value))).get? a = some (seqObj "list" #[] e1) := ⟨_, get?_update_seq ho fun _ => #[]⟩
  rw [list_sort_plain]
  refine wpAny_bind (listItems_at ho rfl ?_)
  refine wpAny_bind (listUpdate_at ho rfl ?_ (by rw [List.size_toArray, sizeLine_eq]; omega) (Nat.zero_le _))
  refine wpAny_bind (seqEpoch_at ho1 rfl ?_)
  refine wpAny_bind (wpAny_newTuple ?_ (by show vs.length ≤ _; rw [sizeLine_eq]; omega))
  refine wpAny_bind (wpAny_newList ?_ (Nat.zero_le _))
  refine wpAny_holding ?_
  show wpAny (model prog w) A _ P E { s with heap := ((s.heap.update a (Obj.mapSeq fun _ => (#[] : Array Value))).push (seqObj "tuple" vs.toArray 0)).push (seqObj "list" #[] 0) }
  dsimp only
  have kp : ∀ b o, b ≠ a → s.heap.get? b = some o → (((s.heap.update a (Obj.mapSeq fun _ => (#[] : Array Value))).push (seqObj "tuple" vs.toArray 0)).push (seqObj "list" #[] 0)).get? b = some o := fun b o hb e =>
    Heap.get?_push_of_some _ (Heap.get?_push_of_some _ (s1.extBut b o hb e))
  have na := Heap.get?_push_of_some (seqObj "list" #[] 0) (Heap.get?_push_of_some (seqObj "tuple" vs.toArray 0) ho1)
  have hn2 : vs.toArray.size < 2 := by rw [List.size_toArray]; omega
  rw [if_pos hn2, if_pos hn2]
  refine wpAny_bind (wpAny_pure ?_)
  rw [StateT.run_pure]
  refine wpAny_bind (wpAny_pure ?_)
  dsimp only
  have hz : (vs.toArray.zip vs.toArray).map (·.2) = vs.toArray := by
    apply Array.toList_inj.mp
    rw [Array.toList_map, Array.toList_zip]
    exact List.map_snd_zip (Nat.le_refl _)
  have hz' : (arrOf (SortSt.mk' general' (vs.toArray.zip vs.toArray) #[] 7 none)).map (·.2) = vs.toArray := hz
  rw [hz']
  refine wpAny_bind (seqEpoch_at na rfl ?_)
  refine wpAny_bind (listUpdate_at na rfl ?_ (Nat.zero_le _) (by rw [List.size_toArray, sizeLine_eq]; omega))
  simp only [bne_self_eq_false, Bool.false_eq_true, if_false]
  have s2 := Heap.SameBut.update (((s.heap.update a (Obj.mapSeq fun _ => (#[] : Array Value))).push (seqObj "tuple" vs.toArray 0)).push (seqObj "list" #[] 0)) a (Obj.mapSeq fun _ => vs.toArray)
  exact wpAny_pure (h _ _ (fun b o hb e => s2.extBut b o hb (kp b o hb e)) (get?_update_seq na fun _ => vs.toArray))

theorem sorted_small {l : Addr} {vs : List Value} {Q : Value → Shared → Prop} (hl : s.heap.IsList l vs.toArray) (h2 : vs.length < 2)
    (h : ∀ h' e, Keep s.heap h' → h'.get? (s.heap.objs.size + 1) = some (seqObj "list" vs.toArray e) → Q (.ref (s.heap.objs.size + 1)) { s with heap := h' }) :
    wpAny (model prog w) A (call (.builtin "sorted") [.ref l]) Q E s := by
  refine Calls.call_function_entry kind_sorted plain_sorted entry_sorted (args_sorted1 _) ?_
  unfold Builtin.«sorted»
  refine wpAny_bind (m := checkCount "sorted" 1 1 _) (wpAny_pure ?_)
  refine wpAny_bind (collect_list hl ?_ (by rw [sizeLine_eq]; omega))
  refine wpAny_bind (wpAny_newList ?_ (by rw [sizeLine_eq]; omega))
  have hsz : ((s.heap.push (seqObj "list" #[] 0)).update s.heap.objs.size (Obj.mapSeq (· ++ vs.toArray))).objs.size = s.heap.objs.size + 1 := by
    rw [Heap.size_update, size_push']
  have hoL : (((s.heap.push (seqObj "list" #[] 0)).update s.heap.objs.size (Obj.mapSeq (· ++ vs.toArray))).push (seqObj "list" vs.toArray 0)).get? (s.heap.objs.size + 1) = some (seqObj "list" vs.toArray 0) := by
    rw [← hsz]; exact Heap.get?_push_size _ rfl
  have keep : ∀ b o, s.heap.get? b = some o → (((s.heap.push (seqObj "list" #[] 0)).update s.heap.objs.size (Obj.mapSeq (· ++ vs.toArray))).push (seqObj "list" vs.toArray 0)).get? b = some o := fun b o q => by
    have hlt : b < s.heap.objs.size := Heap.lt_size q
    rw [Heap.get?_push_ne _ _ _ (by rw [hsz]; exact Nat.ne_of_lt (Nat.lt_succ_of_lt hlt)), Heap.get?_update_ne _ _ _ _ (Nat.ne_of_lt hlt), Heap.get?_push_ne _ _ _ (Nat.ne_of_lt hlt)]
    exact q
  have ne : ∀ b o, s.heap.get? b = some o → b ≠ s.heap.objs.size + 1 := fun b o q => Nat.ne_of_lt (Nat.lt_succ_of_lt (Heap.lt_size q))
  show wpAny _ _ _ _ _ { s with heap := ((s.heap.push (seqObj "list" #[] 0)).update s.heap.objs.size (Obj.mapSeq (· ++ vs.toArray))).push (seqObj "list" vs.toArray 0) }
  rw [hsz]
  refine wpAny_bind (wpAny_holding (wpAny_call_entry slot_list_sort ⟨_, hoL, rfl⟩ entry_list_sort ?_ (args_list_sort _)))
  refine sort_small (s := { s with heap := ((s.heap.push (seqObj "list" #[] 0)).update s.heap.objs.size (Obj.mapSeq (· ++ vs.toArray))).push (seqObj "list" vs.toArray 0) }) hoL h2 fun h' e k ha => ?_
  exact ⟨_, rfl, wpAny_pure ⟨_, rfl, h h' e (fun b o q => k b o (ne b o q) (keep b o q)) ha⟩⟩
end

section
variable {c : Cx} {n : Nat} {X : List Addr} {s : Shared}

theorem AV.list_inv {h : Heap} {v : Value} {xs : List PyData} : ∀ {a : AV}, a.data = some (.list xs) → a.R c h X v → ∃ l items, v = .ref l ∧ h.PlainList l items ∧ RdA h X items.toList xs
  | .dat _, e, r => by cases e; obtain ⟨l, its, e, hl, r, _⟩ := Rd.list_inv r; exact ⟨l, its, e, hl, r⟩
  | .own _ _, e, ⟨e1, _, its, hl, r⟩ => by cases e; exact ⟨_, its, e1, hl, r⟩
  | .inst _, e, _ => by cases e
  | .fnp _ _ _, e, _ => by cases e

theorem tups_of {h : Heap} : ∀ {ps : List (List Int × Int)} {vs : List Value}, RdA h X vs (ps.map DP) → ∃ fs, KatTups h vs fs ∧ fs.length = vs.length ∧ ∀ f ∈ fs, ∃ l its k, f = .ref l ∧ h.get? l = some { cls := .type "list", data := .seq its k } := by
  intro ps
  induction ps with
  | nil => intro vs r; rw [r.nil_inv]; exact ⟨[], trivial, rfl, fun _ h => (List.not_mem_nil h).elim⟩
  | cons p ps ih =>
    intro vs r
    obtain ⟨v, vs', rfl, r1, r2⟩ := RdA.cons_inv r
    obtain ⟨fs, h1, h2, h3⟩ := ih r2
    obtain ⟨a, its, rfl, ⟨o, ho, hc, k, hd⟩, ra⟩ := Rd.tuple_inv r1
    obtain ⟨l1, r1', e1, rl1, ra⟩ := ra.cons_inv
    obtain ⟨l, i1, rfl, ⟨m1, g1⟩, _⟩ := Rd.list_inv rl1
    refine ⟨.ref l :: fs, KatTups.cons ho hc hd ?_ h1, by simp [h2], fun f hf => ?_⟩
    · rw [← Array.getElem?_toList, e1]; rfl
    · rcases List.mem_cons.mp hf with rfl | hf
      · exact ⟨l, i1, m1, rfl, g1⟩
      · exact h3 f hf

theorem RdA.getD {h : Heap} {ps : List (List Int × Int)} {vs : List Value} (r : RdA h X vs (ps.map DP)) {i : Nat} (hi : i < vs.length) : Rd h X (vs.getD i Value.none) (DP (ps.getD i ([], 0))) := by
  have hl := r.length
  rw [List.length_map] at hl
  have hi' : i < ps.length := by omega
  obtain ⟨v, e, rv⟩ := r.get (i := i) (d := DP ps[i]) (by simp [hi'])
  rw [List.getD_eq_getElem?_getD, e, List.getD_eq_getElem?_getD, List.getElem?_eq_getElem hi']
  exact rv

theorem RdA.pick {h : Heap} {ps : List (List Int × Int)} {vs : List Value} (r : RdA h X vs (ps.map DP)) : ∀ R : List Nat, (∀ i ∈ R, i < vs.length) → RdA h X (R.map fun i => vs.getD i Value.none) ((R.map fun i => ps.getD i ([], 0)).map DP)
  | [], _ => .nil
  | i :: R, hR => .cons (r.getD (hR i (.head _))) (RdA.pick r R fun j hj => hR j (.tail _ hj))

noncomputable def kall {α : Type} (P : α → Bool) : KasT α → Bool
  | .ret a => P a
  | .ask _ _ k => kall P (k true) && kall P (k false)
theorem kall_go {α : Type} {P : α → Bool} {lt : Nat → Nat → Bool} : ∀ t : KasT α, kall P t = true → P (kgo lt t) = true
  | .ret _, h => h
  | .ask i j k, h => by
    simp only [kall, Bool.and_eq_true] at h
    show P (kgo lt (k (lt i j))) = true
    cases lt i j with
    | true => exact kall_go _ h.1
    | false => exact kall_go _ h.2
theorem kall2 : kall (fun p : Array Nat => p.toList.all (· < 2)) (kas_sort 2) = true := by decide +kernel
theorem kall3 : kall (fun p : Array Nat => p.toList.all (· < 3)) (kas_sort 3) = true := by decide +kernel
theorem kgo_range {n : Nat} (hn : n = 2 ∨ n = 3) (lt : Nat → Nat → Bool) : ∀ i ∈ (kgo lt (kas_sort n)).toList, i < n := fun i hi => by
  rcases hn with rfl | rfl
  · have h : (kgo lt (kas_sort 2)).toList.all (· < 2) = true := kall_go (P := fun p : Array Nat => p.toList.all (· < 2)) (lt := lt) _ kall2
    simpa using List.all_eq_true.mp h i hi
  · have h : (kgo lt (kas_sort 3)).toList.all (· < 3) = true := kall_go (P := fun p : Array Nat => p.toList.all (· < 3)) (lt := lt) _ kall3
    simpa using List.all_eq_true.mp h i hi

theorem perm_short {α : Type} {ms ps : List α} (hm : ms.Perm ps) (h : ps.length < 2) : ms = ps := by
  cases ps with
  | nil => exact hm.eq_nil
  | cons p ps =>
    cases ps with
    | nil => exact List.perm_singleton.mp hm
    | cons q ps => simp at h; omega

theorem fn_sortedT {a : AV} {ps ms : List (List Int × Int)} {L : Nat} (ha : a.data = some (.list (ps.map DP))) (h3 : ps.length ≤ 3) (hL : ∀ p ∈ ps, p.1.length = L) (hasym : ∀ p ∈ ps, ∀ q ∈ ps, p ≠ q → lt2 q p = !lt2 p q) (htr : ∀ p q r, lt2 p q = true → lt2 q r = true → lt2 p r = true) (hnd : ps.Nodup)
    (hm : ms.Perm ps) (hs : ms.Pairwise (fun p q => lt2 p q = true)) (hn : n < 70) : OpNew c n X (fun vs => PySem.call (.builtin "sorted") vs) [a] (ms.map DP) := fun s vs Q E G al rs h => by
  obtain ⟨v, rfl, r⟩ := rs.one
  obtain ⟨l, its, rfl, hl, ra⟩ := AV.list_inv ha r
  have hlen := ra.length
  rw [List.length_map] at hlen
  have hl' := PlainList.toL hl
  have fin : ∀ h' e (out : List Value), Keep s.heap h' → h'.get? (s.heap.objs.size + 1) = some (seqObj "list" out.toArray e) → RdA s.heap X out (ms.map DP) → Q (.ref (s.heap.objs.size + 1)) { s with heap := h' } := fun h' e out hk hg ro => by
    refine h _ out.toArray _ (.keep (tk := s.toks) G hk) (Heap.get?_none_of_le (Nat.le_succ _)) ⟨e, hg⟩ ?_
    have := (ro.fresh (a := s.heap.objs.size + 1) (Heap.get?_none_of_le (Nat.le_succ _))).ext (.of_keep hk)
    simpa using this
  by_cases h2 : ps.length < 2
  · refine sorted_small hl' (by omega) fun h' e hk hg => fin h' e its.toList hk hg ?_
    rw [perm_short hm h2]; exact ra
  · obtain ⟨g1, g2⟩ := sort_is (d := (([], 0) : List Int × Int)) (lt := lt2) (fun p => by simp [lt2]) hasym htr hnd hm hs (by omega) h3
    rw [← hlen] at g1 g2
    obtain ⟨fs, t1, t2, t3⟩ := tups_of ra
    refine sorted_raw (kd := tuples' true) (lt := fun i j => lt2 (ps.getD i ([], 0)) (ps.getD j ([], 0))) hl' (by omega) (by omega) g1 (fun s' Q E k hq => ?_) (fun s' i j Q k hi hj hq => ?_) fun h' e hk hg => fin h' e _ hk hg ?_
    · have t1' : KatTups s'.heap its.toList fs := by
        have key : ∀ {vs fs : List Value}, KatTups s.heap vs fs → KatTups s'.heap vs fs := by
          intro vs
          induction vs with
          | nil => intro fs t; cases fs with | nil => trivial | cons _ _ => exact t.elim
          | cons v vs ih =>
            intro fs t
            cases fs with
            | nil => exact t.elim
            | cons f fs =>
              obtain ⟨⟨a, o, xs, n, e, g, r⟩, t2⟩ := t
              exact ⟨⟨a, o, xs, n, e, k _ _ g, r⟩, ih t2⟩
        exact key t1
      refine kat_kind (T := .type "list") t1' (by omega) (fun f hf => ?_) (by decide) hq
      obtain ⟨l, i1, k1, rfl, g⟩ := t3 f hf
      exact (Looks.ld (k _ _ g)).andThen .now
    · refine tup_lt (Rd.ext (ra.getD hi) (.of_keep k)) (Rd.ext (ra.getD hj) (.of_keep k)) ?_ ?_ hq
      · have e1 : ∀ i, i < its.toList.length → (ps.getD i ([], 0)).1.length = L := fun i hi => by
          have hi' : i < ps.length := by omega
          rw [List.getD_eq_getElem?_getD, List.getElem?_eq_getElem hi']
          exact hL _ (List.getElem_mem hi')
        rw [e1 i hi, e1 j hj]
      · have := units_Lv n
        show (Lv n).units + 1 + 1 + 10 < 9900
        omega
    · rw [← g2]
      exact RdA.pick ra _ (kgo_range (by omega) _)
end
end Mine
end

section
open PySem PySem.W PyProof.Rows PySem.SeqAt
set_option maxRecDepth 100000
namespace Mine
section
variable {c : Cx} {n : Nat} {κ : Sta} {sts : List Str} {Xo X : List Addr} {ρ : List (Str × AV)} {s₀ s : Shared} {env : Env}

theorem Fo.gen {σ : Type} {t : Expr} {body : List Stmt} (st : σ → List (Str × AV)) (res : List PyData → σ → Out) (inv : σ → List PyData → Prop) (h0 : ∀ s, inv s [] → res [] s = .next X (st s))
    (h : ∀ s d rest, inv s (d :: rest) → ∃ ρ1, Tg c n κ sts X (st s) t (.dat d) ρ1 ∧
      ((∃ r, Ex c n κ sts Xo X ρ1 body (.ret r) ∧ res (d :: rest) s = .ret r) ∨ (∃ s', Ex c n κ sts Xo X ρ1 body (.next X (st s')) ∧ inv s' rest ∧ res (d :: rest) s = res rest s'))) :
    ∀ ds s, inv s ds → Fo c n κ sts Xo X t body ds (st s) (res ds s)
  | [], s, hi => by rw [h0 s hi]; exact .nil _
  | d :: ds, s, hi => by
    obtain ⟨ρ1, ht, h1⟩ := h s d ds hi
    rcases h1 with ⟨r, hb, e⟩ | ⟨s', hb, hi', e⟩
    · rw [e]; exact .ret ht hb
    · rw [e]; exact .turn ht hb (Fo.gen st res inv h0 h ds s' hi')
theorem Fo.fold {σ : Type} {t : Expr} {body : List Stmt} (st : σ → List (Str × AV)) (f : σ → PyData → σ) (inv : σ → List PyData → Prop)
    (h : ∀ s d rest, inv s (d :: rest) → ∃ ρ1, Tg c n κ sts X (st s) t (.dat d) ρ1 ∧ Ex c n κ sts Xo X ρ1 body (.next X (st (f s d))) ∧ inv (f s d) rest) (ds : List PyData) (s : σ) (hi : inv s ds) :
    Fo c n κ sts Xo X t body ds (st s) (.next X (st (ds.foldl f s))) := by
  have := Fo.gen (c := c) (n := n) (κ := κ) (sts := sts) (Xo := Xo) (X := X) (t := t) (body := body) st (fun ds s => .next X (st (ds.foldl f s))) inv (fun _ _ => rfl) (fun s d rest hi => by
    obtain ⟨ρ1, h1, h2, h3⟩ := h s d rest hi
    exact ⟨ρ1, h1, .inr ⟨_, h2, h3, rfl⟩⟩) ds s hi
  exact this

theorem Fo.genM {β σ : Type} {t : Expr} {body : List Stmt} (enc : β → PyData) (st : σ → List (Str × AV)) (res : List β → σ → Out) (inv : σ → List β → Prop) (h0 : ∀ s, inv s [] → res [] s = .next X (st s))
    (h : ∀ s d rest, inv s (d :: rest) → ∃ ρ1, Tg c n κ sts X (st s) t (.dat (enc d)) ρ1 ∧
      ((∃ r, Ex c n κ sts Xo X ρ1 body (.ret r) ∧ res (d :: rest) s = .ret r) ∨ (∃ s', Ex c n κ sts Xo X ρ1 body (.next X (st s')) ∧ inv s' rest ∧ res (d :: rest) s = res rest s'))) :
    ∀ ds s, inv s ds → Fo c n κ sts Xo X t body (ds.map enc) (st s) (res ds s)
  | [], s, hi => by rw [h0 s hi]; exact .nil _
  | d :: ds, s, hi => by
    obtain ⟨ρ1, ht, h1⟩ := h s d ds hi
    rw [List.map_cons]
    rcases h1 with ⟨r, hb, e⟩ | ⟨s', hb, hi', e⟩
    · rw [e]; exact .ret ht hb
    · rw [e]; exact .turn ht hb (Fo.genM enc st res inv h0 h ds s' hi')

/-- what follows a statement -/
noncomputable def After (c : Cx) (n : Nat) (κ : Sta) (sts : List Str) (Xo : List Addr) (rest : List Stmt) (out : Out) : Out → Prop
  | .next X' ρ' => Ex c n κ sts Xo X' ρ' rest out
  | .ret r => out = .ret r
theorem Ex.seq {st : Stmt} {rest : List Stmt} {o out : Out} (h : Sx c n κ sts Xo X ρ st o) (hr : After c n κ sts Xo rest out o) : Ex c n κ sts Xo X ρ (st :: rest) out := by
  cases o with
  | next X' ρ' => exact Ex.cons h hr
  | ret r => rw [show out = .ret r from hr]; exact Ex.ret h
theorem Ex.for {t iter : Expr} {body rest : List Stmt} {pos : Pos} {ds : List PyData} {o out : Out} (hi : EvIt c n κ X ρ iter ds) (F : Fo c n κ sts Xo X t body ds ρ o) (hr : After c n κ sts Xo rest out o) (hs : notSet iter = true := by rfl) :
    Ex c n κ sts Xo X ρ (.For t iter body [] pos :: rest) out := Ex.seq (Sx.for hi F hs) hr

/-! ## An owned list is let be -/

theorem SInv.freeze {x : Str} {a : Addr} {xs : List PyData} {ρ' : List (Str × AV)} (I : SInv c κ sts s₀ (a :: X) ρ env s) (hx : ρ.lookup x = some (.own a xs)) (ha : a ∉ X) (l : Less ρ ρ') (hn : ∀ y ys, ρ'.lookup y ≠ some (.own a ys)) : SInv c κ sts s₀ X ((x, .dat (.list xs)) :: ρ') env s := by
  have hk := I.ol x a xs hx
  have key : ∀ {y : Str} {av : AV} {v : Value}, ρ'.lookup y = some av → EntOk c s₀.heap s.heap (a :: X) av v → EntOk c s₀.heap s.heap X av v := fun {y av v} e h => by
    cases av with
    | dat d => exact h.imp (fun r => Rd.sub r fun b hb => .tail _ hb) fun r => ⟨r.1, Rd.sub r.2 fun b hb => .tail _ hb⟩
    | own b ys =>
      have hb : b ≠ a := fun z => hn y ys (z ▸ e)
      exact h.imp (fun ⟨e1, e2, its, e3, e4⟩ => ⟨e1, (List.mem_cons.mp e2).resolve_left hb, its, e3, e4.sub fun b hb => .tail _ hb⟩) fun ⟨e0, e1, e2, its, e3, e4⟩ => ⟨e0, e1, (List.mem_cons.mp e2).resolve_left hb, its, e3, e4.sub fun b hb => .tail _ hb⟩
    | inst k => exact h.imp (fun r => InstR.sub r fun b hb => .tail _ hb) fun r => by cases r.1
    | fnp n d p => exact h.imp id fun r => by cases r.1
  obtain ⟨m, its, hn0, e0, _, hl, r, h0⟩ := I.own_at hx hk
  refine ⟨I.sc, I.fk, I.gl, I.bu, I.co, I.qu, I.G, ⟨m, hn0, fun y av e k => ?_⟩, fun y av e k => ?_, fun b hb => I.al b (.tail _ hb), I.G0, I.base, I.gens, I.os, I.lf, fun y b ys e => ?_, fun y b ys e => ?_, I.st⟩
  · rw [lookup_cons_eq] at e
    by_cases hy : y = x
    · rw [if_pos hy] at e; cases e
      exact ⟨.ref a, by rw [hy]; exact e0, .inr ⟨rfl, Rd.list hl (r.sub fun b hb => .tail _ hb) ha⟩⟩
    · rw [if_neg hy] at e
      obtain ⟨m', hn', hm'⟩ := I.ns
      obtain ⟨v', e1, e2⟩ := hm' y av (l y av e) k
      have : m' = m := by
        obtain ⟨o1, es1, ep1, q1, d1, _, f1⟩ := hn'
        obtain ⟨o2, es2, ep2, q2, d2, _, f2⟩ := hn0
        rw [q1] at q2; cases q2; rw [d1] at d2; cases d2
        funext z; rw [← f1, ← f2]
      exact ⟨v', this ▸ e1, key e e2⟩
  · rw [lookup_cons_eq] at e
    have hy : y ≠ x := fun z => by rw [z, hk] at k; rcases k with k | k <;> cases k
    rw [if_neg hy] at e
    obtain ⟨b, v', e1, e2, e3⟩ := I.cl y av (l y av e) k
    exact ⟨b, v', e1, e2, key e e3⟩
  · rw [lookup_cons_eq] at e
    by_cases hy : y = x
    · rw [if_pos hy] at e; cases e
    · rw [if_neg hy] at e; exact I.ow y b ys (l y _ e)
  · rw [lookup_cons_eq] at e
    by_cases hy : y = x
    · rw [if_pos hy] at e; cases e
    · rw [if_neg hy] at e; exact I.ol y b ys (l y _ e)

theorem Ex.freeze {x : Str} {a : Addr} {xs : List PyData} {ρ' : List (Str × AV)} {ss : List Stmt} {r : AV} (hx : ρ.lookup x = some (.own a xs)) (ha : a ∉ X) (l : Less ρ ρ') (hn : ∀ y ys, ρ'.lookup y ≠ some (.own a ys)) (hXo : ∀ b ∈ Xo, b ∈ X)
    (h : Ex c n κ sts Xo X ((x, .dat (.list xs)) :: ρ') ss (.ret r)) : Ex c n κ sts Xo (a :: X) ρ ss (.ret r) := fun s₀ env s Q E h1 h2 I k =>
  h s₀ env s Q E h1 hXo (I.freeze hx ha l hn) k

end
theorem swap2_ok {env : Env} {x y : Str} {p q tpos vpos : Pos} {kt kv : Nat} {e f : Expr} (hb : env.blockKind = .function) (hx : env.kindOf x = some .local) (hy : env.kindOf y = some .local) (hl : (q.line == p.line) = true) (hxy : (y == x) = false) (he : notStar e = true) (hf : notStar f = true)
    (hc : [e, f].all (foldedForSure 8) = false) (hc2 : [e, f].all (constantsAlone 8) = false) : swappedStores [.Tuple [.Name x p, .Name y q] kt tpos] (.Tuple [e, f] kv vpos) env = pure (some [x, y]) := by
  have h0 : ([e, f].any fun | .Starred .. => true | _ => false) = false := by
    have one : ∀ g : Expr, notStar g = true → (match g with | .Starred .. => true | _ => false) = false := fun g hg => by cases g <;> first | rfl | (cases hg; done)
    simp only [List.any_cons, List.any_nil, one e he, one f hf, Bool.or_false]
  have hn : ([Expr.Name x p, Expr.Name y q].filterMap fun
    | .Name id pos => if env.kindOf id == some .local && pos.line == p.line then some id else none
    | _ => none) = [x, y] := by
    simp [hx, hy, beq_iff_eq.mp hl]
  have hd : [x, y].eraseDups.length = 2 := by
    rw [List.eraseDups_cons]
    simp [hxy]
    rfl
  show (do
    if !(2 == 2 || 2 == 3) || [e, f].length != 2 || env.blockKind != .function then return none
    if [e, f].any fun | .Starred .. => true | _ => false then return none
    let names := [Expr.Name x p, Expr.Name y q].filterMap fun
      | .Name id pos => if env.kindOf id == some .local && pos.line == p.line then some id else none
      | _ => none
    if names.length != 2 || names.eraseDups.length != names.length then return none
    if [e, f].all (foldedForSure 8) then return none
    if [e, f].all (constantsAlone 8) then unsupported "assign.tuple-of-constant-expressions:order-of-the-stores"
    return some names : Sem (Option (List Str))) = _
  rw [hn, h0, hb, hc, hc2]
  simp only [hd]
  rfl
end Mine
end

section
open PySem PySem.W PyProof.Rows PySem.SeqAt
set_option maxRecDepth 100000
namespace Mine

/-! ## The order of pairs is strict and total -/

theorem lexLt_irr : ∀ a : List Int, lexLt a a = false
  | [] => rfl
  | x :: a => by rw [lexLt, if_pos (by simp)]; exact lexLt_irr a
theorem lexLt_tri : ∀ a b : List Int, a ≠ b → lexLt b a = !lexLt a b
  | [], [], h => (h rfl).elim
  | [], _ :: _, _ => rfl
  | _ :: _, [], _ => rfl
  | x :: a, y :: b, h => by
    rw [lexLt, lexLt]
    by_cases e : x = y
    · subst e
      rw [if_pos (by simp), if_pos (by simp)]
      exact lexLt_tri a b fun z => h (by rw [z])
    · rw [if_neg (by simpa using Ne.symm e), if_neg (by simpa using e)]
      by_cases hl : x < y
      · rw [decide_eq_true hl, decide_eq_false (by omega)]; rfl
      · rw [decide_eq_false hl, decide_eq_true (by omega)]; rfl
theorem lexLt_tr : ∀ a b c : List Int, lexLt a b = true → lexLt b c = true → lexLt a c = true
  | [], [], _, h, _ => by cases h
  | [], _ :: _, [], _, h => by cases h
  | [], _ :: _, _ :: _, _, _ => rfl
  | _ :: _, [], _, h, _ => by cases h
  | _ :: _, _ :: _, [], _, h => by cases h
  | x :: a, y :: b, z :: c, h1, h2 => by
    rw [lexLt] at h1 h2 ⊢
    by_cases e1 : x = y
    · subst e1
      rw [if_pos (by simp)] at h1
      by_cases e2 : x = z
      · subst e2
        rw [if_pos (by simp)] at h2 ⊢
        exact lexLt_tr a b c h1 h2
      · rw [if_neg (by simpa using e2)] at h2 ⊢
        exact h2
    · rw [if_neg (by simpa using e1)] at h1
      by_cases e2 : y = z
      · subst e2
        rw [if_neg (by simpa using e1)]
        exact h1
      · rw [if_neg (by simpa using e2)] at h2
        have h1 := of_decide_eq_true h1
        have h2 := of_decide_eq_true h2
        rw [if_neg (by simp; omega)]
        exact decide_eq_true (by omega)

theorem lt2_irr (p : List Int × Int) : lt2 p p = false := by simp [lt2]
theorem lt2_tri (p q : List Int × Int) (h : p ≠ q) : lt2 q p = !lt2 p q := by
  unfold lt2
  by_cases e : p.1 = q.1
  · rw [if_pos (show (q.1 == p.1) = true by simp [e]), if_pos (show (p.1 == q.1) = true by simp [e])]
    have h2 : p.2 ≠ q.2 := fun z => h (Prod.ext e z)
    rw [if_neg (show ¬ (q.2 == p.2) = true by simpa using Ne.symm h2), if_neg (show ¬ (p.2 == q.2) = true by simpa using h2)]
    by_cases hl : p.2 < q.2
    · rw [decide_eq_true hl, decide_eq_false (by omega)]; rfl
    · rw [decide_eq_false hl, decide_eq_true (by omega)]; rfl
  · rw [if_neg (by simpa using Ne.symm e), if_neg (by simpa using e)]
    exact lexLt_tri _ _ e
theorem lt2_tr (p q r : List Int × Int) (h1 : lt2 p q = true) (h2 : lt2 q r = true) : lt2 p r = true := by
  unfold lt2 at h1 h2 ⊢
  by_cases e1 : p.1 = q.1
  · rw [if_pos (by simp [e1])] at h1
    by_cases e2 : q.1 = r.1
    · rw [if_pos (by simp [e2])] at h2
      rw [if_pos (by simp [e1, e2])]
      split at h1
      · cases h1
      · split at h2
        · cases h2
        · have h1 := of_decide_eq_true h1
          have h2 := of_decide_eq_true h2
          rw [if_neg (by simp; omega)]
          exact decide_eq_true (by omega)
    · rw [if_neg (by simpa using e2)] at h2
      rw [if_neg (by rw [e1]; simpa using e2), e1]
      exact h2
  · rw [if_neg (by simpa using e1)] at h1
    by_cases e2 : q.1 = r.1
    · rw [if_neg (by rw [← e2]; simpa using e1), ← e2]
      exact h1
    · rw [if_neg (by simpa using e2)] at h2
      have := lexLt_tr _ _ _ h1 h2
      rw [if_neg ?_]
      · exact this
      · intro z
        rw [beq_iff_eq] at z
        rw [z, lexLt_irr] at this; cases this

/-! ## A plain sort -/

noncomputable def ins {α : Type} (lt : α → α → Bool) (x : α) : List α → List α
  | [] => [x]
  | y :: l => if lt x y then x :: y :: l else y :: ins lt x l
noncomputable def isort {α : Type} (lt : α → α → Bool) : List α → List α
  | [] => []
  | x :: l => ins lt x (isort lt l)
theorem ins_perm {α : Type} (lt : α → α → Bool) (x : α) : ∀ l : List α, (ins lt x l).Perm (x :: l)
  | [] => .refl _
  | y :: l => by
    rw [ins]
    split
    · exact .refl _
    · exact ((ins_perm lt x l).cons y).trans (.swap ..)
theorem isort_perm {α : Type} (lt : α → α → Bool) : ∀ l : List α, (isort lt l).Perm l
  | [] => .refl _
  | x :: l => (ins_perm lt x _).trans ((isort_perm lt l).cons x)
theorem ins_sorted {α : Type} {lt : α → α → Bool} (htr : ∀ a b c, lt a b = true → lt b c = true → lt a c = true) (x : α) : ∀ l : List α, (∀ y ∈ l, lt y x = !lt x y) → l.Pairwise (fun a b => lt a b = true) → (ins lt x l).Pairwise (fun a b => lt a b = true)
  | [], _, _ => List.pairwise_singleton ..
  | y :: l, ht, h => by
    obtain ⟨h1, h2⟩ := List.pairwise_cons.mp h
    rw [ins]
    cases e : lt x y with
    | true =>
      rw [if_pos rfl]
      refine List.pairwise_cons.mpr ⟨fun z hz => ?_, h⟩
      rcases List.mem_cons.mp hz with rfl | hz
      · exact e
      · exact htr _ _ _ e (h1 z hz)
    | false =>
      rw [if_neg (by simp)]
      refine List.pairwise_cons.mpr ⟨fun z hz => ?_, ins_sorted htr x l (fun z hz => ht z (.tail _ hz)) h2⟩
      rcases List.mem_cons.mp ((ins_perm lt x l).mem_iff.mp hz) with rfl | hz
      · rw [ht y (.head _), e]; rfl
      · exact h1 z hz
theorem isort_sorted {α : Type} {lt : α → α → Bool} (htr : ∀ a b c, lt a b = true → lt b c = true → lt a c = true) (htri : ∀ a b, a ≠ b → lt b a = !lt a b) : ∀ l : List α, l.Nodup → (isort lt l).Pairwise (fun a b => lt a b = true)
  | [], _ => List.Pairwise.nil
  | x :: l, h => by
    obtain ⟨h1, h2⟩ := List.nodup_cons.mp h
    refine ins_sorted htr x _ (fun y hy => htri x y fun z => h1 ?_) (isort_sorted htr htri l h2)
    rw [z]; exact (isort_perm lt l).mem_iff.mp hy
theorem ins_map {α β : Type} {f : α → β} {lt : α → α → Bool} {lt' : β → β → Bool} (h : ∀ a b, lt' (f a) (f b) = lt a b) (x : α) : ∀ l : List α, (ins lt x l).map f = ins lt' (f x) (l.map f)
  | [] => rfl
  | y :: l => by
    rw [ins, List.map_cons, ins, h]
    split
    · rfl
    · rw [List.map_cons, ins_map h x l]
theorem isort_map {α β : Type} {f : α → β} {lt : α → α → Bool} {lt' : β → β → Bool} (h : ∀ a b, lt' (f a) (f b) = lt a b) : ∀ l : List α, (isort lt l).map f = isort lt' (l.map f)
  | [] => rfl
  | x :: l => by rw [isort, ins_map h, isort_map h l]; rfl
end Mine
end

section
open PySem PySem.W PyProof.Rows PySem.SeqAt
set_option maxRecDepth 100000
namespace Mine

/-- the program's context -/
@[reducible] noncomputable def cx (w : World) (mg mb : Str → Option Value) : Cx := ⟨PySem.Challenge.rw_pe0086_01.row.prog, w, hd.heap_39 w.params, mg, mb⟩

theorem lk_hit {x : Str} {av : AV} {ρ : List (Str × AV)} : ((x, av) :: ρ).lookup x = some av := by rw [lookup_cons_eq, if_pos rfl]
theorem lk_skip {x y : Str} {av b : AV} {ρ : List (Str × AV)} (hn : (x == y) = false) (h : ρ.lookup x = some av) : ((y, b) :: ρ).lookup x = some av := by
  rw [lookup_cons_eq, if_neg (fun z => by rw [z] at hn; simp at hn)]; exact h

section
variable {c : Cx} {n : Nat} {κ : Sta} {sts : List Str} {Xo X : List Addr} {ρ : List (Str × AV)}
theorem Ex.ifRet {t : Expr} {body rest : List Stmt} {pos : Pos} {b : Bool} {r : AV} (ht : Ts c n κ X ρ t b) (h1 : b = true → Ex c n κ sts Xo X ρ body (.ret r)) (h2 : b = false → Ex c n κ sts Xo X ρ rest (.ret r)) :
    Ex c n κ sts Xo X ρ (.If t body [] pos :: rest) (.ret r) := by
  cases b with
  | true => exact Ex.ret (Sx.iff ht h1 nofun)
  | false => exact Ex.cons (Sx.iff (o := .next X ρ) ht nofun fun _ => Ex.nil) (h2 rfl)
theorem Ex.retE {e : Expr} {pos : Pos} {rest : List Stmt} {d d' : PyData} (h : Ev c n κ X ρ e (.dat d)) (hd : d = d') : Ex c n κ sts Xo X ρ (.Return (some e) pos :: rest) (.ret (.dat d')) := Ex.ret (hd ▸ Sx.ret h)
end

/-- the names of the text -/
structure Gs (mg : Str → Option Value) : Prop where
  tc : mg (Str.ofString "TupleComp") = some (.ref 38)
  mark : ∃ t, mg (Str.ofString "ELLIPSIS_MARKER") = some (.str (Str.ofString "...") t)
  em : mg (Str.ofString "_ellipsis_match") = some (.ref 49)
  cram : mg (Str.ofString "cram") = some (.ref 56)
  split : mg (Str.ofString "_split_list") = some (.ref 63)
  person : mg (Str.ofString "_law_person") = some (.ref 68)
  wishes : mg (Str.ofString "_law_wishes") = some (.ref 75)
  line : mg (Str.ofString "_law_line") = some (.ref 80)
  firm : mg (Str.ofString "_law_firm") = some (.ref 87)
  liked : mg (Str.ofString "_law_liked") = some (.ref 94)
  best : mg (Str.ofString "_law_best") = some (.ref 101)
  asked : mg (Str.ofString "_law_asked") = some (.ref 106)
  len : mg (Str.ofString "len") = none
  max : mg (Str.ofString "max") = none
  min : mg (Str.ofString "min") = none
  sum : mg (Str.ofString "sum") = none
  range : mg (Str.ofString "range") = none
  sorted : mg (Str.ofString "sorted") = none
  list : mg (Str.ofString "list") = none

theorem bb_len : bootBuiltins (Str.ofString "len") = some (.builtin "len") := by decide +kernel
theorem bb_max : bootBuiltins (Str.ofString "max") = some (.builtin "max") := by decide +kernel
theorem bb_min : bootBuiltins (Str.ofString "min") = some (.builtin "min") := by decide +kernel
theorem bb_sum : bootBuiltins (Str.ofString "sum") = some (.builtin "sum") := by decide +kernel
theorem bb_sorted : bootBuiltins (Str.ofString "sorted") = some (.builtin "sorted") := by decide +kernel
theorem bb_list : bootBuiltins (Str.ofString "list") = some (.type "list") := by decide +kernel

theorem tc_of (P : Params) : Tc (hd.heap_39 P) where
  mks := by kernel_rfl
  init := by kernel_rfl
  fty := by kernel_rfl
  fn := ⟨_, _, _, _, _, ⟨⟨_, rfl, rfl⟩, rfl, rfl, rfl, rfl, rfl, rfl, rfl, by kernel_rfl, fun vs hl => bind2 (fun _ _ => rfl) vs hl, by kernel_rfl, by kernel_rfl⟩, by decide +kernel, by kernel_rfl, by kernel_rfl⟩
  ga := by kernel_rfl
  gt := by kernel_rfl
  st := by kernel_rfl
  plain := by kernel_rfl
  taker := by kernel_rfl
  has := by kernel_rfl
  fa := by kernel_rfl
  cmp := by kernel_rfl
  cty := by kernel_rfl
  keep := by kernel_rfl
end Mine
end

section
open PySem PySem.W PyProof.Rows PySem.SeqAt
set_option maxRecDepth 100000
namespace Mine
local macro_rules | `(tactic| walk_at "lk") => `(tactic| first | with_reducible exact lk_hit | (with_reducible apply lk_skip; decide +kernel; walk_at "lk"))
local macro_rules | `(tactic| walk_at "kd") => `(tactic| first | exact .inl (by assumption) | exact .inr (.inl (by assumption)) | exact .inr (.inr (by assumption)) | exact .inl (kd_keep (by decide +kernel) (by decide)) | exact .inr (.inl (kd_keep (by decide +kernel) (by decide))) | exact .inr (kd_free (by decide +kernel)))
local macro_rules | `(tactic| walk_at "kg") => `(tactic| first | assumption | exact kd_keep (by decide +kernel) (by decide))
local macro_rules | `(tactic| walk_at "st") => `(tactic| first | (simp only [stOk, *]; rfl) | (simp only [stOk, kd_keep (show List.lookup _ _ = some NameKind.local by decide +kernel) (by decide)]; rfl) | (simp only [stOk, Bool.or_eq_true]; exact .inr (by decide +kernel)))
local macro_rules | `(tactic| walk_at "op") => `(tactic| first
  | exact op_add | exact op_sub | exact op_lt | exact op_gt | exact op_ge | exact op_eqi | exact op_nei | exact op_div (by decide) (by decide) | exact op_mod (by decide) (by decide) | exact op_mul (IntMulOk.of_left (by decide)))
local macro_rules | `(tactic| walk_at "as") => `(tactic| first | with_reducible exact EvAs.nil | (with_reducible apply EvAs.cons; walk_at "ev"; walk_at "as"; rfl))
local macro_rules | `(tactic| walk_at "ev") => `(tactic| first
  | with_reducible exact Ev.int
  | with_reducible exact Ev.bool
  | with_reducible exact Ev.str
  | (with_reducible apply Ev.name; walk_at "lk"; walk_at "kd"; decide +kernel; decide +kernel)
  | (with_reducible apply Ev.bin; walk_at "ev"; walk_at "ev"; walk_at "op")
  | (with_reducible apply Ev.cmp; walk_at "ev"; walk_at "ev"; walk_at "op"; with_unfolding_all rfl)
  | (with_reducible apply Ev.neg; walk_at "ev")
  | (with_reducible apply Ev.and; walk_at "ev"; intro _; walk_at "ev")
  | (with_reducible apply Ev.or; walk_at "ev"; intro _; walk_at "ev"))
local macro_rules | `(tactic| walk_at "ts") => `(tactic| first
  | (with_reducible apply Ts.cmp; walk_at "ev"; walk_at "ev"; walk_at "op"; with_unfolding_all rfl)
  | (with_reducible apply Ts.and; walk_at "ts"; intro _; walk_at "ts")
  | (with_reducible apply Ts.or; walk_at "ts"; intro _; walk_at "ts"))
local macro_rules | `(tactic| walk_at "less") => `(tactic| first | with_reducible exact Less.nil | (with_reducible apply Less.cons; walk_at "lk"; walk_at "less"))
local macro_rules | `(tactic| walk_at "fr") => `(tactic| first | exact Frees.nil | (apply Frees.skip (by rfl); walk_at "fr") | (apply Frees.free; walk_at "lk"; (first | exact .inl (by assumption) | exact .inr (by assumption) | exact kd_free (by decide +kernel) | exact .inl (kd_keep (by decide +kernel) (by decide))); rfl; walk_at "fr"))


noncomputable def wide (x : Int) : Int := (x.fdiv 64).fmod 4
noncomputable def wishes (x y : Int) : Bool :=
  if wide x == 3 then x.fmod 64 == y.fmod 64
  else if decide (0 < wide x) && ((x.fdiv 32).fmod 2 != (y.fdiv 32).fmod 2) then false
  else decide (wide x < 2) || (x.fmod 2 == y.fmod 2)

theorem fn_wishes (w : World) (mg mb : Str → Option Value) (n : Nat) (hn : n < 70) (x y : Int) : Fn (cx w mg mb) (n + 1) 75 [.dat (.int x), .dat (.int y)] (.dat (.bool (wishes x y))) := by
  refine Fn.of_body (names := [Str.ofString "x", Str.ofString "y"]) ⟨⟨_, rfl, rfl⟩, rfl, rfl, rfl, rfl, rfl, rfl, rfl, by kernel_rfl, fun vs hl => ?_, by kernel_rfl, by kernel_rfl⟩ hn rfl (by simp [AV.at?]) ?_
  · exact bind2 (fun _ _ => rfl) vs hl
  intro X
  generalize hκ : Sta.of _ = κ
  have k1 : κ.kd (Str.ofString "x") = some .local := by rw [← hκ]; rfl
  have k2 : κ.kd (Str.ofString "y") = some .local := by rw [← hκ]; rfl
  have k3 : κ.kd (Str.ofString "wide") = some .local := by rw [← hκ]; rfl
  clear hκ
  simp only [bindρ]
  refine Ex.cons (Sx.assign (by walk_at "ev") (Tg.name (by simp only [stOk, k3]; rfl))) ?_
  refine Ex.ifRet (by walk_at "ts") (fun h => ?_) fun h => ?_
  · refine Ex.retE (by walk_at "ev") ?_
    rw [wishes, wide, if_pos h]
  refine Ex.ifRet (by walk_at "ts") (fun h2 => ?_) fun h2 => ?_
  · refine Ex.retE (by walk_at "ev") ?_
    rw [wishes, wide, if_neg (ne_true_of_eq_false h), if_pos h2]
  · refine Ex.retE (by walk_at "ev") ?_
    rw [wishes, wide, if_neg (ne_true_of_eq_false h), if_neg (ne_true_of_eq_false h2)]

/-! ## _split_list -/
theorem fn_split (w : World) (mg mb : Str → Option Value) (n : Nat) (hn : n < 70) (xs dom : List PyData) (p : PyData → Bool) (hd : ∀ x ∈ xs, x ∈ dom) (hz : xs.length ≤ 1000) :
    Fn (cx w mg mb) (n + 1) 63 [.dat (.list xs), .fnp n dom p] (.dat (.tuple [.list (xs.filter p), .list (xs.filter fun x => !p x)])) := by
  refine Fn.of_body (names := [Str.ofString "s", Str.ofString "predicate"]) ⟨⟨_, rfl, rfl⟩, rfl, rfl, rfl, rfl, rfl, rfl, rfl, by kernel_rfl, fun vs hl => ?_, by kernel_rfl, by kernel_rfl⟩ hn rfl (by simp [AV.at?]) ?_
  · exact bind2 (fun _ _ => rfl) vs hl
  intro X
  generalize hκ : Sta.of _ = κ
  have k1 : κ.kd (Str.ofString "s") = some .local := by rw [← hκ]; rfl
  have k2 : κ.kd (Str.ofString "predicate") = some .local := by rw [← hκ]; rfl
  have k3 : κ.kd (Str.ofString "yes") = some .local := by rw [← hκ]; rfl
  have k4 : κ.kd (Str.ofString "no") = some .local := by rw [← hκ]; rfl
  have k5 : κ.kd (Str.ofString "x") = some .local := by rw [← hκ]; rfl
  clear hκ
  simp only [bindρ]
  refine Ex.assignN (xs := []) (EvN.list (ds := []) .nil) k3 fun a ha => ?_
  refine Ex.assignN (xs := []) (EvN.list (ds := []) .nil) k4 fun b hb => ?_
  have hab : b ≠ a := fun z => hb (z ▸ .head _)
  refine Ex.for (EvIt.list (by walk_at "ev")) (Fo.fold (fun q : List PyData × List PyData => [(Str.ofString "no", AV.own b q.2), (Str.ofString "yes", .own a q.1), (Str.ofString "predicate", .fnp n dom p), (Str.ofString "s", .dat (.list xs))])
    (fun q d => if p d then (q.1 ++ [d], q.2) else (q.1, q.2 ++ [d])) (fun q ds => (∀ x ∈ ds, x ∈ dom) ∧ q.1.length + ds.length ≤ 1000 ∧ q.2.length + ds.length ≤ 1000) (fun q d rest hi => ?_) xs ([], []) ⟨hd, by simpa using hz, by simpa using hz⟩) ?_
  · obtain ⟨h1, h2, h3⟩ := hi
    simp only [List.length_cons] at h2 h3
    refine ⟨_, Tg.name (by walk_at "st"), ?_, ?_⟩
    · refine Ex.cons (Sx.iff (b := p d) (Ts.val (Ev.callP (by walk_at "ev") (by walk_at "ev") (h1 d (.head _)))) (fun hb => ?_) fun hb => ?_) Ex.nil
      · rw [if_pos hb]
        refine Ex.less (Ex.cons (Sx.append (a := a) (by walk_at "lk") k3 (by walk_at "ev") (by omega) ?_ rfl rfl (by decide +kernel) (by decide +kernel)) Ex.nil) (by dsimp only; walk_at "less")
        intro y e zs m
        simp at m
        rcases m with ⟨rfl, rfl, _⟩ | ⟨rfl, rfl, _⟩
        · exact .inr hab
        · exact .inl rfl
      · rw [if_neg (by rw [hb]; simp)]
        refine Ex.less (Ex.cons (Sx.append (a := b) (by walk_at "lk") k4 (by walk_at "ev") (by omega) ?_ rfl rfl (by decide +kernel) (by decide +kernel)) Ex.nil) (by dsimp only; walk_at "less")
        intro y e zs m
        simp at m
        rcases m with ⟨rfl, rfl, _⟩ | ⟨rfl, rfl, _⟩
        · exact .inl rfl
        · exact .inr hab.symm
    · refine ⟨fun x hx => h1 x (.tail _ hx), ?_, ?_⟩ <;> (split <;> simp <;> omega)
  · have e : ∀ (ds : List PyData) (q : List PyData × List PyData), ds.foldl (fun q d => if p d then (q.1 ++ [d], q.2) else (q.1, q.2 ++ [d])) q = (q.1 ++ ds.filter p, q.2 ++ ds.filter fun x => !p x) := by
      intro ds
      induction ds with
      | nil => intro q; simp
      | cons d ds ih =>
        intro q
        rw [List.foldl_cons, ih]
        cases hb : p d <;> simp [hb]
    rw [e]
    simp only [List.nil_append]
    exact Ex.ret (Sx.retO2 (by walk_at "lk") k3 (by walk_at "lk") k4)

/-! ## compare -/
noncomputable abbrev DK (k : Int × Int) : PyData := .tuple [.int k.1, .int k.2]
noncomputable def cmpO (ls rs : List Int) : List (Int × Int) → Option Int
  | [] => none
  | k :: ks => if decide (ls.getD k.1.toNat 0 < rs.getD k.1.toNat 0) then some (-k.2) else if decide (rs.getD k.1.toNat 0 < ls.getD k.1.toNat 0) then some k.2 else cmpO ls rs ks

theorem get3 {ls : List Int} (hl : ls.length = 3) {i : Int} (h0 : 0 ≤ i) (h2 : i ≤ 2) : seqIndex? i (ls.map PyData.int).length = some i.toNat ∧ (ls.map PyData.int)[i.toNat]? = some (.int (ls.getD i.toNat 0)) := by
  constructor
  · rw [List.length_map, hl]
    have : i = 0 ∨ i = 1 ∨ i = 2 := by omega
    rcases this with rfl | rfl | rfl <;> rfl
  · rw [List.getElem?_map, List.getD_eq_getElem?_getD]
    have : i.toNat < ls.length := by omega
    rw [List.getElem?_eq_getElem this]; rfl

theorem fn_compare (w : World) (mg mb : Str → Option Value) (n : Nat) (hn : n < 70) (ks : List (Int × Int)) (ls rs : List Int) (hk : ∀ k ∈ ks, 0 ≤ k.1 ∧ k.1 ≤ 2) (hl : ls.length = 3) (hr : rs.length = 3) :
    Fn (cx w mg mb) (n + 1) 35 [.inst (.list (ks.map DK)), .dat (.tuple (ls.map .int)), .dat (.tuple (rs.map .int))] (.dat (.int ((cmpO ls rs ks).getD 0))) := by
  refine Fn.of_body (names := [Str.ofString "self", Str.ofString "left", Str.ofString "right"]) ⟨⟨_, rfl, rfl⟩, rfl, rfl, rfl, rfl, rfl, rfl, rfl, by kernel_rfl, fun vs hl => ?_, by kernel_rfl, by kernel_rfl⟩ hn rfl (by simp [AV.at?]) ?_
  · exact bind3 (fun _ _ _ => rfl) vs hl
  intro X
  generalize hκ : Sta.of _ = κ
  have k1 : κ.kd (Str.ofString "self") = some .local := by rw [← hκ]; rfl
  have k2 : κ.kd (Str.ofString "left") = some .local := by rw [← hκ]; rfl
  have k3 : κ.kd (Str.ofString "right") = some .local := by rw [← hκ]; rfl
  have k4 : κ.kd (Str.ofString "index") = some .local := by rw [← hκ]; rfl
  have k5 : κ.kd (Str.ofString "direction") = some .local := by rw [← hκ]; rfl
  have k6 : κ.kd (Str.ofString "l") = some .local := by rw [← hκ]; rfl
  have k7 : κ.kd (Str.ofString "r") = some .local := by rw [← hκ]; rfl
  clear hκ
  simp only [bindρ]
  have T := tc_of w.params
  refine Ex.for (EvIt.list (Ev.attr (c := cx w mg mb) T (by walk_at "ev"))) (Fo.genM DK (fun _ : Unit => [(Str.ofString "right", .dat (.tuple (rs.map .int))), (Str.ofString "left", .dat (.tuple (ls.map .int))), (Str.ofString "self", .inst (.list (ks.map DK)))])
    (fun l _ => match cmpO ls rs l with | some v => .ret (.dat (.int v)) | none => .next X [(Str.ofString "right", .dat (.tuple (rs.map .int))), (Str.ofString "left", .dat (.tuple (ls.map .int))), (Str.ofString "self", .inst (.list (ks.map DK)))])
    (fun _ l => ∀ k ∈ l, 0 ≤ k.1 ∧ k.1 ≤ 2) (fun _ _ => rfl) (fun _ k rest hi => ?_) ks () hk) ?_
  · obtain ⟨h0, h2⟩ := hi k (.head _)
    refine ⟨_, Tg.pair (Tg.name (by walk_at "st")) (Tg.name (by walk_at "st")), ?_⟩
    have g1 := get3 hl h0 h2
    have g2 := get3 hr h0 h2
    by_cases hlt : decide (ls.getD k.1.toNat 0 < rs.getD k.1.toNat 0) = true
    · refine .inl ⟨_, ?_, by show (match cmpO ls rs (k :: rest) with | some v => Out.ret (.dat (.int v)) | none => _) = _; rw [cmpO, if_pos hlt]⟩
      refine Ex.cons (Sx.assign (Ev.itemT (by walk_at "ev") (by walk_at "ev") g1.1 g1.2) (Tg.name (by walk_at "st"))) ?_
      refine Ex.cons (Sx.assign (Ev.itemT (by walk_at "ev") (by walk_at "ev") g2.1 g2.2) (Tg.name (by walk_at "st"))) ?_
      refine Ex.ret (Sx.iff (b := true) (by rw [← hlt]; walk_at "ts") (fun _ => ?_) nofun)
      exact Ex.ret (Sx.ret (by walk_at "ev"))
    · by_cases hgt : decide (rs.getD k.1.toNat 0 < ls.getD k.1.toNat 0) = true
      · refine .inl ⟨_, ?_, by show (match cmpO ls rs (k :: rest) with | some v => Out.ret (.dat (.int v)) | none => _) = _; rw [cmpO, if_neg hlt, if_pos hgt]⟩
        refine Ex.cons (Sx.assign (Ev.itemT (by walk_at "ev") (by walk_at "ev") g1.1 g1.2) (Tg.name (by walk_at "st"))) ?_
        refine Ex.cons (Sx.assign (Ev.itemT (by walk_at "ev") (by walk_at "ev") g2.1 g2.2) (Tg.name (by walk_at "st"))) ?_
        refine Ex.cons (Sx.iff (b := false) (by rw [← Bool.eq_false_iff.mpr hlt]; walk_at "ts") nofun fun _ => Ex.nil) ?_
        refine Ex.ret (Sx.iff (b := true) (by rw [← hgt]; walk_at "ts") (fun _ => ?_) nofun)
        exact Ex.ret (Sx.ret (by walk_at "ev"))
      · refine .inr ⟨(), ?_, fun q hq => hi q (.tail _ hq), by show (match cmpO ls rs (k :: rest) with | some v => Out.ret (.dat (.int v)) | none => _) = _; rw [cmpO, if_neg hlt, if_neg hgt]⟩
        refine Ex.cons (Sx.assign (Ev.itemT (by walk_at "ev") (by walk_at "ev") g1.1 g1.2) (Tg.name (by walk_at "st"))) ?_
        refine Ex.cons (Sx.assign (Ev.itemT (by walk_at "ev") (by walk_at "ev") g2.1 g2.2) (Tg.name (by walk_at "st"))) ?_
        refine Ex.cons (Sx.iff (b := false) (by rw [← Bool.eq_false_iff.mpr hlt]; walk_at "ts") nofun fun _ => Ex.nil) ?_
        refine Ex.less (Ex.cons (Sx.iff (b := false) (by rw [← Bool.eq_false_iff.mpr hgt]; walk_at "ts") nofun fun _ => Ex.nil) Ex.nil) (by walk_at "less")
  · cases hc : cmpO ls rs ks with
    | some v => rfl
    | none =>
      show Ex (cx w mg mb) n κ _ X X [(Str.ofString "right", .dat (.tuple (rs.map .int))), (Str.ofString "left", .dat (.tuple (ls.map .int))), (Str.ofString "self", .inst (.list (ks.map DK)))] _ _
      exact Ex.retE (d := .int 0) (by walk_at "ev") rfl

/-! ## cram -/
noncomputable def mx0 (b : Int) : Int := if b > 0 then b else 0
noncomputable def cramS (x : Str) (m : Int) : Str :=
  if decide (m < (x.length : Int)) then
    pySlS x none (some (mx0 ((m - 3).fdiv 2))) ++ Str.ofString "..." ++ pySlS x (some ((x.length : Int) - mx0 (m - 3 - mx0 ((m - 3).fdiv 2)))) none
  else x

theorem fn_cram (w : World) (mg mb : Str → Option Value) (Z : Gs mg) (n : Nat) (hn : n < 70) (x : Str) (m : Int) (hx : x.length ≤ 100)
    (h1 : (pySlS x none (some (mx0 ((m - 3).fdiv 2)))).length ≤ 100) (h2 : (pySlS x (some ((x.length : Int) - mx0 (m - 3 - mx0 ((m - 3).fdiv 2)))) none).length ≤ 100)
    (h3 : (pySlS x none (some (mx0 ((m - 3).fdiv 2))) ++ Str.ofString "...").length ≤ 200) :
    Fn (cx w mg mb) (n + 1) 56 [.dat (.str x), .dat (.int m)] (.dat (.str (cramS x m))) := by
  refine Fn.of_body (names := [Str.ofString "text", Str.ofString "maxlen"]) ⟨⟨_, rfl, rfl⟩, rfl, rfl, rfl, rfl, rfl, rfl, rfl, by kernel_rfl, fun vs hl => ?_, by kernel_rfl, by kernel_rfl⟩ hn rfl (by simp [AV.at?]) ?_
  · exact bind2 (fun _ _ => rfl) vs hl
  intro X
  generalize hκ : Sta.of _ = κ
  have k1 : κ.kd (Str.ofString "text") = some .local := by rw [← hκ]; rfl
  have k2 : κ.kd (Str.ofString "maxlen") = some .local := by rw [← hκ]; rfl
  have k3 : κ.kd (Str.ofString "pre") = some .local := by rw [← hκ]; rfl
  have k4 : κ.kd (Str.ofString "post") = some .local := by rw [← hκ]; rfl
  have k5 : κ.kd (Str.ofString "len") = some .globalImplicit := by rw [← hκ]; rfl
  have k6 : κ.kd (Str.ofString "max") = some .globalImplicit := by rw [← hκ]; rfl
  clear hκ
  simp only [bindρ]
  have hlen : ∀ {ρ : List (Str × AV)} {p pos : Pos} {e : Expr} {X}, Ev (cx w mg mb) n κ X ρ e (.dat (.str x)) → notStar e = true → Ev (cx w mg mb) n κ X ρ (.Call (.Name (Str.ofString "len") p) [e] [] pos) (.dat (.int x.length)) := fun h hs =>
    Ev.callB k5 Z.len bb_len rfl (fn_len_str (by omega)) (.cons h .nil hs) (by decide +kernel) (by decide +kernel)
  have hmax : ∀ {ρ : List (Str × AV)} {p pos : Pos} {e f : Expr} {X} {b : Int}, Ev (cx w mg mb) n κ X ρ e (.dat (.int 0)) → Ev (cx w mg mb) n κ X ρ f (.dat (.int b)) → notStar e = true → notStar f = true → Ev (cx w mg mb) n κ X ρ (.Call (.Name (Str.ofString "max") p) [e, f] [] pos) (.dat (.int (mx0 b))) := fun h h' hs hs' =>
    Ev.callB k6 Z.max bb_max rfl fn_max2 (.cons h (.cons h' .nil hs') hs) (by decide +kernel) (by decide +kernel)
  refine Ex.ifRet (Ts.cmp (hlen (by walk_at "ev") rfl) (by walk_at "ev") op_gt) (fun hb => ?_) fun hb => ?_
  · refine Ex.cons (Sx.assign (hmax (by walk_at "ev") (by walk_at "ev") rfl rfl) (Tg.name (by walk_at "st"))) ?_
    refine Ex.cons (Sx.assign (hmax (by walk_at "ev") (by walk_at "ev") rfl rfl) (Tg.name (by walk_at "st"))) ?_
    refine Ex.retE (Ev.bin (Ev.bin (Ev.sliceS (a := none) (b := some _) (by walk_at "ev") trivial (show Ev _ _ _ _ _ _ _ by walk_at "ev") (by omega)) (by walk_at "ev") (op_adds ?_)) (Ev.sliceS (a := some _) (b := none) (by walk_at "ev") (Ev.bin (hlen (by walk_at "ev") rfl) (by walk_at "ev") op_sub) trivial (by omega)) (op_adds ?_)) ?_
    · have : (Str.ofString "...").length = 3 := by decide +kernel
      omega
    · omega
    · rw [cramS, if_pos hb]
  · refine Ex.retE (by walk_at "ev") ?_
    rw [cramS, if_neg (by rw [hb]; simp)]

/-! ## _ellipsis_match -/
noncomputable abbrev MK : Str := Str.ofString "..."
noncomputable def findI (got w : Str) (i j : Int) : Int := match Builtin.Str.occurrences got w (fromIndex got.length i) (min (fromIndex got.length j) got.length) 1 with | k :: _ => (k : Int) | [] => -1
noncomputable def emLoop (got : Str) (e : Int) : List Str → Int → Bool
  | [], _ => true
  | w :: ws, s => if decide (findI got w s e < 0) then false else emLoop got e ws (findI got w s e + w.length)
noncomputable def emRun (got : Str) (e : Int) : List Str → Int → Option Int
  | [], s => some s
  | w :: ws, s => if decide (findI got w s e < 0) then none else emRun got e ws (findI got w s e + w.length)
theorem emRun_is (got : Str) (e : Int) : ∀ (ws : List Str) (s : Int), emLoop got e ws s = (emRun got e ws s).isSome
  | [], _ => rfl
  | w :: ws, s => by
    rw [emLoop, emRun]
    split
    · rfl
    · exact emRun_is got e ws _
noncomputable def emC (got : Str) (s e : Int) (ws : List Str) : Bool := if decide (e < s) then false else emLoop got e ws s
noncomputable def full (w : Str) : Bool := (w.length : Int) != 0
noncomputable def emB (got : Str) (s e : Int) (ws : List Str) : Bool :=
  if full (ws.getD (ws.length - 1) Str.empty) && !Txt.endswith got (ws.getD (ws.length - 1) Str.empty) then false
  else emC got s (if full (ws.getD (ws.length - 1) Str.empty) then e - (ws.getD (ws.length - 1) Str.empty).length else e) (if full (ws.getD (ws.length - 1) Str.empty) then ws.eraseIdx (ws.length - 1) else ws)
noncomputable def emA (got : Str) (ws : List Str) : Bool :=
  if full (ws.getD 0 Str.empty) && !Txt.startswith got (ws.getD 0 Str.empty) then false
  else emB got (if full (ws.getD 0 Str.empty) then (ws.getD 0 Str.empty).length else 0) got.length (if full (ws.getD 0 Str.empty) then ws.eraseIdx 0 else ws)
noncomputable def emS (want got : Str) : Bool :=
  if !(!(Builtin.Str.occurrences want MK 0 want.length 1).isEmpty) then want == got else emA got (Txt.split want MK)

theorem erase_map {α β : Type} (f : α → β) : ∀ (l : List α) (k : Nat), (l.map f).eraseIdx k = (l.eraseIdx k).map f
  | [], _ => rfl
  | _ :: _, 0 => rfl
  | a :: l, k + 1 => by simp [erase_map f l k]
theorem getS {ws : List Str} {j : Nat} (hj : j < ws.length) : (ws.map PyData.str)[j]? = some (.str (ws.getD j Str.empty)) := by
  rw [List.getElem?_map, List.getD_eq_getElem?_getD, List.getElem?_eq_getElem hj]; rfl
theorem seq_last {m : Nat} (h : 1 ≤ m) : seqIndex? (-1) m = some (m - 1) := seqIndex?_neg_one h
theorem seq_zero {m : Nat} (h : 1 ≤ m) : seqIndex? 0 m = some 0 := seqIndex?_zero h

theorem fn_em (w : World) (mg mb : Str → Option Value) (Z : Gs mg) (n : Nat) (hn : n < 70) (want got : Str) (h1 : want.length ≤ 100) (h2 : got.length ≤ 100)
    (h3 : (!(!(Builtin.Str.occurrences want MK 0 want.length 1).isEmpty)) = false → 2 ≤ (Txt.split want MK).length ∧ (Txt.split want MK).length ≤ 100 ∧ (∀ x ∈ Txt.split want MK, x.length ≤ 100) ∧ (Builtin.Str.partsBetween want (Builtin.Str.occurrences want MK 0 want.length (want.length + 1)) MK.length).length ≤ 1000) :
    Fn (cx w mg mb) (n + 1) 49 [.dat (.str want), .dat (.str got)] (.dat (.bool (emS want got))) := by
  refine Fn.of_body (names := [Str.ofString "want", Str.ofString "got"]) ⟨⟨_, rfl, rfl⟩, rfl, rfl, rfl, rfl, rfl, rfl, rfl, by kernel_rfl, fun vs hl => ?_, by kernel_rfl, by kernel_rfl⟩ hn rfl (by simp [AV.at?]) ?_
  · exact bind2 (fun _ _ => rfl) vs hl
  intro X
  generalize hκ : Sta.of _ = κ
  have k1 : κ.kd (Str.ofString "want") = some .local := by rw [← hκ]; rfl
  have k2 : κ.kd (Str.ofString "got") = some .local := by rw [← hκ]; rfl
  have k3 : κ.kd (Str.ofString "ws") = some .local := by rw [← hκ]; rfl
  have k4 : κ.kd (Str.ofString "startpos") = some .local := by rw [← hκ]; rfl
  have k5 : κ.kd (Str.ofString "endpos") = some .local := by rw [← hκ]; rfl
  have k6 : κ.kd (Str.ofString "w") = some .local := by rw [← hκ]; rfl
  have k7 : κ.kd (Str.ofString "len") = some .globalImplicit := by rw [← hκ]; rfl
  have k8 : κ.kd (Str.ofString "ELLIPSIS_MARKER") = some .globalImplicit := by rw [← hκ]; rfl
  have kf : κ.scope.kind = .function := by rw [← hκ]; rfl
  clear hκ
  simp only [bindρ]
  obtain ⟨tm, hmark⟩ := Z.mark
  have hmk : ∀ {ρ : List (Str × AV)} {p : Pos} {X}, Ev (cx w mg mb) n κ X ρ (.Name (Str.ofString "ELLIPSIS_MARKER") p) (.dat (.str MK)) := Ev.glob k8 hmark (fun h => Rd.str _ _) (by decide +kernel)
  have hlen : ∀ {ρ : List (Str × AV)} {p pos : Pos} {e : Expr} {X} {x : Str}, Ev (cx w mg mb) n κ X ρ e (.dat (.str x)) → x.length ≤ 100 → notStar e = true → Ev (cx w mg mb) n κ X ρ (.Call (.Name (Str.ofString "len") p) [e] [] pos) (.dat (.int x.length)) := fun h hx hs =>
    Ev.callB k7 Z.len bb_len rfl (fn_len_str (by omega)) (.cons h .nil hs) (by decide +kernel) (by decide +kernel)
  have hlenO : ∀ {ρ : List (Str × AV)} {p pos : Pos} {e : Expr} {X} {a : Addr} {xs : List PyData}, Ev (cx w mg mb) n κ X ρ e (.own a xs) → xs.length ≤ 100 → notStar e = true → Ev (cx w mg mb) n κ X ρ (.Call (.Name (Str.ofString "len") p) [e] [] pos) (.dat (.int xs.length)) := fun h hx hs =>
    Ev.callB k7 Z.len bb_len rfl (fn_len_list rfl (by omega)) (.cons h .nil hs) (by decide +kernel) (by decide +kernel)
  refine Ex.ifRet (Ts.cmp hmk (by walk_at "ev") op_notIns) (fun hb => ?_) fun hb => ?_
  · refine Ex.retE (Ev.cmp (by walk_at "ev") (by walk_at "ev") op_eqs) ?_
    rw [emS, if_pos hb]
  obtain ⟨g1, g2, g3, g4⟩ := h3 hb
  rw [emS, if_neg (by rw [hb]; simp)]
  generalize hws : Txt.split want MK = ws at g1 g2 g3
  refine Ex.assignN (xs := ws.map .str) (hws ▸ EvN.split (by walk_at "ev") hmk (by decide +kernel) (by omega) g4) k3 fun a ha => ?_
  refine Ex.cons (Sx.assert (Ts.cmp (t := true) (hlenO (by walk_at "ev") (by simpa using g2) rfl) (by walk_at "ev") (by
    have : decide ((2 : Int) ≤ (List.map PyData.str ws).length) = true := by simp; omega
    rw [← this]; exact op_ge))) ?_
  refine Ex.cons (Sx.swap2 (by walk_at "ev") (hlen (by walk_at "ev") h2 rfl) k4 k5 ?_) ?_
  · intro env he
    refine swap2_ok (by unfold Env.blockKind; rw [he, kf]; rfl) (by show env.scope.names.lookup _ = _; rw [he]; exact k4) (by show env.scope.names.lookup _ = _; rw [he]; exact k5) rfl (by decide +kernel) rfl rfl rfl rfl
  have hl0 : 0 < ws.length := by omega
  refine Ex.cons (Sx.assign (Ev.itemO (by walk_at "ev") (by walk_at "ev") (seq_zero (by simp; omega)) (getS hl0)) (Tg.name (by walk_at "st"))) ?_
  generalize hw0 : ws.getD 0 Str.empty = w0
  have hw0l : w0.length ≤ 100 := by
    rw [← hw0, List.getD_eq_getElem?_getD, List.getElem?_eq_getElem hl0]
    exact g3 _ (List.getElem_mem hl0)
  have al : ∀ (r : List (Str × AV)) (xs : List PyData), (∀ y b zs, (y, AV.own b zs) ∈ r → y = Str.ofString "ws") → Alone r (Str.ofString "ws") a := fun r xs h y b zs m => .inl (h y b zs m)
  rw [emA, hw0]
  by_cases hA : (full w0 && !Txt.startswith got w0) = true
  · rw [if_pos hA]
    obtain ⟨hA1, hA2⟩ := Bool.and_eq_true_iff.mp hA
    refine Ex.ret (Sx.iff (b := true) (by rw [← hA1]; exact Ts.str (by walk_at "ev") (by omega)) (fun _ => ?_) nofun)
    refine Ex.ret (Sx.iff (b := false) (by
      have : Txt.startswith got w0 = false := by simpa using hA2
      rw [← this]; exact Ts.val (Ev.startswith (by walk_at "ev") (by walk_at "ev"))) nofun fun _ => ?_)
    exact Ex.ret (Sx.ret (by walk_at "ev"))
  rw [if_neg hA]
  refine Ex.cons (Sx.less (X' := a :: X) (ρ2 := [(Str.ofString "startpos", .dat (.int (if full w0 then (w0.length : Int) else 0))), (Str.ofString "endpos", .dat (.int got.length)), (Str.ofString "ws", .own a ((if full w0 then ws.eraseIdx 0 else ws).map .str)), (Str.ofString "got", .dat (.str got))]) (Sx.iff (b := full w0) (o := .next (a :: X) [(Str.ofString "startpos", .dat (.int (if full w0 then (w0.length : Int) else 0))), (Str.ofString "endpos", .dat (.int got.length)), (Str.ofString "ws", .own a ((if full w0 then ws.eraseIdx 0 else ws).map .str)), (Str.ofString "got", .dat (.str got))]) (Ts.str (by walk_at "ev") (by omega)) (fun hf => ?_) fun hf => ?_) (.refl _)) ?_
  · rw [if_pos hf, if_pos hf]
    have hst : Txt.startswith got w0 = true := by
      cases hq : Txt.startswith got w0 with
      | true => rfl
      | false => exact (hA (by rw [hf, hq]; rfl)).elim
    refine Ex.less (Ex.cons (Sx.iff (b := true) (by rw [← hst]; exact Ts.val (Ev.startswith (by walk_at "ev") (by walk_at "ev"))) (fun _ => Ex.cons (Sx.assign (hlen (by walk_at "ev") hw0l rfl) (Tg.name (by walk_at "st"))) (Ex.cons (Sx.del (a := a) (by walk_at "lk") k3 (by walk_at "ev") (seq_zero (by simp; omega)) (by simp; omega) ?_ (by omega) (by decide +kernel) (by decide +kernel)) Ex.nil)) nofun) Ex.nil) ?_
    · intro y b zs m
      simp at m
      exact .inl m.1
    · rw [erase_map]
      walk_at "less"
  · rw [if_neg (by rw [hf]; simp), if_neg (by rw [hf]; simp)]
    exact Ex.less Ex.nil (by walk_at "less")
  generalize hs1 : (if full w0 then (w0.length : Int) else 0) = s1
  have hz1 : 1 ≤ (if full w0 then ws.eraseIdx 0 else ws).length := by
    split
    · rw [List.length_eraseIdx]; split <;> omega
    · omega
  have hz2 : (if full w0 then ws.eraseIdx 0 else ws).length ≤ 100 := by
    split
    · rw [List.length_eraseIdx]; split <;> omega
    · omega
  have hz3 : ∀ x ∈ (if full w0 then ws.eraseIdx 0 else ws), x.length ≤ 100 := by
    split
    · exact fun x hx => g3 x (List.mem_of_mem_eraseIdx hx)
    · exact g3
  generalize (if full w0 then ws.eraseIdx 0 else ws) = vs at hz1 hz2 hz3
  have hl1 : vs.length - 1 < vs.length := by omega
  refine Ex.cons (Sx.assign (Ev.itemO (by walk_at "ev") (by walk_at "ev") (by rw [List.length_map]; exact seq_last hz1) (getS hl1)) (Tg.name (by walk_at "st"))) ?_
  rw [emB]
  generalize hw1 : vs.getD (vs.length - 1) Str.empty = w1
  have hw1l : w1.length ≤ 100 := by
    rw [← hw1, List.getD_eq_getElem?_getD, List.getElem?_eq_getElem hl1]
    exact hz3 _ (List.getElem_mem hl1)
  by_cases hB : (full w1 && !Txt.endswith got w1) = true
  · rw [if_pos hB]
    obtain ⟨hB1, hB2⟩ := Bool.and_eq_true_iff.mp hB
    refine Ex.ret (Sx.iff (b := true) (by rw [← hB1]; exact Ts.str (by walk_at "ev") (by omega)) (fun _ => ?_) nofun)
    refine Ex.ret (Sx.iff (b := false) (by
      have : Txt.endswith got w1 = false := by simpa using hB2
      rw [← this]; exact Ts.val (Ev.endswith (by walk_at "ev") (by walk_at "ev"))) nofun fun _ => ?_)
    exact Ex.ret (Sx.ret (by walk_at "ev"))
  rw [if_neg hB]
  refine Ex.cons (Sx.iff (b := full w1) (o := .next (a :: X) [(Str.ofString "startpos", .dat (.int s1)), (Str.ofString "endpos", .dat (.int (if full w1 then (got.length : Int) - w1.length else got.length))), (Str.ofString "ws", .own a ((if full w1 then vs.eraseIdx (vs.length - 1) else vs).map .str)), (Str.ofString "got", .dat (.str got))]) (Ts.str (by walk_at "ev") (by omega)) (fun hf => ?_) fun hf => ?_) ?_
  · rw [if_pos hf, if_pos hf]
    have hst : Txt.endswith got w1 = true := by
      cases hq : Txt.endswith got w1 with
      | true => rfl
      | false => exact (hB (by rw [hf, hq]; rfl)).elim
    refine Ex.less (Ex.cons (Sx.iff (b := true) (by rw [← hst]; exact Ts.val (Ev.endswith (by walk_at "ev") (by walk_at "ev"))) (fun _ => Ex.cons (Sx.isub (by walk_at "lk") k5 (hlen (by walk_at "ev") hw1l rfl)) (Ex.cons (Sx.del (a := a) (by walk_at "lk") k3 (by walk_at "ev") (by rw [List.length_map]; exact seq_last hz1) (by simp; omega) ?_ (by omega) (by decide +kernel) (by decide +kernel)) Ex.nil)) nofun) Ex.nil) ?_
    · intro y b zs m
      simp at m
      exact .inl m.1
    · rw [erase_map]
      walk_at "less"
  · rw [if_neg (by rw [hf]; simp), if_neg (by rw [hf]; simp)]
    exact Ex.less Ex.nil (by walk_at "less")
  generalize (if full w1 then (got.length : Int) - w1.length else got.length) = e1
  have hy2 : (if full w1 then vs.eraseIdx (vs.length - 1) else vs).length ≤ 100 := by
    split
    · rw [List.length_eraseIdx]; split <;> omega
    · omega
  have hy3 : ∀ x ∈ (if full w1 then vs.eraseIdx (vs.length - 1) else vs), x.length ≤ 100 := by
    split
    · exact fun x hx => hz3 x (List.mem_of_mem_eraseIdx hx)
    · exact hz3
  generalize (if full w1 then vs.eraseIdx (vs.length - 1) else vs) = us at hy2 hy3
  rw [emC]
  refine Ex.ifRet (by walk_at "ts") (fun hb => ?_) fun hb => ?_
  · rw [if_pos hb]
    exact Ex.ret (Sx.ret (by walk_at "ev"))
  rw [if_neg (by rw [hb]; simp)]
  refine Ex.freeze (x := Str.ofString "ws") (a := a) (xs := us.map .str) (ρ' := [(Str.ofString "startpos", .dat (.int s1)), (Str.ofString "endpos", .dat (.int e1)), (Str.ofString "got", .dat (.str got))]) (by walk_at "lk") ha (by walk_at "less") (fun y ys h => by
    have := mem_of_lookupA h
    simp at this) (fun b hb => hb) ?_
  refine Ex.for (EvIt.list (by walk_at "ev")) (Fo.genM (σ := Int) PyData.str (fun q => [(Str.ofString "ws", .dat (.list (us.map .str))), (Str.ofString "startpos", .dat (.int q)), (Str.ofString "endpos", .dat (.int e1)), (Str.ofString "got", .dat (.str got))])
    (fun l q => match emRun got e1 l q with
      | some q' => .next X [(Str.ofString "ws", .dat (.list (us.map .str))), (Str.ofString "startpos", .dat (.int q')), (Str.ofString "endpos", .dat (.int e1)), (Str.ofString "got", .dat (.str got))]
      | none => .ret (.dat (.bool false)))
    (fun q l => ∀ x ∈ l, x.length ≤ 100) (fun q _ => rfl) (fun q d rest hi => ?_) us s1 hy3) ?_
  · refine ⟨_, Tg.name (by walk_at "st"), ?_⟩
    have hfind : ∀ {ρ : List (Str × AV)} {o e f g : Expr} {apos pos : Pos}, Ev (cx w mg mb) n κ X ρ o (.dat (.str got)) → Ev (cx w mg mb) n κ X ρ e (.dat (.str d)) → Ev (cx w mg mb) n κ X ρ f (.dat (.int q)) → Ev (cx w mg mb) n κ X ρ g (.dat (.int e1)) →
      notStar e = true → notStar f = true → notStar g = true → notCall o = true → (apos.endLine == pos.line) = true → Ev (cx w mg mb) n κ X ρ (.Call (.Attribute o (Str.ofString "find") apos) [e, f, g] [] pos) (.dat (.int (findI got d q e1))) := fun a b c d e f g h i => Ev.find4 a b c d e f g h i
    by_cases hlt : decide (findI got d q e1 < 0) = true
    · refine .inl ⟨.dat (.bool false), ?_, by show (match emRun got e1 (d :: rest) q with | some q' => _ | none => Out.ret (.dat (.bool false))) = _; rw [emRun, if_pos hlt]⟩
      refine Ex.cons (Sx.assign (hfind (by walk_at "ev") (by walk_at "ev") (by walk_at "ev") (by walk_at "ev") rfl rfl rfl rfl rfl) (Tg.name (by walk_at "st"))) ?_
      refine Ex.ret (Sx.iff (b := true) (by rw [← hlt]; walk_at "ts") (fun _ => ?_) nofun)
      exact Ex.ret (Sx.ret (by walk_at "ev"))
    · refine .inr ⟨findI got d q e1 + d.length, ?_, fun x hx => hi x (.tail _ hx), by show (match emRun got e1 (d :: rest) q with | some q' => Out.next X _ | none => _) = _; rw [emRun, if_neg hlt]⟩
      refine Ex.cons (Sx.assign (hfind (by walk_at "ev") (by walk_at "ev") (by walk_at "ev") (by walk_at "ev") rfl rfl rfl rfl rfl) (Tg.name (by walk_at "st"))) ?_
      refine Ex.cons (Sx.iff (b := false) (by rw [← Bool.eq_false_iff.mpr hlt]; walk_at "ts") nofun fun _ => Ex.nil) ?_
      exact Ex.less (Ex.cons (Sx.iadd (by walk_at "lk") k4 (hlen (by walk_at "ev") (hi d (.head _)) rfl)) Ex.nil) (by walk_at "less")
  · rw [emRun_is]
    cases hc : emRun got e1 us s1 with
    | none => rfl
    | some q' =>
      show Ex (cx w mg mb) n κ _ X X [(Str.ofString "ws", .dat (.list (us.map .str))), (Str.ofString "startpos", .dat (.int q')), (Str.ofString "endpos", .dat (.int e1)), (Str.ofString "got", .dat (.str got))] _ _
      exact Ex.retE (d := .bool true) (by walk_at "ev") rfl

/-! ## _law_person -/
noncomputable def bit (x d : Int) : Bool := (x.fdiv d).fmod 2 == 1
noncomputable def ch (b : Bool) : Nat := if b then 98 else 97
noncomputable def nm (a b c d e f : Bool) : Str := ⟨#[ch a, ch b, ch c, ch d, ch e, ch f]⟩
noncomputable def nameS (x : Int) : Str := nm (bit x 1) (bit x 2) (bit x 4) (bit x 8) (bit x 16) (bit x 32)
noncomputable abbrev colS (x : Int) : Int := (x.fdiv 256).fmod 2
noncomputable abbrev wayS (x d : Int) : Int := 1 - 2 * (x.fdiv d).fmod 2
noncomputable def keysOf (x : Int) : List (Int × Int) := [(colS x, wayS x 512), (1 - colS x, wayS x 1024), (2, wayS x 512)]
noncomputable def rowOf (x place : Int) : List Int := [(x.fdiv 2048).fmod 3, x.fdiv 6144, place]
noncomputable def wishS (x : Int) : Str := cramS (nameS x) (3 + (x.fdiv 64).fmod 4)
noncomputable abbrev PD (x place : Int) : PyData := .tuple [.str (nameS x), .str (wishS x), .tuple ((rowOf x place).map .int), .list ((keysOf x).map DK)]

theorem fmod2 (y : Int) : y.fmod 2 = 0 ∨ y.fmod 2 = 1 := by
  have h1 := Int.fmod_nonneg_of_pos y (b := 2) (by decide)
  have h2 := Int.fmod_lt_of_pos y (b := 2) (by decide)
  omega
theorem fmod4 (y : Int) : y.fmod 4 = 0 ∨ y.fmod 4 = 1 ∨ y.fmod 4 = 2 ∨ y.fmod 4 = 3 := by
  have h1 := Int.fmod_nonneg_of_pos y (b := 4) (by decide)
  have h2 := Int.fmod_lt_of_pos y (b := 4) (by decide)
  omega
theorem chS (x d : Int) : (seqIndex? ((x.fdiv d).fmod 2) (Str.ofString "ab").length).bind ((Str.ofString "ab").cps[·]?) = some (ch (bit x d)) := by
  unfold bit
  rcases fmod2 (x.fdiv d) with h | h <;> rw [h] <;> decide +kernel
theorem nm_len : ∀ a b c d e f : Bool, (nm a b c d e f).length = 6 := by decide +kernel
theorem nm_cram : ∀ a b c d e f : Bool, ∀ m ∈ [(3 : Int), 4, 5, 6], (pySlS (nm a b c d e f) none (some (mx0 ((m - 3).fdiv 2)))).length ≤ 100 ∧
    (pySlS (nm a b c d e f) (some (6 - mx0 (m - 3 - mx0 ((m - 3).fdiv 2)))) none).length ≤ 100 ∧ (pySlS (nm a b c d e f) none (some (mx0 ((m - 3).fdiv 2))) ++ Str.ofString "...").length ≤ 200 := by decide +kernel
theorem nm_join : ∀ a b c d e f : Bool, Txt.join (Str.ofString "") [⟨#[ch a]⟩, ⟨#[ch b]⟩, ⟨#[ch c]⟩, ⟨#[ch d]⟩, ⟨#[ch e]⟩, ⟨#[ch f]⟩] = nm a b c d e f := by decide +kernel
theorem joinOk6 : ∀ a b c d e f : Bool, JoinOk (Str.ofString "") [⟨#[ch a]⟩, ⟨#[ch b]⟩, ⟨#[ch c]⟩, ⟨#[ch d]⟩, ⟨#[ch e]⟩, ⟨#[ch f]⟩] = true := by decide +kernel

theorem range_mem {d : PyData} : ∀ {m : Nat} {a : Int}, d ∈ rangeFrom a m → ∃ k : Int, d = .int k ∧ a ≤ k ∧ k < a + m
  | 0, _, h => by cases h
  | m + 1, a, h => by
    rcases List.mem_cons.mp h with rfl | h
    · exact ⟨a, rfl, by omega, by omega⟩
    · obtain ⟨k, e, h1, h2⟩ := range_mem h
      exact ⟨k, e, by omega, by omega⟩
noncomputable def chD (x : Int) : PyData → PyData
  | .int k => .str ⟨#[ch (bit x (2 ^ k.toNat))]⟩
  | d => d
theorem fn_person (w : World) (mg mb : Str → Option Value) (Z : Gs mg) (n : Nat) (hn : n < 69) (x place : Int) : Fn (cx w mg mb) (n + 1 + 1) 68 [.dat (.int x), .dat (.int place)] (.dat (PD x place)) := by
  refine Fn.of_body (names := [Str.ofString "x", Str.ofString "place"]) ⟨⟨_, rfl, rfl⟩, rfl, rfl, rfl, rfl, rfl, rfl, rfl, by kernel_rfl, fun vs hl => ?_, by kernel_rfl, by kernel_rfl⟩ (by omega) rfl (by simp [AV.at?]) ?_
  · exact bind2 (fun _ _ => rfl) vs hl
  intro X
  generalize hκ : Sta.of _ = κ
  have k1 : κ.kd (Str.ofString "x") = some .cell := by rw [← hκ]; rfl
  have k2 : κ.kd (Str.ofString "place") = some .local := by rw [← hκ]; rfl
  have k3 : κ.kd (Str.ofString "name") = some .local := by rw [← hκ]; rfl
  have k4 : κ.kd (Str.ofString "column") = some .local := by rw [← hκ]; rfl
  have k5 : κ.kd (Str.ofString "way") = some .local := by rw [← hκ]; rfl
  have k6 : κ.kd (Str.ofString "keys") = some .local := by rw [← hκ]; rfl
  have k7 : κ.kd (Str.ofString "range") = some .globalImplicit := by rw [← hκ]; rfl
  have k8 : κ.kd (Str.ofString "cram") = some .globalImplicit := by rw [← hκ]; rfl
  clear hκ
  simp only [bindρ]
  refine Ex.cons (Sx.assign (av := .dat (.str (nameS x))) ?_ (Tg.name (by walk_at "st"))) ?_
  · have key : (rangeFrom 0 6).map (chD x) = [(⟨#[ch (bit x 1)]⟩ : Str), ⟨#[ch (bit x 2)]⟩, ⟨#[ch (bit x 4)]⟩, ⟨#[ch (bit x 8)]⟩, ⟨#[ch (bit x 16)]⟩, ⟨#[ch (bit x 32)]⟩].map PyData.str := rfl
    have hj := nm_join (bit x 1) (bit x 2) (bit x 4) (bit x 8) (bit x 16) (bit x 32)
    rw [show nameS x = _ from hj.symm]
    refine Ev.join (by walk_at "ev") ?_ (joinOk6 ..)
    rw [← key]
    refine (EvN.comp (Cp.map0 (EvIt.range (m := 6) k7 Z.range Ev.int (by decide)) (by walk_at "fr") (by walk_at "st") (by decide) fun D hD d hd => ?_)).ev
    obtain ⟨k, rfl, h0, h5⟩ := range_mem hd
    have hk : k = 0 ∨ k = 1 ∨ k = 2 ∨ k = 3 ∨ k = 4 ∨ k = 5 := by omega
    have hp : (2 : Int) ^ k.toNat ≠ 0 ∧ ((2 : Int) ^ k.toNat).natAbs < 1073741824 := by rcases hk with rfl | rfl | rfl | rfl | rfl | rfl <;> decide
    have hb2 : Builtin.Int.intBits 2 = 2 := by decide +kernel
    refine Ev.itemS Ev.str (Ev.bin (Ev.bin (by walk_at "ev") (Ev.bin Ev.int (by walk_at "ev") (op_pow h0 (by rw [hb2]; omega))) (op_div hp.1 hp.2)) Ev.int (op_mod (by decide) (by decide))) (chS x _) ?_
    rcases fmod2 (x.fdiv (2 ^ k.toNat)) with h | h <;> rw [h] <;> decide
  refine Ex.cons (Sx.assign (av := .dat (.int (colS x))) (by walk_at "ev") (Tg.name (by walk_at "st"))) ?_
  refine Ex.cons (Sx.assign (av := .dat (.int (wayS x 512))) (by walk_at "ev") (Tg.name (by walk_at "st"))) ?_
  refine Ex.cons (Sx.assign (av := .dat (.list ((keysOf x).map DK))) (Ev.list (ds := (keysOf x).map DK) (.cons (Ev.tuple (ds := [.int (colS x), .int (wayS x 512)]) (.cons (by walk_at "ev") (.cons (by walk_at "ev") .nil)) (by simp)) (.cons (Ev.tuple (ds := [.int (1 - colS x), .int (wayS x 1024)]) (.cons (by walk_at "ev") (.cons (by walk_at "ev") .nil)) (by simp))
    (.cons (Ev.tuple (ds := [.int 2, .int (wayS x 512)]) (.cons (by walk_at "ev") (.cons (by walk_at "ev") .nil)) (by simp)) .nil))) (by simp [keysOf])) (Tg.name (by walk_at "st"))) ?_
  have hm : (3 + (x.fdiv 64).fmod 4) ∈ [(3 : Int), 4, 5, 6] := by
    rcases fmod4 (x.fdiv 64) with h | h | h | h <;> rw [h] <;> decide
  have hL : (nameS x).length = 6 := nm_len ..
  obtain ⟨c1, c2, c3⟩ := nm_cram (bit x 1) (bit x 2) (bit x 4) (bit x 8) (bit x 16) (bit x 32) _ hm
  have hcram := fn_cram w mg mb Z n (by omega) (nameS x) (3 + (x.fdiv 64).fmod 4) (by omega) c1 (by rw [hL]; exact c2) c3
  refine Ex.ret (Sx.ret (Ev.tuple (ds := [.str (nameS x), .str (wishS x), .tuple ((rowOf x place).map .int), .list ((keysOf x).map DK)]) (.cons (by walk_at "ev") (.cons (Ev.call k8 Z.cram (o := _) (fd := _) rfl rfl hcram (.cons (by walk_at "ev") (.cons (by walk_at "ev") .nil)) (by decide +kernel))
    (.cons (Ev.tuple (ds := (rowOf x place).map .int) (.cons (by walk_at "ev") (.cons (by walk_at "ev") (.cons (by walk_at "ev") .nil))) (by simp [rowOf])) (.cons (by walk_at "ev") .nil)))) (by simp)))

/-! ## _law_line -/
noncomputable def dr (xs : List Int) (q : Int) : Int := xs.getD q.toNat 0
noncomputable def ppl (xs : List Int) : List PyData := [PD (dr xs 0) 0, PD (dr xs 1) 1, PD (dr xs 2) 2, PD (dr xs 3) 3, PD (dr xs 4) 4, PD (dr xs 5) 5]
theorem six {q : Int} (h0 : 0 ≤ q) (h5 : q ≤ 5) : q = 0 ∨ q = 1 ∨ q = 2 ∨ q = 3 ∨ q = 4 ∨ q = 5 := by omega
theorem get6 {xs : List Int} (hl : xs.length = 6) {q : Int} (h0 : 0 ≤ q) (h5 : q ≤ 5) : seqIndex? q (xs.map PyData.int).length = some q.toNat ∧ (xs.map PyData.int)[q.toNat]? = some (.int (dr xs q)) := by
  constructor
  · rw [List.length_map, hl]
    rcases six h0 h5 with rfl | rfl | rfl | rfl | rfl | rfl <;> rfl
  · rw [List.getElem?_map, dr, List.getD_eq_getElem?_getD]
    have : q.toNat < xs.length := by omega
    rw [List.getElem?_eq_getElem this]; rfl
theorem getP (xs : List Int) {q : Int} (h0 : 0 ≤ q) (h5 : q ≤ 5) : seqIndex? q (ppl xs).length = some q.toNat ∧ (ppl xs)[q.toNat]? = some (PD (dr xs q) q) := by
  rcases six h0 h5 with rfl | rfl | rfl | rfl | rfl | rfl <;> exact ⟨rfl, rfl⟩
theorem way_pm (x d : Int) : wayS x d = 1 ∨ wayS x d = -1 := by
  unfold wayS
  rcases fmod2 (x.fdiv d) with h | h <;> rw [h] <;> decide
theorem col_rg (x : Int) : 0 ≤ colS x ∧ colS x ≤ 1 := by
  unfold colS
  rcases fmod2 (x.fdiv 256) with h | h <;> rw [h] <;> decide
theorem keys_ok {x : Int} {k : Int × Int} (h : k ∈ keysOf x) : 0 ≤ k.1 ∧ k.1 ≤ 2 ∧ (k.2 = 1 ∨ k.2 = -1) := by
  have c := col_rg x
  simp only [keysOf, List.mem_cons, List.not_mem_nil, or_false] at h
  rcases h with rfl | rfl | rfl
  · exact ⟨c.1, Int.le_trans c.2 (by decide), way_pm x 512⟩
  · exact ⟨Int.sub_nonneg_of_le c.2, Int.le_trans (Int.sub_le_self 1 c.1) (by decide), way_pm x 1024⟩
  · exact ⟨(by decide : (0 : Int) ≤ 2), (by decide : (2 : Int) ≤ 2), way_pm x 512⟩

noncomputable def rk (xs : List Int) (p q : Int) : List Int := (keysOf (dr xs p)).map fun k => k.2 * (rowOf (dr xs q) q).getD k.1.toNat 0
noncomputable def accB (xs : List Int) (p q : Int) : Bool := wishes (dr xs p) (dr xs q) && wishes (dr xs q) (dr xs p)
noncomputable def pl (xs : List Int) (p q r : Int) : Bool := lt2 (rk xs p q, q) (rk xs p r, r)
noncomputable def lineOf (xs : List Int) (p : Int) (os : List Int) : List Int := isort (pl xs p) (os.filter (accB xs p)) ++ [-1]

noncomputable def fmul (row : List Int) : PyData → PyData → PyData
  | .int c, .int w => .int (w * row.getD c.toNat 0)
  | d, _ => d
noncomputable def snd2 : PyData → PyData → PyData := fun _ d => d
noncomputable abbrev RP (xs : List Int) (p q : Int) : List Int × Int := (rk xs p q, q)

theorem fn_line (w : World) (mg mb : Str → Option Value) (Z : Gs mg) (n : Nat) (hn : n < 69) (xs : List Int) (p : Int) (os : List Int) (hl : xs.length = 6) (hp : 0 ≤ p ∧ p ≤ 5) (ho : ∀ q ∈ os, 0 ≤ q ∧ q ≤ 5) (hz : os.length ≤ 3) (hnd : os.Nodup) :
    Fn (cx w mg mb) (n + 1 + 1) 80 [.dat (DI xs), .dat (.list (ppl xs)), .dat (.int p), .dat (DI os)] (.dat (DI (lineOf xs p os))) := by
  refine Fn.of_body (names := [Str.ofString "draws", Str.ofString "people", Str.ofString "p", Str.ofString "others"]) ⟨⟨_, rfl, rfl⟩, rfl, rfl, rfl, rfl, rfl, rfl, rfl, by kernel_rfl, fun vs hl => ?_, by kernel_rfl, by kernel_rfl⟩ (by omega) rfl (by simp [AV.at?]) ?_
  · exact bind4 (fun _ _ _ _ => rfl) vs hl
  intro X
  generalize hκ : Sta.of _ = κ
  have k1 : κ.kd (Str.ofString "draws") = some .local := by rw [← hκ]; rfl
  have k2 : κ.kd (Str.ofString "people") = some .cell := by rw [← hκ]; rfl
  have k3 : κ.kd (Str.ofString "p") = some .local := by rw [← hκ]; rfl
  have k4 : κ.kd (Str.ofString "others") = some .local := by rw [← hκ]; rfl
  have k5 : κ.kd (Str.ofString "ranked") = some .local := by rw [← hκ]; rfl
  have k6 : κ.kd (Str.ofString "q") = some .cell := by rw [← hκ]; rfl
  have k7 : κ.kd (Str.ofString "_law_wishes") = some .globalImplicit := by rw [← hκ]; rfl
  have k8 : κ.kd (Str.ofString "sorted") = some .globalImplicit := by rw [← hκ]; rfl
  clear hκ
  simp only [bindρ]
  refine Ex.assignN (xs := []) (EvN.list (ds := []) .nil) k5 fun a ha => ?_
  have gp := get6 hl hp.1 hp.2
  have pp := getP xs hp.1 hp.2
  refine Ex.for (EvIt.list (by walk_at "ev")) (Fo.genM (σ := List Int) PyData.int (fun acc => [(Str.ofString "ranked", .own a ((acc.map (RP xs p)).map DP)), (Str.ofString "others", .dat (DI os)), (Str.ofString "p", .dat (.int p)), (Str.ofString "people", .dat (.list (ppl xs))), (Str.ofString "draws", .dat (DI xs))])
    (fun l acc => .next (a :: X) [(Str.ofString "ranked", .own a (((acc ++ l.filter (accB xs p)).map (RP xs p)).map DP)), (Str.ofString "others", .dat (DI os)), (Str.ofString "p", .dat (.int p)), (Str.ofString "people", .dat (.list (ppl xs))), (Str.ofString "draws", .dat (DI xs))])
    (fun acc l => (∀ q ∈ l, 0 ≤ q ∧ q ≤ 5) ∧ acc.length + l.length ≤ 1000) (fun acc _ => by simp) (fun acc q rest hi => ?_) os [] ⟨ho, by simp; omega⟩) ?_
  · obtain ⟨hi1, hi2⟩ := hi
    obtain ⟨q0, q5⟩ := hi1 q (.head _)
    have gq := get6 hl q0 q5
    have pq := getP xs q0 q5
    simp only [List.length_cons] at hi2
    refine ⟨_, Tg.name (by walk_at "st"), .inr ?_⟩
    have hw1 := fn_wishes w mg mb n (by omega) (dr xs p) (dr xs q)
    have hw2 := fn_wishes w mg mb n (by omega) (dr xs q) (dr xs p)
    refine ⟨if accB xs p q then acc ++ [q] else acc, ?_, ⟨fun r hr => hi1 r (.tail _ hr), by split <;> (try simp) <;> omega⟩, ?_⟩
    · refine Ex.cons (Sx.iff (b := accB xs p q) (o := .next (a :: X) [(Str.ofString "ranked", .own a (((if accB xs p q then acc ++ [q] else acc).map (RP xs p)).map DP)), (Str.ofString "others", .dat (DI os)), (Str.ofString "p", .dat (.int p)), (Str.ofString "people", .dat (.list (ppl xs))), (Str.ofString "draws", .dat (DI xs))])
        (Ts.and (Ts.val (Ev.call k7 Z.wishes (o := _) (fd := _) rfl rfl hw1 (.cons (Ev.itemL (by walk_at "ev") (by walk_at "ev") gp.1 gp.2) (.cons (Ev.itemL (by walk_at "ev") (by walk_at "ev") gq.1 gq.2) .nil)) (by decide +kernel)))
          (fun _ => Ts.val (Ev.call k7 Z.wishes (o := _) (fd := _) rfl rfl hw2 (.cons (Ev.itemL (by walk_at "ev") (by walk_at "ev") gq.1 gq.2) (.cons (Ev.itemL (by walk_at "ev") (by walk_at "ev") gp.1 gp.2) .nil)) (by decide +kernel)))) (fun hb => ?_) fun hb => ?_) Ex.nil
      · rw [if_pos hb, List.map_append, List.map_append, List.map_singleton, List.map_singleton]
        refine Ex.less (Ex.cons (Sx.append (a := a) (d := DP (RP xs p q)) (by walk_at "lk") k5 ?_ (by simp; omega) ?_ rfl rfl (by decide +kernel) (by decide +kernel)) Ex.nil) (by walk_at "less")
        · refine Ev.tuple (ds := [DI (rk xs p q), .int q]) (.cons ?_ (.cons (by walk_at "ev") .nil)) (by simp)
          have key : (((keysOf (dr xs p)).map fun k => (PyData.int k.1, PyData.int k.2)).map fun r => fmul (rowOf (dr xs q) q) r.1 r.2) = (rk xs p q).map PyData.int := by simp [rk, List.map_map, Function.comp_def, fmul]
          show Ev _ _ _ _ _ _ (.dat (.list ((rk xs p q).map PyData.int)))
          rw [← key]
          refine EvN.ev (EvN.comp ?_)
          refine Cp.pairs (ps := (keysOf (dr xs p)).map fun k => (.int k.1, .int k.2)) (f := fmul (rowOf (dr xs q) q)) (ρ0 := [(Str.ofString "people", .dat (.list (ppl xs))), (Str.ofString "q", .dat (.int q))]) (EvIt.list ?_) ?_ ?_ ?_ (by simp [keysOf]) (fun D hD r hr => ?_) ?_ ?_ ?_
          rotate_left
          · walk_at "fr"
          · walk_at "st"
          · walk_at "st"
          rotate_left
          · decide +kernel
          · rfl
          · rfl
          · exact Ev.itemT (xs := [.str (nameS (dr xs p)), .str (wishS (dr xs p)), .tuple ((rowOf (dr xs p) p).map .int), .list ((keysOf (dr xs p)).map DK)]) (k := 3) (j := 3) (Ev.itemL (by walk_at "ev") (by walk_at "ev") pp.1 pp.2) Ev.int rfl rfl
          obtain ⟨k, hk, rfl⟩ := List.mem_map.mp hr
          obtain ⟨c0, c2, cw⟩ := keys_ok hk
          have gr := get3 (ls := rowOf (dr xs q) q) rfl c0 c2
          refine Ev.bin (by walk_at "ev") (Ev.itemT (Ev.itemT (k := 2) (j := 2) (Ev.itemL (by walk_at "ev") (by walk_at "ev") pq.1 pq.2) Ev.int rfl rfl) (by walk_at "ev") gr.1 gr.2) (op_mul (IntMulOk.of_left ?_))
          rcases cw with h | h <;> rw [h] <;> decide +kernel
        · intro y b zs m
          simp at m
          exact .inl m.1
      · rw [if_neg (by rw [hb]; simp)]
        exact Ex.less Ex.nil (by walk_at "less")
    · show Out.next _ _ = Out.next _ _
      cases hb : accB xs p q <;> simp [hb]
  · simp only [List.nil_append]
    show Ex (cx w mg mb) (n + 1) κ _ X (a :: X) [(Str.ofString "ranked", .own a (((os.filter (accB xs p)).map (RP xs p)).map DP)), (Str.ofString "others", .dat (DI os)), (Str.ofString "p", .dat (.int p)), (Str.ofString "people", .dat (.list (ppl xs))), (Str.ofString "draws", .dat (DI xs))] _ _
    have hnf : (os.filter (accB xs p)).Nodup := hnd.filter _
    have hzf : (os.filter (accB xs p)).length ≤ 3 := Nat.le_trans (List.length_filter_le _ _) hz
    have hinj : ∀ (l : List Int), l.Nodup → (l.map (RP xs p)).Nodup := by
      intro l
      induction l with
      | nil => intro _; exact List.nodup_nil
      | cons x l ih =>
        intro h
        obtain ⟨h1, h2⟩ := List.nodup_cons.mp h
        rw [List.map_cons]
        refine List.nodup_cons.mpr ⟨fun m => ?_, ih h2⟩
        obtain ⟨y, hy, e⟩ := List.mem_map.mp m
        have : y = x := congrArg Prod.snd e
        exact h1 (this ▸ hy)
    have hs1 : (isort (pl xs p) (os.filter (accB xs p))).map (RP xs p) = isort lt2 ((os.filter (accB xs p)).map (RP xs p)) := isort_map (fun _ _ => rfl) _
    have hsort := fn_sortedT (c := cx w mg mb) (n := n + 1) (X := a :: X) (a := .own a (((os.filter (accB xs p)).map (RP xs p)).map DP)) (ps := (os.filter (accB xs p)).map (RP xs p)) (ms := (isort (pl xs p) (os.filter (accB xs p))).map (RP xs p)) (L := 3) rfl (by rw [List.length_map]; exact hzf) (fun q hq => by
      obtain ⟨y, _, rfl⟩ := List.mem_map.mp hq; rfl) (fun p _ q _ h => lt2_tri p q h) lt2_tr (hinj _ hnf) (by rw [hs1]; exact isort_perm _ _) (by rw [hs1]; exact isort_sorted lt2_tr lt2_tri _ (hinj _ hnf)) (by omega)
    refine Ex.retE (Ev.bin (EvN.comp (Cp.pairs (ps := (isort (pl xs p) (os.filter (accB xs p))).map fun q => (DI (rk xs p q), .int q)) (f := snd2) (EvIt.list (by
      have e : ((isort (pl xs p) (os.filter (accB xs p))).map fun q => (DI (rk xs p q), PyData.int q)).map (fun r => PyData.tuple [r.1, r.2]) = ((isort (pl xs p) (os.filter (accB xs p))).map (RP xs p)).map DP := by simp [List.map_map, Function.comp_def]
      rw [e]
      exact (EvN.callB k8 Z.sorted bb_sorted rfl hsort (.cons (by walk_at "ev") .nil) (by decide +kernel) (by decide +kernel)).ev)) (by walk_at "fr") (by walk_at "st") (by walk_at "st") (by
        rw [List.length_map, (isort_perm _ _).length_eq]; omega) fun D hD r hr => by
          show Ev _ _ _ _ _ _ (.dat r.2)
          walk_at "ev")).ev (Ev.list (ds := [.int (-1)]) (.cons (by walk_at "ev") .nil)) (op_addl ?_)) ?_
    · simp [(isort_perm _ _).length_eq]; omega
    · simp [DI, lineOf, snd2, List.map_map, Function.comp_def]

/-! ## _law_firm -/
noncomputable def at' (ls : List (List Int)) (m : Int) : List Int := ls.getD m.toNat []
noncomputable def holderOf (row : List Int) (w : Int) : Int := if row.any (· == w) then (row.idxOf w : Nat) else -1
noncomputable def rivals (ls : List (List Int)) (row : List Int) (m : Int) : List Int := (at' ls m).take ((at' ls m).idxOf (row.getD m.toNat 0))
noncomputable def firmAt (ls : List (List Int)) (row : List Int) (m : Int) : Bool := (rivals ls row m).all fun w => !decide (((at' ls w).idxOf m : Int) < ((at' ls w).idxOf (holderOf row w) : Nat))
noncomputable def firmB (ls : List (List Int)) (row : List Int) : Bool := [0, 1, 2].all (firmAt ls row)

theorem getL {ls : List (List Int)} (hl : ls.length = 6) {q : Int} (h0 : 0 ≤ q) (h5 : q ≤ 5) : seqIndex? q (ls.map DI).length = some q.toNat ∧ (ls.map DI)[q.toNat]? = some (DI (at' ls q)) := by
  constructor
  · rw [List.length_map, hl]
    rcases six h0 h5 with rfl | rfl | rfl | rfl | rfl | rfl <;> rfl
  · rw [List.getElem?_map, at', List.getD_eq_getElem?_getD]
    have : q.toNat < ls.length := by omega
    rw [List.getElem?_eq_getElem this]; rfl
theorem inI (row : List Int) (w : Int) : ((row.map PyData.int).any fun y => PyData.eqv y (.int w)) = row.any (· == w) := by
  rw [List.any_map]
  have : ((fun y => PyData.eqv y (.int w)) ∘ PyData.int) = fun y : Int => y == w := by
    funext y
    show PyData.eqv (.int y) (.int w) = (y == w)
    rw [PyData.eqv]
  rw [this]
theorem sl_take {α : Type} (l : List α) (i : Nat) (h : i ≤ l.length) : pySl l none (some (i : Int)) = l.take i := by
  have : clipAt l.length (i : Int) = i := (clipAt_nat _ _).trans (Nat.min_eq_left h)
  simp [pySl, this]

theorem Fo.either {c : Cx} {n : Nat} {κ : Sta} {sts : List Str} {Xo X : List Addr} {ρ1 : List (Str × AV)} {body : List Stmt} {σ β : Type} {st : σ → List (Str × AV)} {res : List β → σ → Out} {inv : σ → List β → Prop} {s s' : σ} {d : β} {rest : List β} {b : Bool} {r : AV}
    (h : Ex c n κ sts Xo X ρ1 body (if b then .next X (st s') else .ret r)) (e1 : b = true → res (d :: rest) s = res rest s') (e2 : b = false → res (d :: rest) s = .ret r) (hi : inv s' rest) :
    (∃ r, Ex c n κ sts Xo X ρ1 body (.ret r) ∧ res (d :: rest) s = .ret r) ∨ (∃ s', Ex c n κ sts Xo X ρ1 body (.next X (st s')) ∧ inv s' rest ∧ res (d :: rest) s = res rest s') := by
  cases b with
  | true => exact .inr ⟨s', h, hi, e1 rfl⟩
  | false => exact .inl ⟨r, h, e2 rfl⟩

noncomputable def badB (ls : List (List Int)) (row : List Int) (m w : Int) : Bool := decide (((at' ls w).idxOf m : Int) < ((at' ls w).idxOf (holderOf row w) : Nat))
theorem fn_firm (w : World) (mg mb : Str → Option Value) (Z : Gs mg) (n : Nat) (hn : n < 70) (ls : List (List Int)) (row : List Int) (hl : ls.length = 6) (hr : row.length = 3) (hlay : ∀ q : Int, 0 ≤ q → q ≤ 5 → PyData.layable0 (DI (at' ls q)) = true) (hlr : PyData.layable0 (DI row) = true)
    (hz : ∀ q : Int, (at' ls q).length ≤ 100) (hR : ∀ m : Int, 0 ≤ m → m ≤ 2 → row.getD m.toNat 0 ∈ at' ls m) (hW : ∀ m : Int, 0 ≤ m → m ≤ 2 → ∀ v ∈ rivals ls row m, 0 ≤ v ∧ v ≤ 5 ∧ m ∈ at' ls v ∧ holderOf row v ∈ at' ls v) :
    Fn (cx w mg mb) (n + 1) 87 [.dat (DDI ls), .dat (DI row)] (.dat (.bool (firmB ls row))) := by
  refine Fn.of_body (names := [Str.ofString "lines", Str.ofString "row"]) ⟨⟨_, rfl, rfl⟩, rfl, rfl, rfl, rfl, rfl, rfl, rfl, by kernel_rfl, fun vs hl => ?_, by kernel_rfl, by kernel_rfl⟩ hn rfl (by simp [AV.at?]) ?_
  · exact bind2 (fun _ _ => rfl) vs hl
  intro X
  generalize hκ : Sta.of _ = κ
  have k1 : κ.kd (Str.ofString "lines") = some .local := by rw [← hκ]; rfl
  have k2 : κ.kd (Str.ofString "row") = some .local := by rw [← hκ]; rfl
  have k3 : κ.kd (Str.ofString "m") = some .local := by rw [← hκ]; rfl
  have k4 : κ.kd (Str.ofString "w") = some .local := by rw [← hκ]; rfl
  have k5 : κ.kd (Str.ofString "holder") = some .local := by rw [← hκ]; rfl
  have k6 : κ.kd (Str.ofString "range") = some .globalImplicit := by rw [← hκ]; rfl
  clear hκ
  simp only [bindρ]
  refine Ex.for (EvIt.range (m := 3) k6 Z.range Ev.int (by decide)) (Fo.genM (σ := Unit) PyData.int (fun _ => [(Str.ofString "row", .dat (DI row)), (Str.ofString "lines", .dat (DDI ls))])
    (fun l _ => if l.all (firmAt ls row) then .next X [(Str.ofString "row", .dat (DI row)), (Str.ofString "lines", .dat (DDI ls))] else .ret (.dat (.bool false)))
    (fun _ l => ∀ m ∈ l, 0 ≤ m ∧ m ≤ 2) (fun _ _ => rfl) (fun _ m rest hi => ?_) [0, 1, 2] () (by decide)) ?_
  · obtain ⟨m0, m2⟩ := hi m (.head _)
    have gm := getL hl m0 (show m ≤ 5 by omega)
    have gr := get3 hr m0 m2
    refine ⟨_, Tg.name (by walk_at "st"), ?_⟩
    have hrm := hR m m0 m2
    have hix : ((at' ls m).idxOf (row.getD m.toNat 0)) ≤ (at' ls m).length := List.idxOf_le_length
    refine Fo.either (σ := Unit) (st := (fun _ => [(Str.ofString "row", .dat (DI row)), (Str.ofString "lines", .dat (DDI ls))])) (res := (fun l _ => if l.all (firmAt ls row) then .next X [(Str.ofString "row", .dat (DI row)), (Str.ofString "lines", .dat (DDI ls))] else .ret (.dat (.bool false)))) (inv := fun _ l => ∀ m ∈ l, 0 ≤ m ∧ m ≤ 2) (b := firmAt ls row m) (s := ()) (s' := ()) (r := .dat (.bool false)) ?_ (fun e => by simp [e]) (fun e => by simp [e]) (fun q hq => hi q (.tail _ hq))
    refine Ex.for (ds := (rivals ls row m).map .int) (EvIt.list ?_) (Fo.genM (σ := Unit) PyData.int (fun _ => [(Str.ofString "m", .dat (.int m)), (Str.ofString "row", .dat (DI row)), (Str.ofString "lines", .dat (DDI ls))])
      (fun l _ => if l.all (fun v => !badB ls row m v) then .next X [(Str.ofString "m", .dat (.int m)), (Str.ofString "row", .dat (DI row)), (Str.ofString "lines", .dat (DDI ls))] else .ret (.dat (.bool false)))
      (fun _ l => ∀ v ∈ l, 0 ≤ v ∧ v ≤ 5 ∧ m ∈ at' ls v ∧ holderOf row v ∈ at' ls v) (fun _ _ => rfl) (fun _ v rest hi => ?_) (rivals ls row m) () (hW m m0 m2)) ?_
    · have e : (rivals ls row m).map PyData.int = pySl ((at' ls m).map PyData.int) none (some (((at' ls m).idxOf (row.getD m.toNat 0) : Nat) : Int)) := by
        rw [sl_take _ _ (by rw [List.length_map]; exact hix), rivals, List.map_take]
      rw [e]
      exact Ev.sliceL (a := none) (b := some _) (Ev.itemL (by walk_at "ev") (by walk_at "ev") gm.1 gm.2) trivial (Ev.index (Ev.itemL (by walk_at "ev") (by walk_at "ev") gm.1 gm.2) (Ev.itemL (by walk_at "ev") (by walk_at "ev") gr.1 gr.2) hrm (hlay m m0 (by omega))) (by rw [List.length_map]; have := hz m; omega)
    · obtain ⟨v0, v5, hm, hh⟩ := hi v (.head _)
      have gv := getL hl v0 v5
      refine ⟨_, Tg.name (by walk_at "st"), ?_⟩
      refine Fo.either (σ := Unit) (st := (fun _ => [(Str.ofString "m", .dat (.int m)), (Str.ofString "row", .dat (DI row)), (Str.ofString "lines", .dat (DDI ls))])) (res := (fun l _ => if l.all (fun v => !badB ls row m v) then .next X [(Str.ofString "m", .dat (.int m)), (Str.ofString "row", .dat (DI row)), (Str.ofString "lines", .dat (DDI ls))] else .ret (.dat (.bool false)))) (inv := fun _ l => ∀ v ∈ l, 0 ≤ v ∧ v ≤ 5 ∧ m ∈ at' ls v ∧ holderOf row v ∈ at' ls v) (b := !badB ls row m v) (s := ()) (s' := ()) (r := .dat (.bool false)) ?_ (fun e => by simp [e]) (fun e => by simp [e]) (fun q hq => hi q (.tail _ hq))
      refine Ex.cons (Sx.assign (av := .dat (.int (holderOf row v))) (Ev.ite (b := row.any (· == v)) (by rw [← inI]; exact Ts.cmp (by walk_at "ev") (by walk_at "ev") (op_in rfl rfl (by rw [PyData.canLay0]) (lay_ints _) (by rw [PyData.depth]; decide))) (fun hb => ?_) (fun hb => ?_)) (Tg.name (by walk_at "st"))) ?_
      · rw [holderOf, if_pos hb]
        exact Ev.index (by walk_at "ev") (by walk_at "ev") (by simpa using hb) hlr
      · rw [holderOf, if_neg (by rw [hb]; simp)]
        walk_at "ev"
      · cases hb : badB ls row m v with
        | true =>
          refine Ex.ret (Sx.iff (b := true) (by rw [← hb]; exact Ts.cmp (Ev.index (Ev.itemL (by walk_at "ev") (by walk_at "ev") gv.1 gv.2) (by walk_at "ev") hm (hlay v v0 v5)) (Ev.index (Ev.itemL (by walk_at "ev") (by walk_at "ev") gv.1 gv.2) (by walk_at "ev") hh (hlay v v0 v5)) op_lt) (fun _ => ?_) nofun)
          exact Ex.ret (Sx.ret (by walk_at "ev"))
        | false =>
          refine Ex.less (Ex.cons (Sx.iff (b := false) (by rw [← hb]; exact Ts.cmp (Ev.index (Ev.itemL (by walk_at "ev") (by walk_at "ev") gv.1 gv.2) (by walk_at "ev") hm (hlay v v0 v5)) (Ev.index (Ev.itemL (by walk_at "ev") (by walk_at "ev") gv.1 gv.2) (by walk_at "ev") hh (hlay v v0 v5)) op_lt) nofun fun _ => Ex.nil) Ex.nil) (by walk_at "less")
    · show After _ _ _ _ _ _ _ (if (rivals ls row m).all (fun v => !badB ls row m v) then _ else _)
      have e : firmAt ls row m = (rivals ls row m).all (fun v => !badB ls row m v) := rfl
      rw [e]
      cases (rivals ls row m).all (fun v => !badB ls row m v) with
      | true => exact Ex.less Ex.nil (by walk_at "less")
      | false => rfl
  · show After _ _ _ _ _ _ _ (if [0, 1, 2].all (firmAt ls row) then _ else _)
    unfold firmB
    cases hb : [0, 1, 2].all (firmAt ls row) with
    | true =>
      show Ex (cx w mg mb) n κ _ X X [(Str.ofString "row", .dat (DI row)), (Str.ofString "lines", .dat (DDI ls))] _ _
      exact Ex.retE (d := .bool true) (by walk_at "ev") rfl
    | false => rfl

/-! ## _law_liked -/
noncomputable def wantOk (want : Str) : Bool := decide (want.length ≤ 100) && ((!(!(Builtin.Str.occurrences want MK 0 want.length 1).isEmpty)) || (decide (2 ≤ (Txt.split want MK).length) && decide ((Txt.split want MK).length ≤ 100) && ((Txt.split want MK).all fun x => decide (x.length ≤ 100)) &&
  decide ((Builtin.Str.partsBetween want (Builtin.Str.occurrences want MK 0 want.length (want.length + 1)) MK.length).length ≤ 1000)))
theorem wishes_ok : ∀ a b c d e f : Bool, ∀ m ∈ [(3 : Int), 4, 5, 6], wantOk (cramS (nm a b c d e f) m) = true := by decide +kernel
theorem wish_ok (x : Int) : wantOk (wishS x) = true := wishes_ok _ _ _ _ _ _ _ (by rcases fmod4 (x.fdiv 64) with h | h | h | h <;> rw [h] <;> decide)
theorem fn_em' (w : World) (mg mb : Str → Option Value) (Z : Gs mg) (n : Nat) (hn : n < 70) (x y : Int) : Fn (cx w mg mb) (n + 1) 49 [.dat (.str (wishS x)), .dat (.str (nameS y))] (.dat (.bool (emS (wishS x) (nameS y)))) := by
  have h := wish_ok x
  unfold wantOk at h
  obtain ⟨h1, h2⟩ := Bool.and_eq_true_iff.mp h
  refine fn_em w mg mb Z n hn _ _ (of_decide_eq_true h1) (by rw [show (nameS y).length = 6 from nm_len ..]; decide) fun hb => ?_
  rw [hb, Bool.false_or] at h2
  simp only [Bool.and_eq_true, decide_eq_true_eq, List.all_eq_true] at h2
  exact ⟨h2.1.1.1, h2.1.1.2, h2.1.2, h2.2⟩
noncomputable def likeB (xs : List Int) (p q : Int) : Bool := emS (wishS (dr xs p)) (nameS (dr xs q)) && emS (wishS (dr xs q)) (nameS (dr xs p))
noncomputable def likeD (xs : List Int) (p : Int) : PyData → Bool
  | .int q => likeB xs p q
  | _ => false
theorem filt_int (f : Int → Bool) (g : PyData → Bool) (h : ∀ q, g (.int q) = f q) : ∀ os : List Int, (os.map PyData.int).filter g = (os.filter f).map .int
  | [] => rfl
  | q :: os => by
    rw [List.map_cons, List.filter_cons, List.filter_cons, h, filt_int f g h os]
    cases f q <;> rfl

theorem fn_liked (w : World) (mg mb : Str → Option Value) (Z : Gs mg) (n : Nat) (hn : n < 60) (xs : List Int) (p : Int) (os : List Int) (hp : 0 ≤ p ∧ p ≤ 5) (ho : ∀ q ∈ os, 0 ≤ q ∧ q ≤ 5) (hz : os.length ≤ 100) :
    Fn (cx w mg mb) (n + 1 + 1 + 1 + 1) 94 [.dat (.list (ppl xs)), .dat (.int p), .dat (DI os)] (.dat (DI (os.filter (likeB xs p)))) := by
  refine Fn.of_body (names := [Str.ofString "people", Str.ofString "p", Str.ofString "others"]) ⟨⟨_, rfl, rfl⟩, rfl, rfl, rfl, rfl, rfl, rfl, rfl, by kernel_rfl, fun vs hl => ?_, by kernel_rfl, by kernel_rfl⟩ (by omega) rfl (by simp [AV.at?]) ?_
  · exact bind3 (fun _ _ _ => rfl) vs hl
  intro X
  generalize hκ : Sta.of _ = κ
  have k1 : κ.kd (Str.ofString "people") = some .cell := by rw [← hκ]; rfl
  have k2 : κ.kd (Str.ofString "p") = some .local := by rw [← hκ]; rfl
  have k3 : κ.kd (Str.ofString "others") = some .local := by rw [← hκ]; rfl
  have k4 : κ.kd (Str.ofString "mine") = some .cell := by rw [← hκ]; rfl
  have k5 : κ.kd (Str.ofString "_split_list") = some .globalImplicit := by rw [← hκ]; rfl
  have kc : κ.code = .ref 93 := by rw [← hκ]; rfl
  have kq : κ.qual ++ "<lambda>" = Str.ofString "_law_liked.<locals>.<lambda>" := by rw [← hκ]; decide +kernel
  clear hκ
  simp only [bindρ]
  have pp := getP xs hp.1 hp.2
  refine Ex.cons (Sx.assign (Ev.itemL (by walk_at "ev") (by walk_at "ev") pp.1 pp.2) (Tg.name (by walk_at "st"))) ?_
  have hsp := fn_split w mg mb (n + 1 + 1) (by omega) (os.map .int) (os.map .int) (likeD xs p) (fun _ h => h) (by simp; omega)
  have e := filt_int (likeB xs p) (likeD xs p) (fun _ => rfl) os
  refine Ex.retE (Ev.itemT (k := 0) (j := 0) (Ev.call k5 Z.split (o := _) (fd := _) rfl rfl hsp (.cons (by walk_at "ev") (.cons ?_ .nil)) (by decide +kernel)) Ev.int rfl rfl) (by rw [e])
  refine Ev.lambda (pn := Str.ofString "q") (P := 89) (cA := 93) (ρ0 := [(Str.ofString "mine", .dat (PD (dr xs p) p)), (Str.ofString "people", .dat (.list (ppl xs)))]) ?_ kc (by kernel_rfl) (.inl ⟨rfl, rfl, rfl, kq⟩) (fun _ => rfl) (by omega) (fun _ _ _ _ _ _ _ => rfl) ?_ rfl rfl rfl ?_ ?_
  · walk_at "fr"
  · decide +kernel
  · intro cd q
    rfl
  · intro cd qq d hd
    obtain ⟨q, hq, rfl⟩ := List.mem_map.mp hd
    obtain ⟨q0, q5⟩ := ho q hq
    have pq := getP xs q0 q5
    have h1 := fn_em' w mg mb Z n (by omega) (dr xs p) (dr xs q)
    have h2 := fn_em' w mg mb Z n (by omega) (dr xs q) (dr xs p)
    generalize hκ' : Sta.mk _ cd qq = κ'
    have j1 : κ'.kd (Str.ofString "mine") = some .free := by rw [← hκ']; rfl
    have j2 : κ'.kd (Str.ofString "people") = some .free := by rw [← hκ']; rfl
    have j3 : κ'.kd (Str.ofString "q") = some .local := by rw [← hκ']; rfl
    have j4 : κ'.kd (Str.ofString "_ellipsis_match") = some .globalImplicit := by rw [← hκ']; rfl
    clear hκ'
    exact Ev.and (Ev.call j4 Z.em (o := _) (fd := _) rfl rfl h1 (.cons (Ev.itemT (k := 1) (j := 1) (by walk_at "ev") Ev.int rfl rfl) (.cons (Ev.itemT (k := 0) (j := 0) (Ev.itemL (by walk_at "ev") (by walk_at "ev") pq.1 pq.2) Ev.int rfl rfl) .nil)) (by decide +kernel))
      fun _ => Ev.call j4 Z.em (o := _) (fd := _) rfl rfl h2 (.cons (Ev.itemT (k := 1) (j := 1) (Ev.itemL (by walk_at "ev") (by walk_at "ev") pq.1 pq.2) Ev.int rfl rfl) (.cons (Ev.itemT (k := 0) (j := 0) (by walk_at "ev") Ev.int rfl rfl) .nil)) (by decide +kernel)

/-! ## _law_best -/
noncomputable def norm (q : Int) : Int := if q < 0 then q + 6 else q
noncomputable def rowQ (xs : List Int) (q : Int) : List Int := rowOf (dr xs (norm q)) (norm q)
noncomputable def cmpQ (xs : List Int) (p a b : Int) : Int := (cmpO (rowQ xs a) (rowQ xs b) (keysOf (dr xs p))).getD 0
noncomputable def bestB (xs : List Int) (p : Int) (ss : List Int) (a : Int) : Bool := (ss.filter fun b => decide (0 < cmpQ xs p a b)) == []
theorem getN (xs : List Int) {q : Int} (h0 : -1 ≤ q) (h5 : q ≤ 5) : seqIndex? q (ppl xs).length = some (norm q).toNat ∧ (ppl xs)[(norm q).toNat]? = some (PD (dr xs (norm q)) (norm q)) := by
  have : q = -1 ∨ q = 0 ∨ q = 1 ∨ q = 2 ∨ q = 3 ∨ q = 4 ∨ q = 5 := by omega
  rcases this with rfl | rfl | rfl | rfl | rfl | rfl | rfl <;> exact ⟨rfl, rfl⟩
noncomputable def bestD (xs : List Int) (p : Int) (ss : List Int) : PyData → Bool
  | .int q => bestB xs p ss q
  | _ => false
noncomputable def gtD (xs : List Int) (p a : Int) : PyData → Bool
  | .int b => decide (0 < cmpQ xs p a b)
  | _ => false

theorem fn_best (w : World) (mg mb : Str → Option Value) (Z : Gs mg) (n : Nat) (hn : n < 60) (xs : List Int) (p : Int) (ss : List Int) (hp : 0 ≤ p ∧ p ≤ 5) (ho : ∀ q ∈ ss, -1 ≤ q ∧ q ≤ 5) (hz : ss.length ≤ 100) :
    Fn (cx w mg mb) (n + 1 + 1 + 1 + 1) 101 [.dat (.list (ppl xs)), .dat (.int p), .dat (DI ss)] (.dat (.tuple [DI (ss.filter (bestB xs p ss)), DI (ss.filter fun a => !bestB xs p ss a)])) := by
  refine Fn.of_body (names := [Str.ofString "people", Str.ofString "p", Str.ofString "several"]) ⟨⟨_, rfl, rfl⟩, rfl, rfl, rfl, rfl, rfl, rfl, rfl, by kernel_rfl, fun vs hl => ?_, by kernel_rfl, by kernel_rfl⟩ (by omega) rfl (by simp [AV.at?]) ?_
  · exact bind3 (fun _ _ _ => rfl) vs hl
  intro X
  generalize hκ : Sta.of _ = κ
  have k1 : κ.kd (Str.ofString "people") = some .cell := by rw [← hκ]; rfl
  have k2 : κ.kd (Str.ofString "p") = some .local := by rw [← hκ]; rfl
  have k3 : κ.kd (Str.ofString "several") = some .cell := by rw [← hκ]; rfl
  have k4 : κ.kd (Str.ofString "judge") = some .cell := by rw [← hκ]; rfl
  have k5 : κ.kd (Str.ofString "TupleComp") = some .globalImplicit := by rw [← hκ]; rfl
  have k6 : κ.kd (Str.ofString "_split_list") = some .globalImplicit := by rw [← hκ]; rfl
  have kc : κ.code = .ref 100 := by rw [← hκ]; rfl
  have kq : κ.qual ++ "<lambda>" = Str.ofString "_law_best.<locals>.<lambda>" := by rw [← hκ]; decide +kernel
  clear hκ
  simp only [bindρ]
  have T := tc_of w.params
  have pp := getP xs hp.1 hp.2
  have hsp := fn_split w mg mb (n + 1 + 1) (by omega) (ss.map .int) (ss.map .int) (bestD xs p ss) (fun _ h => h) (by simp; omega)
  have e1 := filt_int (bestB xs p ss) (bestD xs p ss) (fun _ => rfl) ss
  have e2 := filt_int (fun a => !bestB xs p ss a) (fun d => !bestD xs p ss d) (fun _ => rfl) ss
  rw [e1, e2] at hsp
  refine Ex.assignRet (keys := .list ((keysOf (dr xs p)).map DK)) (Ev.inst (c := cx w mg mb) T (by omega) k5 Z.tc (Ev.itemT (k := 3) (j := 3) (Ev.itemL (by walk_at "ev") (by walk_at "ev") pp.1 pp.2) Ev.int rfl rfl)) (by decide +kernel) (fun a xs h => by
    have := mem_of_lookupA h
    simp at this) ?_
  refine Ev.call k6 Z.split (o := _) (fd := _) rfl rfl hsp (.cons (by walk_at "ev") (.cons ?_ .nil)) (by decide +kernel)
  apply Ev.lambda (pn := Str.ofString "one") (P := 96) (cA := 100) (n' := n + 1)
  · walk_at "fr"
  · exact kc
  · kernel_rfl
  · exact .inr ⟨rfl, rfl, rfl, kq⟩
  · exact fun _ => rfl
  · omega
  · exact fun _ _ _ _ _ _ _ => rfl
  · decide +kernel
  · rfl
  · rfl
  · rfl
  · intro cd q
    simp only [stOk, Bool.or_eq_true]; exact .inr (by decide +kernel)
  · intro cd qq d hd
    obtain ⟨a, ha, rfl⟩ := List.mem_map.mp hd
    obtain ⟨a0, a5⟩ := ho a ha
    have pa := getN xs a0 a5
    generalize hκ' : Sta.mk _ cd qq = κ'
    have j1 : κ'.kd (Str.ofString "one") = some .cell := by rw [← hκ']; rfl
    have j2 : κ'.kd (Str.ofString "judge") = some .free := by rw [← hκ']; rfl
    have j3 : κ'.kd (Str.ofString "people") = some .free := by rw [← hκ']; rfl
    have j4 : κ'.kd (Str.ofString "several") = some .free := by rw [← hκ']; rfl
    clear hκ'
    have e3 : ((ss.map PyData.int).filter (gtD xs p a)).map id = (ss.filter fun b => decide (0 < cmpQ xs p a b)).map PyData.int := by
      rw [List.map_id, filt_int (fun b => decide (0 < cmpQ xs p a b)) (gtD xs p a) (fun _ => rfl)]
    have e4 : bestB xs p ss a = PyData.eqv (DI (ss.filter fun b => decide (0 < cmpQ xs p a b))) (DI []) := (eqv_ints _ _).symm
    show Ev _ _ _ _ _ _ (.dat (.bool (bestB xs p ss a)))
    rw [e4]
    refine Ev.cmp (a := .dat (DI (ss.filter fun b => decide (0 < cmpQ xs p a b)))) (b := .dat (DI [])) ?_ (Ev.list (ds := []) .nil) (op_eq rfl rfl (lay_DI _) (lay_DI []) (by rw [depth_DI]; decide))
    show Ev _ _ _ _ _ _ (.dat (.list ((ss.filter fun b => decide (0 < cmpQ xs p a b)).map PyData.int)))
    rw [← e3]
    refine EvN.ev (EvN.comp ?_)
    refine Cp.map (ρ0 := [(Str.ofString "judge", .inst (.list ((keysOf (dr xs p)).map DK))), (Str.ofString "one", .dat (.int a)), (Str.ofString "people", .dat (.list (ppl xs)))]) (g := gtD xs p a) (f := id) (EvIt.list ?_) ?_ ?_ ?_ (fun D hD d hd => ?_) ?_ ?_ ?_
    · walk_at "ev"
    · walk_at "fr"
    · walk_at "st"
    · simp; omega
    · obtain ⟨b, hb, rfl⟩ := List.mem_map.mp hd
      obtain ⟨b0, b5⟩ := ho b hb
      have pb := getN xs b0 b5
      have hc := fn_compare w mg mb n (by omega) (keysOf (dr xs p)) (rowQ xs a) (rowQ xs b) (fun k hk => ⟨(keys_ok hk).1, (keys_ok hk).2.1⟩) rfl rfl
      refine ⟨?_, fun _ => by show Ev _ _ _ _ _ _ (.dat (.int b)); walk_at "ev"⟩
      show Ts _ _ _ _ _ _ (decide (0 < cmpQ xs p a b))
      exact Ts.cmp (Ev.compare (c := cx w mg mb) T (o := _) (fd := _) rfl rfl (by walk_at "ev") (.cons (Ev.itemT (k := 2) (j := 2) (Ev.itemL (by walk_at "ev") (by walk_at "ev") pa.1 pa.2) Ev.int rfl rfl) (.cons (Ev.itemT (k := 2) (j := 2) (Ev.itemL (by walk_at "ev") (by walk_at "ev") pb.1 pb.2) Ev.int rfl rfl) .nil)) hc) Ev.int op_gt
    · decide +kernel
    · rfl
    · rfl

/-! ## _law_asked -/
structure St where
  left : List (List Int)
  held : List (List Int)
  free : List Int
  turn : Int

noncomputable def St.idx (s : St) : Nat := (s.turn.fmod s.free.length).toNat
noncomputable def St.asker (s : St) : Int := s.free.getD s.idx 0
noncomputable abbrev St.row (s : St) : List Int := at' s.left s.asker
noncomputable abbrev St.chosen (xs : List Int) (s : St) : List Int := s.row.filter (bestB xs s.asker s.row)
noncomputable abbrev St.rest (xs : List Int) (s : St) : List Int := s.row.filter fun a => !bestB xs s.asker s.row a
noncomputable abbrev St.c (xs : List Int) (s : St) : Int := (s.chosen xs).getD 0 0
noncomputable abbrev St.hs (xs : List Int) (s : St) : List Int := at' s.held (s.c xs) ++ [s.asker]
noncomputable abbrev St.keep (xs : List Int) (s : St) : List Int := (s.hs xs).filter (bestB xs (s.c xs) (s.hs xs))
noncomputable abbrev St.refused (xs : List Int) (s : St) : List Int := (s.hs xs).filter fun a => !bestB xs (s.c xs) (s.hs xs) a
noncomputable def St.step (xs : List Int) (s : St) : St :=
  if s.row = [] then { s with free := s.free.eraseIdx s.idx, turn := s.turn.fdiv 3 }
  else { left := s.left.set s.asker.toNat (s.rest xs), held := s.held.set (s.c xs).toNat (s.keep xs), free := s.free.eraseIdx s.idx ++ s.refused xs, turn := s.turn.fdiv 3 }
structure St.Ok (xs : List Int) (s : St) : Prop where
  l6 : s.left.length = 6
  h6 : s.held.length = 6
  fz : s.free.length ≤ 100
  a : 0 ≤ s.asker ∧ s.asker ≤ 5
  rz : s.row.length ≤ 100
  rr : ∀ q ∈ s.row, -1 ≤ q ∧ q ≤ 5
  ch : s.row ≠ [] → s.chosen xs ≠ [] ∧ 0 ≤ s.c xs ∧ s.c xs ≤ 5 ∧ (s.hs xs).length ≤ 100 ∧ ∀ q ∈ s.hs xs, -1 ≤ q ∧ q ≤ 5
inductive Asks (xs : List Int) : Nat → St → St → Prop
  | stop (s : St) (h : s.free = []) : Asks xs 0 s s
  | turn {m : Nat} {s s' : St} (h : s.free ≠ []) (ok : s.Ok xs) (r : Asks xs m (s.step xs) s') : Asks xs (m + 1) s s'

theorem Wh.gen {c : Cx} {n : Nat} {κ : Sta} {sts : List Str} {Xo X : List Addr} {σ : Type} {t : Expr} {body : List Stmt} (st : σ → List (Str × AV)) (A : Nat → σ → σ → Prop) (h0 : ∀ s s', A 0 s s' → s' = s ∧ Ts c n κ X (st s) t false)
    (h1 : ∀ m s s', A (m + 1) s s' → ∃ s1, A m s1 s' ∧ Ts c n κ X (st s) t true ∧ Ex c n κ sts Xo X (st s) body (.next X (st s1))) : ∀ m s s', A m s s' → Wh c n κ sts Xo X t body m (st s) (.next X (st s'))
  | 0, s, s', h => by
    obtain ⟨rfl, ht⟩ := h0 s s' h
    exact .stop ht
  | m + 1, s, s', h => by
    obtain ⟨s1, h2, ht, hb⟩ := h1 m s s' h
    exact .turn ht hb (Wh.gen st A h0 h1 m s1 s' h2)

theorem fn_asked (w : World) (mg mb : Str → Option Value) (Z : Gs mg) (n : Nat) (hn : n < 50) (xs : List Int) (lk : List (List Int)) (as : List Int) (turn : Int) (m : Nat) (s' : St) (hlk : lk.length = 6) (hlz : ∀ l ∈ lk, l.length ≤ 100) (haz : as.length ≤ 100) (hA : Asks xs m ⟨lk, [[], [], [], [], [], []], as, turn⟩ s') :
    Fn (cx w mg mb) (n + 1 + 1 + 1 + 1 + 1) 106 [.dat (.list (ppl xs)), .dat (DDI lk), .dat (DI as), .dat (.int turn)] (.dat (DDI s'.held)) := by
  refine Fn.of_body (names := [Str.ofString "people", Str.ofString "liked", Str.ofString "askers", Str.ofString "turn"]) ⟨⟨_, rfl, rfl⟩, rfl, rfl, rfl, rfl, rfl, rfl, rfl, by kernel_rfl, fun vs hl => ?_, by kernel_rfl, by kernel_rfl⟩ (by omega) rfl (by simp [AV.at?]) ?_
  · exact bind4 (fun _ _ _ _ => rfl) vs hl
  intro X
  generalize hκ : Sta.of _ = κ
  have k1 : κ.kd (Str.ofString "people") = some .local := by rw [← hκ]; rfl
  have k2 : κ.kd (Str.ofString "liked") = some .local := by rw [← hκ]; rfl
  have k3 : κ.kd (Str.ofString "askers") = some .local := by rw [← hκ]; rfl
  have k4 : κ.kd (Str.ofString "turn") = some .local := by rw [← hκ]; rfl
  have k5 : κ.kd (Str.ofString "left") = some .local := by rw [← hκ]; rfl
  have k6 : κ.kd (Str.ofString "held") = some .local := by rw [← hκ]; rfl
  have k7 : κ.kd (Str.ofString "free") = some .local := by rw [← hκ]; rfl
  have k8 : κ.kd (Str.ofString "asker") = some .local := by rw [← hκ]; rfl
  have k9 : κ.kd (Str.ofString "chosen") = some .local := by rw [← hκ]; rfl
  have k10 : κ.kd (Str.ofString "refused") = some .local := by rw [← hκ]; rfl
  have k11 : κ.kd (Str.ofString "list") = some .globalImplicit := by rw [← hκ]; rfl
  have k12 : κ.kd (Str.ofString "len") = some .globalImplicit := by rw [← hκ]; rfl
  have k13 : κ.kd (Str.ofString "_law_best") = some .globalImplicit := by rw [← hκ]; rfl
  clear hκ
  simp only [bindρ]
  refine Ex.assignC (xs := lk.map DI) ?_ k5 fun a ha => ?_
  · have e : (lk.map DI).map id = lk.map DI := List.map_id _
    rw [← e]
    refine Cp.map0 (ρ0 := []) (f := id) (EvIt.list ?_) ?_ ?_ ?_ (fun D hD d hd => ?_) ?_ ?_ ?_
    · walk_at "ev"
    · walk_at "fr"
    · walk_at "st"
    · simp; omega
    · obtain ⟨l, hl, rfl⟩ := List.mem_map.mp hd
      exact (EvN.callB (kd_keep (by decide +kernel) (by decide)) Z.list bb_list rfl (fn_list rfl (by simp; have := hlz l hl; omega)) (.cons (by walk_at "ev") .nil) (by decide +kernel) (by decide +kernel)).ev
    · decide +kernel
    · rfl
    · rfl
  refine Ex.assignC (xs := ([[], [], [], [], [], []] : List (List Int)).map DI) ?_ k6 fun b hb => ?_
  · show Cp _ _ _ _ _ _ _ _ ((ppl xs).map fun _ => PyData.list [])
    refine Cp.map0 (ρ0 := []) (f := fun _ => PyData.list []) (EvIt.list ?_) ?_ ?_ ?_ (fun D hD d hd => ?_) ?_ ?_ ?_
    · walk_at "ev"
    · walk_at "fr"
    · walk_at "st"
    · simp [ppl]
    · exact Ev.list (ds := []) .nil
    · decide +kernel
    · rfl
    · rfl
  refine Ex.assignN (xs := as.map .int) (EvN.callB k11 Z.list bb_list rfl (fn_list rfl (by simp; omega)) (.cons (by walk_at "ev") .nil) (by decide +kernel) (by decide +kernel)) k7 fun f hf => ?_
  have hab : b ≠ a := fun z => hb (z ▸ .head _)
  have hfa : f ≠ a := fun z => hf (z ▸ .tail _ (.head _))
  have hfb : f ≠ b := fun z => hf (z ▸ .head _)
  refine Ex.cons (Sx.while (Wh.gen (fun s : St => [(Str.ofString "free", AV.own f (s.free.map .int)), (Str.ofString "held", .own b (s.held.map DI)), (Str.ofString "left", .own a (s.left.map DI)), (Str.ofString "turn", .dat (.int s.turn)), (Str.ofString "askers", .dat (DI as)), (Str.ofString "liked", .dat (DDI lk)), (Str.ofString "people", .dat (.list (ppl xs)))])
    (Asks xs) (fun s s1 h => ?_) (fun m s s1 h => ?_) m _ _ hA)) ?_
  · cases h with
    | stop _ h =>
      refine ⟨rfl, ?_⟩
      have : (!(s.free == [])) = false := by rw [h]; rfl
      rw [← this, ← eqv_ints]
      exact Ts.cmp (by walk_at "ev") (Ev.list (ds := []) .nil) (op_ne (da := DI s.free) (db := DI []) rfl rfl (lay_DI _) (lay_DI []) (by rw [depth_DI]; decide))
  · cases h with
    | turn h ok r =>
      refine ⟨_, r, ?_, ?_⟩
      · have : (!(s.free == [])) = true := by simpa using h
        rw [← this, ← eqv_ints]
        exact Ts.cmp (by walk_at "ev") (Ev.list (ds := []) .nil) (op_ne (da := DI s.free) (db := DI []) rfl rfl (lay_DI _) (lay_DI []) (by rw [depth_DI]; decide))
      · have hlen : 0 < s.free.length := List.length_pos_iff.mpr h
        have hfz := ok.fz
        have q1 := Int.fmod_nonneg_of_pos s.turn (b := (s.free.length : Int)) (by omega)
        have q2 := Int.fmod_lt_of_pos s.turn (b := (s.free.length : Int)) (by omega)
        have hidx : s.idx < s.free.length := by unfold St.idx; omega
        have hj : seqIndex? (s.turn.fmod s.free.length) (s.free.map PyData.int).length = some s.idx := by
          rw [List.length_map]
          unfold seqIndex? St.idx
          have : ¬ (s.turn.fmod s.free.length < 0) := by omega
          simp only [this, if_false]
          rw [if_pos (by simp; omega)]
        have hd : (s.free.map PyData.int)[s.idx]? = some (.int s.asker) := by
          rw [List.getElem?_map, St.asker, List.getD_eq_getElem?_getD, List.getElem?_eq_getElem hidx]; rfl
        refine Ex.cons (Sx.pop (x := Str.ofString "free") (y := Str.ofString "asker") (a := f) (i := s.turn.fmod s.free.length) (j := s.idx) (d := .int s.asker) (by walk_at "lk") k7 k8 (by decide +kernel) (Ev.bin (by walk_at "ev") (Ev.callB k12 Z.len bb_len rfl (fn_len_list (xs := s.free.map .int) rfl (by simp; omega)) (.cons (by walk_at "ev") .nil) (by decide +kernel) (by decide +kernel)) (by rw [List.length_map]; exact op_mod (by omega) (by omega))) hj hd (by simp; omega) ?_ ⟨by omega, by omega⟩ rfl rfl (by decide +kernel) (by decide +kernel)) ?_
        · intro y e zs mm
          simp at mm
          rcases mm with ⟨rfl, _⟩ | ⟨_, rfl, _⟩ | ⟨_, rfl, _⟩
          · exact .inl rfl
          · exact .inr hfb.symm
          · exact .inr hfa.symm
        refine Ex.cons (Sx.assign (by walk_at "ev") (Tg.name (by walk_at "st"))) ?_
        have oa0 := ok.a.1
        have oa5 := ok.a.2
        have ga := getL ok.l6 oa0 oa5
        have hrow : at' s.left s.asker = s.row := rfl
        rw [hrow] at ga
        by_cases hr : s.row = []
        · rw [show s.step xs = { s with free := s.free.eraseIdx s.idx, turn := s.turn.fdiv 3 } by unfold St.step; rw [if_pos hr]]
          refine Ex.less (Ex.cons (Sx.iff (b := false) ?_ nofun fun _ => Ex.nil) Ex.nil) ?_
          · have : (!(s.row == [])) = false := by rw [hr]; rfl
            rw [← this, ← eqv_ints]
            exact Ts.cmp (Ev.itemO (by walk_at "ev") (by walk_at "ev") ga.1 ga.2) (Ev.list (ds := []) .nil) (op_ne (da := DI s.row) (db := DI []) rfl rfl (lay_DI _) (lay_DI []) (by rw [depth_DI]; decide))
          · rw [erase_map]
            walk_at "less"
        · obtain ⟨c1, c2, c3, c4, c5⟩ := ok.ch hr
          rw [show s.step xs = { left := s.left.set s.asker.toNat (s.rest xs), held := s.held.set (s.c xs).toNat (s.keep xs), free := s.free.eraseIdx s.idx ++ s.refused xs, turn := s.turn.fdiv 3 } by unfold St.step; rw [if_neg hr]]
          have hb1 := fn_best w mg mb Z n (by omega) xs s.asker s.row ⟨oa0, oa5⟩ ok.rr ok.rz
          have hb2 := fn_best w mg mb Z n (by omega) xs (s.c xs) (s.hs xs) ⟨c2, c3⟩ c5 c4
          have hcl : 0 < (s.chosen xs).length := List.length_pos_iff.mpr c1
          have gc := getL ok.h6 c2 c3
          have hch : (s.chosen xs |>.map PyData.int)[0]? = some (.int (s.c xs)) := by
            rw [List.getElem?_map, St.c, List.getD_eq_getElem?_getD, List.getElem?_eq_getElem hcl]; rfl
          have hz0 : seqIndex? 0 ((s.chosen xs).map PyData.int).length = some 0 := seq_zero (by rw [List.length_map]; exact hcl)
          refine Ex.cons (Sx.iff (b := true) ?_ (fun _ => ?_) nofun) Ex.nil
          · have : (!(s.row == [])) = true := by simpa using hr
            rw [← this, ← eqv_ints]
            exact Ts.cmp (Ev.itemO (by walk_at "ev") (by walk_at "ev") ga.1 ga.2) (Ev.list (ds := []) .nil) (op_ne (da := DI s.row) (db := DI []) rfl rfl (lay_DI _) (lay_DI []) (by rw [depth_DI]; decide))
          refine Ex.cons (Sx.assign (Ev.call k13 Z.best (o := _) (fd := _) rfl rfl hb1 (.cons (by walk_at "ev") (.cons (by walk_at "ev") (.cons (Ev.itemO (by walk_at "ev") (by walk_at "ev") ga.1 ga.2) .nil))) (by decide +kernel)) (Tg.pair (Tg.name (by walk_at "st")) (Tg.subO (x := Str.ofString "left") (a := a) (by walk_at "lk") k5 (by walk_at "ev") oa0 (by rw [List.length_map, ok.l6]; omega) ?_ (by omega) (by decide +kernel) (by decide +kernel)))) ?_
          · intro y e zs mm
            simp at mm
            rcases mm with ⟨rfl, rfl, _⟩ | ⟨rfl, rfl, _⟩ | ⟨rfl, rfl, _⟩ | ⟨rfl, rfl, _⟩
            · exact .inr hfa
            · exact .inr hfa
            · exact .inr hab
            · exact .inl rfl
          have happ : ((at' s.held (s.c xs)).map PyData.int ++ [PyData.int s.asker]) = (s.hs xs).map PyData.int := by
            rw [show s.hs xs = at' s.held (s.c xs) ++ [s.asker] from rfl, List.map_append]; rfl
          have hhl : (at' s.held (s.c xs)).length + 1 ≤ 100 := by simpa using c4
          refine Ex.cons (Sx.assign (Ev.call k13 Z.best (o := _) (fd := _) rfl rfl hb2 (.cons (by walk_at "ev") (.cons (Ev.itemL (xs := (s.chosen xs).map .int) (by walk_at "ev") (by walk_at "ev") hz0 hch) (.cons (a := .dat (DI (s.hs xs))) ?_ .nil))) (by decide +kernel)) (Tg.pair (Tg.subO (x := Str.ofString "held") (a := b) (by walk_at "lk") k6 (Ev.itemL (xs := (s.chosen xs).map .int) (by walk_at "ev") (by walk_at "ev") hz0 hch) c2 (by rw [List.length_map, ok.h6]; omega) ?_ (by omega) (by decide +kernel) (by decide +kernel)) (Tg.name (by walk_at "st")))) ?_
          · show Ev _ _ _ _ _ _ (.dat (.list ((s.hs xs).map PyData.int)))
            rw [← happ]
            exact Ev.bin (Ev.itemO (by walk_at "ev") (Ev.itemL (xs := (s.chosen xs).map .int) (by walk_at "ev") (by walk_at "ev") hz0 hch) gc.1 gc.2) (Ev.list (ds := [.int s.asker]) (.cons (by walk_at "ev") .nil) (by simp)) (op_addl (by rw [List.length_map]; exact Nat.le_trans hhl (by decide)))
          · intro y e zs mm
            simp at mm
            rcases mm with ⟨rfl, rfl, _⟩ | ⟨rfl, rfl, _⟩ | ⟨rfl, rfl, _⟩ | ⟨rfl, rfl, _⟩ | ⟨rfl, rfl, _⟩ <;> first | exact .inl rfl | exact .inr hfb | exact .inr hab.symm
          have hrl : (s.refused xs).length ≤ 100 := Nat.le_trans (List.length_filter_le _ _) c4
          have eL : (s.left.map DI).set s.asker.toNat (DI (s.rest xs)) = (s.left.set s.asker.toNat (s.rest xs)).map DI := List.map_set.symm
          have eH : (s.held.map DI).set (s.c xs).toNat (DI (s.keep xs)) = (s.held.set (s.c xs).toNat (s.keep xs)).map DI := List.map_set.symm
          have eF : (s.free.map PyData.int).eraseIdx s.idx ++ (s.refused xs).map PyData.int = (s.free.eraseIdx s.idx ++ s.refused xs).map PyData.int := by rw [erase_map, List.map_append]
          refine Ex.less (Ex.cons (Sx.extend (x := Str.ofString "free") (a := f) (xs := (s.free.map PyData.int).eraseIdx s.idx) (ys := (s.refused xs).map PyData.int) (by walk_at "lk") k7 (by walk_at "ev") ?_ ?_) Ex.nil) ?_
          · rw [List.length_eraseIdx_of_lt (by rw [List.length_map]; exact hidx), List.length_map, List.length_map]; omega
          · intro y e zs mm
            simp at mm
            rcases mm with ⟨rfl, rfl, _⟩ | ⟨rfl, rfl, _⟩ | ⟨rfl, rfl, _⟩ | ⟨rfl, rfl, _⟩ | ⟨rfl, rfl, _⟩ | ⟨rfl, rfl, _⟩ <;> first | exact .inl rfl | exact .inr hfb.symm | exact .inr hfa.symm
          · rw [eF, eL, eH]
            walk_at "less"
  · exact Ex.ret (Sx.retO (by walk_at "lk") k6 (by decide +kernel) (by decide +kernel))

/-! ## Comprehensions over lists of any kind -/
section
variable {c : Cx} {n : Nat} {κ : Sta} {sts : List Str} {Xo X : List Addr} {ρ : List (Str × AV)} {β γ : Type}

theorem Lp.mapM {x : Str} {p : Pos} {ifs : List Expr} {elt : Expr} {ρ0 : List (Str × AV)} (enc : β → PyData) {g : β → Bool} {f : β → PyData} (hx : stOk κ sts x = true) : ∀ (ds : List β) (ρ : List (Str × AV)), Off x ρ ρ0 →
    (∀ d ∈ ds, TsL c n κ X ((x, .dat (enc d)) :: ρ0) ifs (g d) ∧ (g d = true → Ev c n κ X ((x, .dat (enc d)) :: ρ0) elt (.dat (f d)))) → ∃ ρ', Lp c n κ sts X (.Name x p) ifs (B1 c n κ X elt) (ds.map enc) ρ ρ' ((ds.filter g).map f)
  | [], ρ, _, _ => ⟨ρ, .nil ρ⟩
  | d :: ds, ρ, ho, h => by
    obtain ⟨h1, h2⟩ := h d (.head _)
    obtain ⟨ρ', L⟩ := Lp.mapM enc hx ds ((x, .dat (enc d)) :: ρ0) (.cons x _ ρ0) fun e he => h e (.tail _ he)
    refine ⟨ρ', ?_⟩
    rw [List.map_cons]
    cases hg : g d with
    | true =>
      rw [List.filter_cons_of_pos hg, List.map_cons]
      rw [hg] at h1
      exact .take (Tg.nameN hx ho) h1 ⟨rfl, _, h2 hg, rfl⟩ L
    | false =>
      rw [List.filter_cons_of_neg (by rw [hg]; simp)]
      rw [hg] at h1
      exact .skip (Tg.nameN hx ho) h1 L

theorem Cp.mapM {elt iter : Expr} {x : Str} {p : Pos} {ifs : List Expr} {σ : Scope} (enc : β → PyData) (ds : List β) (ρ0 : List (Str × AV)) (g : β → Bool) (f : β → PyData) {out : List PyData} (ho : (ds.filter g).map f = out) (hi : EvIt c n κ X ρ iter (ds.map enc)) (F : Frees κ ρ σ.names ρ0) (hx : stOk (κ.comp σ) (cellNames σ) x = true) (hz : ds.length ≤ 1000)
    (h : ∀ D, D ∉ X → ∀ d ∈ ds, TsL c n (κ.comp σ) (D :: X) ((x, .dat (enc d)) :: ρ0) ifs (g d) ∧ (g d = true → Ev c n (κ.comp σ) (D :: X) ((x, .dat (enc d)) :: ρ0) elt (.dat (f d))))
    (hσ : scopeOk σ = true) (hk : σ.kind = .function) (hs : notSet iter = true) : Cp c n κ X ρ elt [⟨.Name x p, iter, ifs, 0⟩] σ out :=
  ho ▸ Cp.one hi F (fun D hD => Lp.mapM enc hx ds ρ0 (.refl _ _) (h D hD)) (by rw [List.length_map]; exact Nat.le_trans (List.length_filter_le _ _) (Nat.le_trans hz (by decide))) hσ hk hs
theorem Cp.mapM0 {elt iter : Expr} {x : Str} {p : Pos} {σ : Scope} (enc : β → PyData) (ds : List β) (ρ0 : List (Str × AV)) (f : β → PyData) {out : List PyData} (ho : ds.map f = out) (hi : EvIt c n κ X ρ iter (ds.map enc)) (F : Frees κ ρ σ.names ρ0) (hx : stOk (κ.comp σ) (cellNames σ) x = true) (hz : ds.length ≤ 1000)
    (h : ∀ D, D ∉ X → ∀ d ∈ ds, Ev c n (κ.comp σ) (D :: X) ((x, .dat (enc d)) :: ρ0) elt (.dat (f d)))
    (hσ : scopeOk σ = true) (hk : σ.kind = .function) (hs : notSet iter = true) : Cp c n κ X ρ elt [⟨.Name x p, iter, [], 0⟩] σ out :=
  Cp.mapM enc ds ρ0 (fun _ => true) f (by rw [← ho, List.filter_eq_self.mpr fun _ _ => rfl]) hi F hx hz (fun D hD d hd => ⟨rfl, fun _ => h D hD d hd⟩) hσ hk hs

theorem Cp.pairsM {elt iter : Expr} {x y : Str} {p q tp : Pos} {k : Nat} {σ : Scope} (e1 e2 : β → PyData) (ps : List β) (ρ0 : List (Str × AV)) (f : β → PyData) {out : List PyData} (ho : ps.map f = out) (hi : EvIt c n κ X ρ iter (ps.map fun r => .tuple [e1 r, e2 r])) (F : Frees κ ρ σ.names ρ0)
    (hx : stOk (κ.comp σ) (cellNames σ) x = true) (hy : stOk (κ.comp σ) (cellNames σ) y = true) (hz : ps.length ≤ 1000)
    (h : ∀ D, D ∉ X → ∀ r ∈ ps, Ev c n (κ.comp σ) (D :: X) ((y, .dat (e2 r)) :: (x, .dat (e1 r)) :: ρ0) elt (.dat (f r)))
    (hσ : scopeOk σ = true) (hk : σ.kind = .function) (hs : notSet iter = true) : Cp c n κ X ρ elt [⟨.Tuple [.Name x p, .Name y q] k tp, iter, [], 0⟩] σ out := by
  subst ho
  refine Cp.one hi F (fun D hD => ?_) (by rw [List.length_map]; exact Nat.le_trans hz (by decide)) hσ hk hs
  have key : ∀ (l : List β) (ρ1 : List (Str × AV)), (∀ z, z ≠ x → z ≠ y → ρ1.lookup z = ρ0.lookup z) → (∀ r ∈ l, Ev c n (κ.comp σ) (D :: X) ((y, .dat (e2 r)) :: (x, .dat (e1 r)) :: ρ0) elt (.dat (f r))) →
      ∃ ρ', Lp c n (κ.comp σ) (cellNames σ) (D :: X) (.Tuple [.Name x p, .Name y q] k tp) [] (B1 c n (κ.comp σ) (D :: X) elt) (l.map fun r => .tuple [e1 r, e2 r]) ρ1 ρ' (l.map f) := by
    intro l
    induction l with
    | nil => intro ρ1 _ _; exact ⟨ρ1, .nil ρ1⟩
    | cons r l ih =>
      intro ρ1 ho hl
      have ho' : ∀ z, z ≠ x → z ≠ y → ((y, AV.dat (e2 r)) :: (x, AV.dat (e1 r)) :: ρ0).lookup z = ρ0.lookup z := fun z h1 h2 => by rw [lookup_cons_eq, if_neg h2, lookup_cons_eq, if_neg h1]
      obtain ⟨ρ', L⟩ := ih _ ho' fun e he => hl e (.tail _ he)
      refine ⟨ρ', ?_⟩
      rw [List.map_cons, List.map_cons]
      refine .take (ρ1 := (y, .dat (e2 r)) :: (x, .dat (e1 r)) :: ρ0) (o := [f r]) (Tg.less (Tg.pair (Tg.name hx) (Tg.name hy)) fun z b e => ?_) rfl ⟨rfl, _, hl r (.head _), rfl⟩ L
      rw [lookup_cons_eq, lookup_cons_eq] at e ⊢
      by_cases h2 : z = y
      · rw [if_pos h2] at e ⊢; exact e
      · rw [if_neg h2] at e ⊢
        by_cases h1 : z = x
        · rw [if_pos h1] at e ⊢; exact e
        · rw [if_neg h1] at e ⊢; rw [ho z h1 h2]; exact e
  exact key ps ρ0 (fun _ _ _ => rfl) (h D hD)

theorem Cp.flatM {elt iter iter2 : Expr} {x y : Str} {p q : Pos} {ifs : List Expr} {σ : Scope} (enc : β → PyData) (enc2 : γ → PyData) (ds : List β) (ρ0 : List (Str × AV)) (es : β → List γ) (g : β → γ → Bool) (f : β → γ → PyData) {out : List PyData} (ho : (ds.flatMap fun d => ((es d).filter (g d)).map (f d)) = out) (hi : EvIt c n κ X ρ iter (ds.map enc)) (F : Frees κ ρ σ.names ρ0)
    (hx : stOk (κ.comp σ) (cellNames σ) x = true) (hy : stOk (κ.comp σ) (cellNames σ) y = true) (hxy : x ≠ y) (hy0 : ρ0.lookup y = none) (hz : (ds.flatMap fun d => ((es d).filter (g d)).map (f d)).length ≤ 1000)
    (h : ∀ D, D ∉ X → ∀ d ∈ ds, EvIt c n (κ.comp σ) (D :: X) ((x, .dat (enc d)) :: ρ0) iter2 ((es d).map enc2) ∧ ∀ e ∈ es d, TsL c n (κ.comp σ) (D :: X) ((y, .dat (enc2 e)) :: (x, .dat (enc d)) :: ρ0) ifs (g d e) ∧ (g d e = true → Ev c n (κ.comp σ) (D :: X) ((y, .dat (enc2 e)) :: (x, .dat (enc d)) :: ρ0) elt (.dat (f d e))))
    (hσ : scopeOk σ = true) (hk : σ.kind = .function) (hs : notSet iter = true) (hs2 : notSet iter2 = true) :
    Cp c n κ X ρ elt [⟨.Name x p, iter, [], 0⟩, ⟨.Name y q, iter2, ifs, 0⟩] σ out := by
  subst ho
  refine Cp.two hi F (fun D hD => ?_) (Nat.le_trans hz (by decide)) hσ hk hs
  have h := h D hD
  clear hi hz
  have inner : ∀ (l : List γ) (ρ1 : List (Str × AV)), ∀ d, Off y ρ1 ((x, .dat (enc d)) :: ρ0) →
      (∀ e ∈ l, TsL c n (κ.comp σ) (D :: X) ((y, .dat (enc2 e)) :: (x, .dat (enc d)) :: ρ0) ifs (g d e) ∧ (g d e = true → Ev c n (κ.comp σ) (D :: X) ((y, .dat (enc2 e)) :: (x, .dat (enc d)) :: ρ0) elt (.dat (f d e)))) →
      ∃ ρ', (Off y ρ' ((x, .dat (enc d)) :: ρ0)) ∧ Lp c n (κ.comp σ) (cellNames σ) (D :: X) (.Name y q) ifs (B1 c n (κ.comp σ) (D :: X) elt) (l.map enc2) ρ1 ρ' ((l.filter (g d)).map (f d)) := by
    intro l
    induction l with
    | nil => intro ρ1 d ho _; exact ⟨ρ1, ho, .nil ρ1⟩
    | cons e l ih =>
      intro ρ1 d ho hl
      obtain ⟨h1, h2⟩ := hl e (.head _)
      obtain ⟨ρ', ho', L⟩ := ih ((y, .dat (enc2 e)) :: (x, .dat (enc d)) :: ρ0) d (.cons y _ _) fun e' he => hl e' (.tail _ he)
      refine ⟨ρ', ho', ?_⟩
      rw [List.map_cons]
      cases hg : g d e with
      | true =>
        rw [List.filter_cons_of_pos hg, List.map_cons]
        rw [hg] at h1
        exact .take (Tg.nameN hy ho) h1 ⟨rfl, _, h2 hg, rfl⟩ L
      | false =>
        rw [List.filter_cons_of_neg (by rw [hg]; simp)]
        rw [hg] at h1
        exact .skip (Tg.nameN hy ho) h1 L
  have outer : ∀ (l : List β) (ρ1 : List (Str × AV)), (∀ z, z ≠ x → z ≠ y → ρ1.lookup z = ρ0.lookup z) → (∀ d ∈ l, d ∈ ds) →
      ∃ ρ', Lp c n (κ.comp σ) (cellNames σ) (D :: X) (.Name x p) [] (B2 c n (κ.comp σ) (cellNames σ) (D :: X) (.Name y q) iter2 ifs elt) (l.map enc) ρ1 ρ' (l.flatMap fun d => ((es d).filter (g d)).map (f d)) := by
    intro l
    induction l with
    | nil => intro ρ1 _ _; exact ⟨ρ1, .nil ρ1⟩
    | cons d l ih =>
      intro ρ1 ho hl
      obtain ⟨h1, h2⟩ := h d (hl d (.head _))
      obtain ⟨ρ2, ho2, L2⟩ := inner (es d) ((x, .dat (enc d)) :: ρ0) d (.refl _ _) h2
      obtain ⟨ρ', L⟩ := ih ρ2 (fun z hzx hzy => by rw [ho2 z hzy, lookup_cons_eq, if_neg hzx]) fun e he => hl e (.tail _ he)
      refine ⟨ρ', ?_⟩
      rw [List.flatMap_cons, List.map_cons]
      refine .take (ρ1 := (x, .dat (enc d)) :: ρ0) (Tg.less (Tg.name hx) fun z b e => ?_) rfl ⟨(es d).map enc2, h1, hs2, L2⟩ L
      rw [lookup_cons_eq] at e ⊢
      by_cases hzx : z = x
      · rw [if_pos hzx] at e ⊢; exact e
      · rw [if_neg hzx] at e ⊢
        by_cases hzy : z = y
        · rw [hzy, hy0] at e; cases e
        · rw [ho z hzx hzy]; exact e
  exact outer ds ρ0 (fun _ _ _ => rfl) fun _ h => h
theorem Fo.invM {t : Expr} {body : List Stmt} (enc : β → PyData) : ∀ (ds : List β) (ρ : List (Str × AV)), (∀ d ∈ ds, ∃ ρ1, Tg c n κ sts X ρ t (.dat (enc d)) ρ1 ∧ Ex c n κ sts Xo X ρ1 body (.next X ρ)) → Fo c n κ sts Xo X t body (ds.map enc) ρ (.next X ρ)
  | [], ρ, _ => .nil ρ
  | d :: ds, ρ, h => by
    obtain ⟨ρ1, h1, h2⟩ := h d (.head _)
    exact .turn h1 h2 (Fo.invM enc ds ρ fun e he => h e (.tail _ he))
end

/-! ## law -/
noncomputable abbrev padL : List Int := [21, -1503, 33122, 6661, 2344, 16432]
noncomputable def xsOf (sc : List Int) : List Int := sc.take 6 ++ padL.drop (sc.take 6).length
theorem xsOf_len (sc : List Int) : (xsOf sc).length = 6 := by
  simp only [xsOf, List.length_append, List.length_drop, List.length_take, List.length_cons, List.length_nil]; omega
noncomputable def os3 (p : Int) : List Int := if p < 3 then [3, 4, 5] else [0, 1, 2]
noncomputable def lns (xs : List Int) : List (List Int) := ([0, 1, 2, 3, 4, 5] : List Int).map fun p => lineOf xs p (os3 p)
noncomputable def lk3 (xs : List Int) : List (List Int) := ([0, 1, 2] : List Int).map fun p => ([3, 4, 5] : List Int).filter (likeB xs p)
noncomputable def lk6 (xs : List Int) : List (List Int) := lk3 xs ++ ([3, 4, 5] : List Int).map fun w => ([0, 1, 2] : List Int).filter fun m => (at' (lk3 xs) m).any (· == w)
noncomputable def msStep (ls rows : List (List Int)) (m : Int) : List (List Int) := rows.flatMap fun row => ((at' ls m).filter fun w => w == -1 || !(row.any (· == w))).map fun w => row ++ [w]
noncomputable def msOf (ls : List (List Int)) : List (List Int) := ([0, 1, 2] : List Int).foldl (msStep ls) [[]]
noncomputable def fmOf (ls : List (List Int)) : List (List Int) := (msOf ls).filter (firmB ls)
noncomputable def mineOf (held : List (List Int)) : List Int := ([0, 1, 2] : List Int).map fun m => ((([3, 4, 5] : List Int).filter fun w => at' held w == [m]) ++ [-1]).getD 0 0
noncomputable def worstOf (held : List (List Int)) : List Int := ([0, 1, 2] : List Int).map fun m => (at' held m ++ [-1]).getD 0 0
noncomputable def ranksAt (ls : List (List Int)) (m : Int) : List Int := (fmOf ls).map fun row => ((at' ls m).idxOf (row.getD m.toNat 0) : Nat)
noncomputable def bothAt (xs : List Int) (row other : List Int) (m : Int) : List Int :=
  ([row.getD m.toNat 0, other.getD m.toNat 0].filter (bestB xs m [row.getD m.toNat 0, other.getD m.toNat 0])) ++ ([row.getD m.toNat 0, other.getD m.toNat 0].filter fun a => !bestB xs m [row.getD m.toNat 0, other.getD m.toNat 0] a)
structure Facts (xs : List Int) (turn : Int) (s1 s2 : St) : Prop where
  srt : ∀ p : Int, 0 ≤ p → p ≤ 2 → (([3, 4, 5] : List Int).filter (likeB xs p)).Perm (at' (lns xs) p).dropLast
  lay : ∀ q : Int, 0 ≤ q → q ≤ 5 → PyData.layable0 (DI (at' (lns xs) q)) = true
  lz : ∀ q : Int, (at' (lns xs) q).length ≤ 4
  msz : ∀ l ∈ [[0], [0, 1], [0, 1, 2]], ((l : List Int).foldl (msStep (lns xs)) [[]]).length ≤ 100
  row3 : ∀ row ∈ msOf (lns xs), row.length = 3 ∧ PyData.layable0 (DI row) = true ∧ (∀ m : Int, 0 ≤ m → m ≤ 2 → row.getD m.toNat 0 ∈ at' (lns xs) m) ∧ (∀ q ∈ row, -1 ≤ q ∧ q ≤ 5) ∧
    ∀ m : Int, 0 ≤ m → m ≤ 2 → ∀ v ∈ rivals (lns xs) row m, 0 ≤ v ∧ v ≤ 5 ∧ m ∈ at' (lns xs) v ∧ holderOf row v ∈ at' (lns xs) v
  a1 : ∃ k, Asks xs k ⟨lk6 xs, [[], [], [], [], [], []], [0, 1, 2], turn⟩ s1
  a2 : ∃ k, Asks xs k ⟨lk6 xs, [[], [], [], [], [], []], [3, 4, 5], turn⟩ s2
  h1 : s1.held.length = 6
  h2 : s2.held.length = 6
  hz2 : ∀ q : Int, 0 ≤ q → q ≤ 2 → (at' s2.held q).length ≤ 100
  mn : ∀ m : Int, 0 ≤ m → m ≤ 2 → ∃ M : Nat, (M : Int) ∈ ranksAt (lns xs) m ∧ (∀ x ∈ ranksAt (lns xs) m, (M : Int) ≤ x) ∧ (at' (lns xs) m)[M]? = some ((mineOf s1.held).getD m.toNat 0)
  mx : ∀ m : Int, 0 ≤ m → m ≤ 2 → ∃ M : Nat, (M : Int) ∈ ranksAt (lns xs) m ∧ (∀ x ∈ ranksAt (lns xs) m, x ≤ (M : Int)) ∧ (at' (lns xs) m)[M]? = some ((worstOf s2.held).getD m.toNat 0)
  rural : ∀ row ∈ fmOf (lns xs), row.map (fun w => w == -1) = (mineOf s1.held).map (fun w => w == -1) ∧ ∃ ms : List Int, ms.Perm row ∧ ms.Perm (mineOf s1.held) ∧ ms.Pairwise (· ≤ ·)
  conway : ∀ row ∈ fmOf (lns xs), ∀ other ∈ fmOf (lns xs), ∀ side ∈ ([0, 1] : List Int), (∀ m : Int, 0 ≤ m → m ≤ 2 → (bothAt xs row other m).length = 2) ∧ (([0, 1, 2] : List Int).map fun m => (bothAt xs row other m).getD side.toNat 0) ∈ fmOf (lns xs)

theorem m345 {q : Int} : q ∈ ([3, 4, 5] : List Int) ↔ 3 ≤ q ∧ q ≤ 5 := by
  simp only [List.mem_cons, List.not_mem_nil, or_false]; omega
theorem m012 {q : Int} : q ∈ ([0, 1, 2] : List Int) ↔ 0 ≤ q ∧ q ≤ 2 := by
  simp only [List.mem_cons, List.not_mem_nil, or_false]; omega
theorem i05 {q : Int} (h : q ∈ ([0, 1, 2, 3, 4, 5] : List Int)) : 0 ≤ q ∧ q ≤ 5 := by
  simp only [List.mem_cons, List.not_mem_nil, or_false] at h; omega
theorem i02 {q : Int} (h : q ∈ ([0, 1, 2] : List Int)) : 0 ≤ q ∧ q ≤ 5 := ⟨(m012.mp h).1, Int.le_trans (m012.mp h).2 (by decide)⟩
theorem three {q : Int} (h0 : 0 ≤ q) (h2 : q ≤ 2) : q = 0 ∨ q = 1 ∨ q = 2 := by omega
theorem lns_len (xs : List Int) : (lns xs).length = 6 := rfl
theorem sl_pad (sc : List Int) : (pySl (sc.map PyData.int) none (some 6)) ++ pySl (padL.map PyData.int) (some ((pySl (sc.map PyData.int) none (some 6)).length : Int)) none = (xsOf sc).map PyData.int := by
  have e1 : pySl (sc.map PyData.int) none (some 6) = (sc.take 6).map PyData.int := by
    simp only [pySl, Option.elim, List.drop_zero, Nat.sub_zero, List.length_map]
    rw [show clipAt sc.length 6 = min 6 sc.length from clipAt_nat _ 6, List.map_take]
    exact List.take_eq_take_iff.mpr (by rw [List.length_map, Nat.min_assoc, Nat.min_self])
  rw [e1]
  have e2 : pySl (padL.map PyData.int) (some (((sc.take 6).map PyData.int).length : Int)) none = (padL.drop (sc.take 6).length).map PyData.int := by
    simp only [pySl, Option.elim, List.length_map]
    have : clipAt padL.length ((sc.take 6).length : Int) = (sc.take 6).length := (clipAt_nat _ _).trans (Nat.min_eq_left (by rw [List.length_take]; exact Nat.min_le_left ..))
    rw [this, ← List.map_drop, List.take_of_length_le (by simp)]
  rw [e2, ← List.map_append]; rfl

theorem sl_init {α : Type} (l : List α) : pySl l none (some (-1)) = l.dropLast := by
  simp only [pySl, Option.elim, List.drop_zero, Nat.sub_zero]
  have : clipAt l.length (-1) = l.length - 1 := clipAt_neg l.length 1 (Nat.le_refl 1)
  rw [this, List.dropLast_eq_take]
theorem getL3 {ls : List (List Int)} (hl : ls.length = 3) {q : Int} (h0 : 0 ≤ q) (h5 : q ≤ 2) : seqIndex? q (ls.map DI).length = some q.toNat ∧ (ls.map DI)[q.toNat]? = some (DI (at' ls q)) := by
  constructor
  · rw [List.length_map, hl]
    rcases three h0 h5 with rfl | rfl | rfl <;> rfl
  · rw [List.getElem?_map, at', List.getD_eq_getElem?_getD]
    have : q.toNat < ls.length := by omega
    rw [List.getElem?_eq_getElem this]; rfl
theorem filt345 (g : Int → Bool) : (([3, 4, 5] : List Int).filter g).Pairwise (· ≤ ·) := List.Pairwise.filter g (by decide)

theorem Ts.to {c : Cx} {n : Nat} {κ : Sta} {X : List Addr} {ρ : List (Str × AV)} {e : Expr} {b b' : Bool} (h : Ts c n κ X ρ e b) (he : b = b') : Ts c n κ X ρ e b' := he ▸ h
theorem ms_len (ls : List (List Int)) : ∀ (l : List Int) (rows : List (List Int)) (k : Nat), (∀ r ∈ rows, r.length = k) → ∀ r ∈ l.foldl (msStep ls) rows, r.length = k + l.length
  | [], rows, k, h, r, hr => by simpa using h r hr
  | m :: l, rows, k, h, r, hr => by
    have := ms_len ls l (msStep ls rows m) (k + 1) (fun r hr => by
      simp only [msStep, List.mem_flatMap, List.mem_map] at hr
      obtain ⟨r0, h0, w, _, rfl⟩ := hr
      simp [h r0 h0]) r hr
    rw [this, List.length_cons]; omega

theorem Less.under {x : Str} {av : AV} {ρ ρ' : List (Str × AV)} (l : Less ρ ρ') : Less ((x, av) :: ρ) ((x, av) :: ρ') := fun y b e => by
  rw [lookup_cons_eq] at e ⊢
  by_cases hy : y = x
  · rw [if_pos hy] at e ⊢; exact e
  · rw [if_neg hy] at e ⊢; exact l y b e

theorem lk6_z (xs : List Int) : ∀ l ∈ lk6 xs, l.length ≤ 100 := by
  intro l hl
  simp only [lk6, lk3, List.mem_append, List.mem_map] at hl
  rcases hl with ⟨p, _, rfl⟩ | ⟨p, _, rfl⟩ <;> exact Nat.le_trans (List.length_filter_le _ _) (by decide)
theorem first_of (l : List Int) : ((l.map PyData.int) ++ [PyData.int (-1)])[0]? = some (.int ((l ++ [-1]).getD 0 0)) := by cases l <;> rfl

set_option maxHeartbeats 4000000 in
theorem fn_law (w : World) (mg mb : Str → Option Value) (Z : Gs mg) (n : Nat) (hn : n < 40) (sc : List Int) (hsz : sc.length ≤ 63) (s1 s2 : St) (F : Facts (xsOf sc) (sc.sum.fmod 59049) s1 s2) :
    Fn (cx w mg mb) (n + 1 + 1 + 1 + 1 + 1 + 1) 111 [.dat (DI sc)] (.dat (.bool true)) := by
  refine Fn.of_body (names := [Str.ofString "script"]) ⟨⟨_, rfl, rfl⟩, rfl, rfl, rfl, rfl, rfl, rfl, rfl, by kernel_rfl, fun vs hl => ?_, by kernel_rfl, by kernel_rfl⟩ (by omega) rfl (by simp [AV.at?]) ?_
  · exact bind1 (fun _ => rfl) vs hl
  intro X
  generalize hκ : Sta.of _ = κ
  have k1 : κ.kd (Str.ofString "script") = some .local := by rw [← hκ]; rfl
  have k2 : κ.kd (Str.ofString "draws") = some .cell := by rw [← hκ]; rfl
  have k3 : κ.kd (Str.ofString "people") = some .cell := by rw [← hκ]; rfl
  have k4 : κ.kd (Str.ofString "lines") = some .cell := by rw [← hκ]; rfl
  have k5 : κ.kd (Str.ofString "liked") = some .cell := by rw [← hκ]; rfl
  have k6 : κ.kd (Str.ofString "m") = some .cell := by rw [← hκ]; rfl
  have k7 : κ.kd (Str.ofString "matches") = some .local := by rw [← hκ]; rfl
  have k8 : κ.kd (Str.ofString "row") = some .cell := by rw [← hκ]; rfl
  have k9 : κ.kd (Str.ofString "firm") = some .cell := by rw [← hκ]; rfl
  have k10 : κ.kd (Str.ofString "turn") = some .local := by rw [← hκ]; rfl
  have k11 : κ.kd (Str.ofString "held") = some .cell := by rw [← hκ]; rfl
  have k12 : κ.kd (Str.ofString "mine") = some .local := by rw [← hκ]; rfl
  have k13 : κ.kd (Str.ofString "other") = some .cell := by rw [← hκ]; rfl
  have k14 : κ.kd (Str.ofString "pairs") = some .local := by rw [← hκ]; rfl
  have k15 : κ.kd (Str.ofString "both") = some .cell := by rw [← hκ]; rfl
  have k16 : κ.kd (Str.ofString "side") = some .cell := by rw [← hκ]; rfl
  have k17 : κ.kd (Str.ofString "len") = some .globalImplicit := by rw [← hκ]; rfl
  have k18 : κ.kd (Str.ofString "range") = some .globalImplicit := by rw [← hκ]; rfl
  have k19 : κ.kd (Str.ofString "sum") = some .globalImplicit := by rw [← hκ]; rfl
  have k20 : κ.kd (Str.ofString "_law_asked") = some .globalImplicit := by rw [← hκ]; rfl
  have k21 : κ.kd (Str.ofString "sorted") = some .globalImplicit := by rw [← hκ]; rfl
  clear hκ
  simp only [bindρ]
  have hl6 := xsOf_len sc
  have hx := sl_pad sc
  generalize xsOf sc = xs at F hl6 hx
  -- draws
  have hl0 : (pySl (sc.map PyData.int) none (some 6)).length ≤ 100 := by
    simp only [pySl, Option.elim]; rw [List.length_take]; simp; omega
  refine Ex.cons (Sx.assign (av := .dat (DI xs)) ?_ (Tg.name (by walk_at "st"))) ?_
  · show Ev _ _ _ _ _ _ (.dat (.list (xs.map PyData.int)))
    rw [← hx]
    refine Ev.bin (Ev.sliceL (a := none) (b := some 6) (by walk_at "ev") trivial Ev.int (by simp; omega)) (Ev.sliceL (a := some _) (b := none) (Ev.list (ds := padL.map PyData.int) (.cons Ev.int (.cons (Ev.neg Ev.int) (.cons Ev.int (.cons Ev.int (.cons Ev.int (.cons Ev.int .nil))))))) (Ev.callB k17 Z.len bb_len rfl (fn_len_list rfl (by omega)) (.cons (Ev.sliceL (a := none) (b := some 6) (by walk_at "ev") trivial Ev.int (by simp; omega)) .nil) (by decide +kernel) (by decide +kernel)) trivial (by decide)) (op_addl ?_)
    have : (pySl (padL.map PyData.int) (some ((pySl (sc.map PyData.int) none (some 6)).length : Int)) none).length ≤ 6 := by
      simp only [pySl, Option.elim]; rw [List.length_take, List.length_drop]; simp only [List.length_map, List.length_cons, List.length_nil]; omega
    omega
  clear hx hl0
  -- people
  refine Ex.cons (Sx.assign (av := .dat (.list (ppl xs))) (EvN.ev (EvN.comp ?_)) (Tg.name (by walk_at "st")) rfl (fun env h => swaps_cell k3 h)) ?_
  · refine Cp.mapM0 PyData.int [0, 1, 2, 3, 4, 5] [(Str.ofString "draws", .dat (DI xs))] (fun p => PD (dr xs p) p) rfl (EvIt.range (m := 6) k18 Z.range Ev.int (by decide)) ?_ ?_ (by decide) (fun D hD p hp => ?_) ?_ ?_ ?_
    · walk_at "fr"
    · walk_at "st"
    · have hp0 : 0 ≤ p ∧ p ≤ 5 := i05 hp
      have gp := get6 hl6 hp0.1 hp0.2
      exact Ev.call (kd_keep (by decide +kernel) (by decide)) Z.person (o := _) (fd := _) rfl rfl (fn_person w mg mb Z (n + 1 + 1 + 1) (by omega) (dr xs p) p) (.cons (Ev.itemL (by walk_at "ev") (by walk_at "ev") gp.1 gp.2) (.cons (by walk_at "ev") .nil)) (by decide +kernel)
    · decide +kernel
    · rfl
    · rfl
  -- lines
  refine Ex.cons (Sx.assign (av := .dat (DDI (lns xs))) (EvN.ev (EvN.comp ?_)) (Tg.name (by walk_at "st")) rfl (fun env h => swaps_cell k4 h)) ?_
  · refine Cp.mapM0 PyData.int [0, 1, 2, 3, 4, 5] [(Str.ofString "draws", .dat (DI xs)), (Str.ofString "people", .dat (.list (ppl xs)))] (fun p => DI (lineOf xs p (os3 p))) rfl (EvIt.range (m := 6) k18 Z.range Ev.int (by decide)) ?_ ?_ (by decide) (fun D hD p hp => ?_) ?_ ?_ ?_
    · walk_at "fr"
    · walk_at "st"
    · have hp0 : 0 ≤ p ∧ p ≤ 5 := i05 hp
      refine Ev.call (kd_keep (by decide +kernel) (by decide)) Z.line (o := _) (fd := _) rfl rfl (fn_line w mg mb Z (n + 1 + 1 + 1) (by omega) xs p (os3 p) hl6 hp0 ?_ ?_ ?_) (.cons (by walk_at "ev") (.cons (by walk_at "ev") (.cons (by walk_at "ev") (.cons (Ev.ite (b := decide (p < 3)) (by walk_at "ts") (fun hb => ?_) (fun hb => ?_)) .nil)))) (by decide +kernel)
      · unfold os3; split <;> decide
      · unfold os3; split <;> decide
      · unfold os3; split <;> decide
      · rw [os3, if_pos (of_decide_eq_true hb)]; exact Ev.list (ds := [.int 3, .int 4, .int 5]) (.cons Ev.int (.cons Ev.int (.cons Ev.int .nil)))
      · rw [os3, if_neg (of_decide_eq_false hb)]; exact Ev.list (ds := [.int 0, .int 1, .int 2]) (.cons Ev.int (.cons Ev.int (.cons Ev.int .nil)))
    · decide +kernel
    · rfl
    · rfl
  -- liked
  refine Ex.cons (Sx.assign (av := .dat (DDI (lk3 xs))) (EvN.ev (EvN.comp ?_)) (Tg.name (by walk_at "st")) rfl (fun env h => swaps_cell k5 h)) ?_
  · refine Cp.mapM0 PyData.int [0, 1, 2] [(Str.ofString "people", .dat (.list (ppl xs)))] (fun p => DI (([3, 4, 5] : List Int).filter (likeB xs p))) rfl (EvIt.range (m := 3) k18 Z.range Ev.int (by decide)) ?_ ?_ (by decide) (fun D hD p hp => ?_) ?_ ?_ ?_
    · walk_at "fr"
    · walk_at "st"
    · have hp0 : 0 ≤ p ∧ p ≤ 5 := i02 hp
      exact Ev.call (kd_keep (by decide +kernel) (by decide)) Z.liked (o := _) (fd := _) rfl rfl (fn_liked w mg mb Z (n + 1) (by omega) xs p [3, 4, 5] hp0 (by decide) (by decide)) (.cons (by walk_at "ev") (.cons (by walk_at "ev") (.cons (Ev.list (ds := [.int 3, .int 4, .int 5]) (.cons Ev.int (.cons Ev.int (.cons Ev.int .nil)))) .nil))) (by decide +kernel)
    · decide +kernel
    · rfl
    · rfl
  -- the first check
  refine Ex.cons (Sx.iff (b := false) ?_ nofun fun _ => Ex.nil) ?_
  · refine Ts.to (Ts.cmp (by walk_at "ev") (EvN.ev (EvN.comp ?_)) (op_ne (da := DDI (lk3 xs)) (db := DDI (lk3 xs)) rfl rfl (lay_DDI _) (lay_DDI _) (Nat.le_trans (depth_DDI _) (by decide)))) (by rw [eqv_lists]; simp)
    refine Cp.mapM0 PyData.int [0, 1, 2] [(Str.ofString "lines", .dat (DDI (lns xs)))] (fun p => DI (([3, 4, 5] : List Int).filter (likeB xs p))) rfl (EvIt.range (m := 3) k18 Z.range Ev.int (by decide)) ?_ ?_ (by decide) (fun D hD p hp => ?_) ?_ ?_ ?_
    · walk_at "fr"
    · walk_at "st"
    · have hp0 : 0 ≤ p ∧ p ≤ 2 := m012.mp hp
      have gp := getL (lns_len xs) hp0.1 (show p ≤ 5 by omega)
      have hz := F.lz p
      have e := sl_init ((at' (lns xs) p).map PyData.int)
      rw [← List.map_dropLast] at e
      refine (EvN.callB (kd_keep (by decide +kernel) (by decide)) Z.sorted bb_sorted rfl (fn_sorted (ns := (at' (lns xs) p).dropLast) (ms := ([3, 4, 5] : List Int).filter (likeB xs p)) rfl (F.srt p hp0.1 hp0.2) (filt345 _) (by rw [List.length_dropLast]; omega)) (.cons (a := .dat (DI (at' (lns xs) p).dropLast)) ?_ .nil) (by decide +kernel) (by decide +kernel)).ev
      show Ev _ _ _ _ _ _ (.dat (.list ((at' (lns xs) p).dropLast.map PyData.int)))
      rw [← e]
      exact Ev.sliceL (a := none) (b := some (-1)) (Ev.itemL (by walk_at "ev") (by walk_at "ev") gp.1 gp.2) trivial (Ev.neg Ev.int) (by rw [List.length_map]; omega)
    · decide +kernel
    · rfl
    · rfl
  -- the other side's liked
  refine Ex.cons (Sx.assign (av := .dat (DDI (lk6 xs))) ?_ (Tg.name (by walk_at "st"))) ?_
  · show Ev _ _ _ _ _ _ (.dat (.list ((lk6 xs).map DI)))
    rw [show (lk6 xs).map DI = (lk3 xs).map DI ++ (([3, 4, 5] : List Int).map fun w => DI (([0, 1, 2] : List Int).filter fun m => (at' (lk3 xs) m).any (· == w))) by rw [lk6, List.map_append, List.map_map]; rfl]
    refine Ev.bin (by walk_at "ev") (EvN.ev (EvN.comp ?_)) (op_addl (by simp [lk3]))
    refine Cp.mapM0 PyData.int [3, 4, 5] [(Str.ofString "liked", .dat (DDI (lk3 xs)))] (fun w => DI (([0, 1, 2] : List Int).filter fun m => (at' (lk3 xs) m).any (· == w))) rfl (EvIt.list (Ev.list (ds := [.int 3, .int 4, .int 5]) (.cons Ev.int (.cons Ev.int (.cons Ev.int .nil))))) ?_ ?_ (by decide) (fun D hD v hv => ?_) ?_ ?_ ?_
    · walk_at "fr"
    · walk_at "st"
    · refine EvN.ev (EvN.comp ?_)
      refine Cp.mapM PyData.int [0, 1, 2] [(Str.ofString "liked", .dat (DDI (lk3 xs))), (Str.ofString "w", .dat (.int v))] (fun m => (at' (lk3 xs) m).any (· == v)) PyData.int rfl (EvIt.range (m := 3) (kd_keep (by decide +kernel) (by decide)) Z.range Ev.int (by decide)) ?_ ?_ (by decide) (fun D hD m hm => ?_) ?_ ?_ ?_
      · walk_at "fr"
      · walk_at "st"
      · have hp0 : 0 ≤ m ∧ m ≤ 2 := m012.mp hm
        have gp := getL3 (ls := lk3 xs) rfl hp0.1 hp0.2
        refine ⟨?_, fun _ => by walk_at "ev"⟩
        show Ts _ _ _ _ _ _ ((at' (lk3 xs) m).any (· == v))
        rw [← inI]
        exact Ts.cmp (by walk_at "ev") (Ev.itemL (by walk_at "ev") (by walk_at "ev") gp.1 gp.2) (op_in rfl rfl (by rw [PyData.canLay0]) (lay_ints _) (by rw [PyData.depth]; decide))
      · decide +kernel
      · rfl
      · rfl
    · decide +kernel
    · rfl
    · rfl
  -- all matches
  refine Ex.cons (Sx.assign (av := .dat (DDI [[]])) (Ev.list (ds := [.list []]) (.cons (Ev.list (ds := []) .nil) .nil)) (Tg.name (by walk_at "st"))) ?_
  refine Ex.for (EvIt.range (m := 3) k18 Z.range Ev.int (by decide)) (Fo.genM (σ := List (List Int)) PyData.int (fun rows => [(Str.ofString "matches", .dat (DDI rows)), (Str.ofString "liked", .dat (DDI (lk6 xs))), (Str.ofString "liked", .dat (DDI (lk3 xs))), (Str.ofString "lines", .dat (DDI (lns xs))), (Str.ofString "people", .dat (.list (ppl xs))), (Str.ofString "draws", .dat (DI xs)), (Str.ofString "script", .dat (DI sc))])
    (fun l rows => .next X [(Str.ofString "matches", .dat (DDI (l.foldl (msStep (lns xs)) rows))), (Str.ofString "liked", .dat (DDI (lk6 xs))), (Str.ofString "liked", .dat (DDI (lk3 xs))), (Str.ofString "lines", .dat (DDI (lns xs))), (Str.ofString "people", .dat (.list (ppl xs))), (Str.ofString "draws", .dat (DI xs)), (Str.ofString "script", .dat (DI sc))])
    (fun rows l => ∃ pre, pre ++ l = [0, 1, 2] ∧ rows = pre.foldl (msStep (lns xs)) [[]]) (fun rows _ => rfl) (fun rows m rest hi => ?_) [0, 1, 2] [[]] ⟨[], rfl, rfl⟩) ?_
  · obtain ⟨pre, hpre, rfl⟩ := hi
    have hm0 : 0 ≤ m ∧ m ≤ 2 := by
      have : m ∈ ([0, 1, 2] : List Int) := hpre ▸ List.mem_append_right _ (.head _)
      simp at this; omega
    have hmem : pre ++ [m] ∈ ([[0], [0, 1], [0, 1, 2]] : List (List Int)) := by
      match pre, hpre with
      | [], h => simp at h; simp [h.1]
      | [_], h => simp at h; simp [h.1, h.2.1]
      | [_, _], h => simp at h; simp [h.1, h.2.1, h.2.2.1]
      | _ :: _ :: _ :: l, h => simp at h
    have hsz1 := F.msz _ hmem
    rw [List.foldl_append] at hsz1
    have hst : msStep (lns xs) (pre.foldl (msStep (lns xs)) [[]]) m = [m].foldl (msStep (lns xs)) (pre.foldl (msStep (lns xs)) [[]]) := rfl
    rw [← hst] at hsz1
    have hpre2 : (pre ++ [m]) ++ rest = [0, 1, 2] := by rw [← hpre]; simp
    have hinv : ∃ pre1, pre1 ++ rest = [0, 1, 2] ∧ msStep (lns xs) (pre.foldl (msStep (lns xs)) [[]]) m = pre1.foldl (msStep (lns xs)) [[]] := ⟨pre ++ [m], hpre2, by rw [List.foldl_append]; rfl⟩
    have hrl := ms_len (lns xs) pre [[]] 0 (by simp)
    have hpl : pre.length ≤ 3 := by have := congrArg List.length hpre; simp at this; omega
    generalize pre.foldl (msStep (lns xs)) [[]] = rows at hsz1 hinv hrl
    have gm := getL (lns_len xs) hm0.1 (show m ≤ 5 by omega)
    refine ⟨_, Tg.name (by walk_at "st"), .inr ⟨msStep (lns xs) rows m, ?_, hinv, rfl⟩⟩
    refine Ex.less (Ex.assignD (xs := (msStep (lns xs) rows m).map DI) ?_ k7 Ex.nil) (Less.under ((Less.skip (by rfl)).trans (Less.skip (by rfl))))
    refine Cp.flatM DI PyData.int rows [(Str.ofString "lines", .dat (DDI (lns xs))), (Str.ofString "m", .dat (.int m))] (fun _ => at' (lns xs) m) (fun row w => w == -1 || !(row.any (· == w))) (fun row w => DI (row ++ [w])) ?_ (EvIt.list ?_) ?_ ?_ ?_ (by decide +kernel) (by rfl) ?_ (fun D hD row hrow => ?_) ?_ ?_ ?_ ?_
    · rw [msStep, List.map_flatMap]; simp only [List.map_map]; rfl
    · walk_at "ev"
    · walk_at "fr"
    · walk_at "st"
    · walk_at "st"
    · have : (rows.flatMap fun d => ((at' (lns xs) m).filter fun w => w == -1 || !(d.any (· == w))).map fun w => DI (d ++ [w])) = (msStep (lns xs) rows m).map DI := by
        rw [msStep, List.map_flatMap]; simp only [List.map_map]; rfl
      rw [this, List.length_map]; omega
    · refine ⟨EvIt.list (Ev.itemL (by walk_at "ev") (by walk_at "ev") gm.1 gm.2), fun v hv => ⟨?_, fun _ => ?_⟩⟩
      · show Ts _ _ _ _ _ _ (v == -1 || !(row.any (· == v)))
        rw [← inI]
        exact Ts.or (Ts.cmp (by walk_at "ev") (Ev.neg Ev.int) op_eqi) fun _ => Ts.cmp (by walk_at "ev") (by walk_at "ev") (op_notIn rfl rfl (by rw [PyData.canLay0]) (lay_ints _) (by rw [PyData.depth]; decide))
      · show Ev _ _ _ _ _ _ (.dat (.list ((row ++ [v]).map PyData.int)))
        rw [List.map_append]
        exact Ev.bin (by walk_at "ev") (Ev.list (ds := [.int v]) (.cons (by walk_at "ev") .nil) (by simp)) (op_addl (by have := hrl row hrow; simp; omega))
    · decide +kernel
    · rfl
    · rfl
    · rfl
  show Ex _ _ _ _ _ _ _ _ _
  -- the firm ones
  have hmz := F.msz [0, 1, 2] (by simp)
  refine Ex.cons (Sx.assign (av := .dat (DDI (fmOf (lns xs)))) (EvN.ev (EvN.comp ?_)) (Tg.name (by walk_at "st")) rfl (fun env h => swaps_cell k9 h)) ?_
  · refine Cp.mapM DI (msOf (lns xs)) [(Str.ofString "lines", .dat (DDI (lns xs)))] (firmB (lns xs)) DI rfl (EvIt.list ?_) ?_ ?_ ?_ (fun D hD row hrow => ?_) ?_ ?_ ?_
    · show Ev _ _ _ _ _ _ (.dat (DDI (([0, 1, 2] : List Int).foldl (msStep (lns xs)) [[]])))
      walk_at "ev"
    · walk_at "fr"
    · walk_at "st"
    · unfold msOf; omega
    · obtain ⟨r3, rl, rm, rq, rw'⟩ := F.row3 row hrow
      exact ⟨Ts.val (Ev.call (kd_keep (by decide +kernel) (by decide)) Z.firm (o := _) (fd := _) rfl rfl (fn_firm w mg mb Z (n + 1 + 1 + 1 + 1) (by omega) (lns xs) row (lns_len xs) r3 F.lay rl (fun q => by have := F.lz q; omega) rm rw') (.cons (by walk_at "ev") (.cons (by walk_at "ev") .nil)) (by decide +kernel)), fun _ => by walk_at "ev"⟩
    · decide +kernel
    · rfl
    · rfl
  -- turn, held, mine
  refine Ex.cons (Sx.assign (Ev.bin (Ev.callB k19 Z.sum bb_sum rfl (fn_sum (ns := sc) rfl) (.cons (by walk_at "ev") .nil) (by decide +kernel) (by decide +kernel)) Ev.int (op_mod (by decide) (by decide))) (Tg.name (by walk_at "st"))) ?_
  obtain ⟨c1, hA1⟩ := F.a1
  obtain ⟨c2, hA2⟩ := F.a2
  refine Ex.cons (Sx.assign (av := .dat (DDI s1.held)) (Ev.call k20 Z.asked (o := _) (fd := _) rfl rfl (fn_asked w mg mb Z n (by omega) xs (lk6 xs) [0, 1, 2] _ c1 s1 rfl (lk6_z xs) (by decide) hA1) (.cons (by walk_at "ev") (.cons (by walk_at "ev") (.cons (Ev.list (ds := [.int 0, .int 1, .int 2]) (.cons Ev.int (.cons Ev.int (.cons Ev.int .nil)))) (.cons (by walk_at "ev") .nil)))) (by decide +kernel)) (Tg.name (by walk_at "st"))) ?_
  refine Ex.assignD (xs := (mineOf s1.held).map PyData.int) ?_ k12 ?_
  · refine Cp.mapM0 PyData.int [0, 1, 2] [(Str.ofString "held", .dat (DDI s1.held))] (fun m => .int (((([3, 4, 5] : List Int).filter fun w => at' s1.held w == [m]) ++ [-1]).getD 0 0)) rfl (EvIt.range (m := 3) k18 Z.range Ev.int (by decide)) ?_ ?_ (by decide) (fun D hD m hm => ?_) ?_ ?_ ?_
    · walk_at "fr"
    · walk_at "st"
    · refine Ev.itemL (k := 0) (j := 0) (xs := ((([3, 4, 5] : List Int).filter fun w => at' s1.held w == [m]).map PyData.int) ++ [PyData.int (-1)]) (Ev.bin (EvN.ev (EvN.comp ?_)) (Ev.list (ds := [.int (-1)]) (.cons (Ev.neg Ev.int) .nil)) (op_addl ?_)) Ev.int (seq_zero (by simp)) (first_of _)
      · refine Cp.mapM PyData.int [3, 4, 5] [(Str.ofString "held", .dat (DDI s1.held)), (Str.ofString "m", .dat (.int m))] (fun w => at' s1.held w == [m]) PyData.int rfl (EvIt.list (Ev.list (ds := [.int 3, .int 4, .int 5]) (.cons Ev.int (.cons Ev.int (.cons Ev.int .nil))))) ?_ ?_ (by decide) (fun D hD v hv => ?_) ?_ ?_ ?_
        · walk_at "fr"
        · walk_at "st"
        · have hv0 : 0 ≤ v ∧ v ≤ 5 := by simp at hv; omega
          have gv := getL F.h1 hv0.1 hv0.2
          exact ⟨Ts.to (Ts.cmp (Ev.itemL (by walk_at "ev") (by walk_at "ev") gv.1 gv.2) (Ev.list (ds := [.int m]) (.cons (by walk_at "ev") .nil) (by simp)) (op_eq (da := DI (at' s1.held v)) (db := DI [m]) rfl rfl (lay_DI _) (lay_DI _) (by rw [depth_DI]; decide))) (eqv_ints _ _), fun _ => by walk_at "ev"⟩
        · decide +kernel
        · rfl
        · rfl
      · have : (([3, 4, 5] : List Int).filter fun w => at' s1.held w == [m]).length ≤ 3 := List.length_filter_le _ _
        rw [List.length_map]; simp only [List.length_cons, List.length_nil]; omega
    · decide +kernel
    · rfl
    · rfl
  have hrowOf : ∀ row ∈ fmOf (lns xs), row ∈ msOf (lns xs) := fun row h => (List.mem_filter.mp h).1
  have hfz : (fmOf (lns xs)).length ≤ 100 := Nat.le_trans (List.length_filter_le _ _) hmz
  -- the best for the first side
  refine Ex.cons (Sx.iff (b := false) ?_ nofun fun _ => Ex.nil) ?_
  · refine Ts.to (Ts.cmp (by walk_at "ev") (EvN.ev (EvN.comp ?_)) (op_ne (da := DI (mineOf s1.held)) (db := DI (mineOf s1.held)) rfl rfl (lay_DI _) (lay_DI _) (by rw [depth_DI]; decide))) (by rw [eqv_ints]; simp)
    refine Cp.mapM0 PyData.int [0, 1, 2] [(Str.ofString "firm", .dat (DDI (fmOf (lns xs)))), (Str.ofString "lines", .dat (DDI (lns xs)))] (fun m => .int ((mineOf s1.held).getD m.toNat 0)) rfl (EvIt.range (m := 3) k18 Z.range Ev.int (by decide)) ?_ ?_ (by decide) (fun D hD m hm => ?_) ?_ ?_ ?_
    · walk_at "fr"
    · walk_at "st"
    · have hm0 : 0 ≤ m ∧ m ≤ 2 := m012.mp hm
      have gm := getL (lns_len xs) hm0.1 (show m ≤ 5 by omega)
      obtain ⟨M, hM1, hM2, hM3⟩ := F.mn m hm0.1 hm0.2
      have hMl : M < (at' (lns xs) m).length := (List.getElem?_eq_some_iff.mp hM3).1
      have hMz := F.lz m
      have hj : seqIndex? (M : Int) ((at' (lns xs) m).map PyData.int).length = some M := by
        unfold seqIndex?
        rw [List.length_map]
        have : ¬ ((M : Int) < 0) := by omega
        simp only [this, if_false]
        rw [if_pos (by simp; omega)]; rfl
      refine Ev.itemL (Ev.itemL (by walk_at "ev") (by walk_at "ev") gm.1 gm.2) (Ev.callB (kd_keep (by decide +kernel) (by decide)) Z.min bb_min rfl (fn_min (a := .dat (.list ((ranksAt (lns xs) m).map .int))) rfl hM1 hM2) (.cons (EvN.ev (EvN.comp ?_)) .nil) (by decide +kernel) (by decide +kernel)) hj (by rw [List.getElem?_map, hM3]; rfl)
      refine Cp.mapM0 DI (fmOf (lns xs)) [(Str.ofString "lines", .dat (DDI (lns xs))), (Str.ofString "m", .dat (.int m))] (fun row => .int ((at' (lns xs) m).idxOf (row.getD m.toNat 0) : Nat)) (by rw [ranksAt, List.map_map]; rfl) (EvIt.list ?_) ?_ ?_ (by omega) (fun D hD row hrow => ?_) ?_ ?_ ?_
      · walk_at "ev"
      · walk_at "fr"
      · walk_at "st"
      · obtain ⟨r3, rl, rm, rq, rw'⟩ := F.row3 row (hrowOf row hrow)
        have gr := get3 r3 hm0.1 hm0.2
        exact Ev.index (Ev.itemL (by walk_at "ev") (by walk_at "ev") gm.1 gm.2) (Ev.itemL (by walk_at "ev") (by walk_at "ev") gr.1 gr.2) (rm m hm0.1 hm0.2) (F.lay m hm0.1 (by omega))
      · decide +kernel
      · rfl
      · rfl
    · decide +kernel
    · rfl
    · rfl
  refine Ex.cons (Sx.assign (av := .dat (DDI s2.held)) (Ev.call k20 Z.asked (o := _) (fd := _) rfl rfl (fn_asked w mg mb Z n (by omega) xs (lk6 xs) [3, 4, 5] _ c2 s2 rfl (lk6_z xs) (by decide) hA2) (.cons (by walk_at "ev") (.cons (by walk_at "ev") (.cons (Ev.list (ds := [.int 3, .int 4, .int 5]) (.cons Ev.int (.cons Ev.int (.cons Ev.int .nil)))) (.cons (by walk_at "ev") .nil)))) (by decide +kernel)) (Tg.name (by walk_at "st"))) ?_
  -- the worst for the first side
  refine Ex.cons (Sx.iff (b := false) ?_ nofun fun _ => Ex.nil) ?_
  · refine Ts.to (Ts.cmp (EvN.ev (EvN.comp ?_)) (EvN.ev (EvN.comp ?_)) (op_ne (da := DI (worstOf s2.held)) (db := DI (worstOf s2.held)) rfl rfl (lay_DI _) (lay_DI _) (by rw [depth_DI]; decide))) (by rw [eqv_ints]; simp)
    · refine Cp.mapM0 PyData.int [0, 1, 2] [(Str.ofString "held", .dat (DDI s2.held))] (fun m => .int ((at' s2.held m ++ [-1]).getD 0 0)) rfl (EvIt.range (m := 3) k18 Z.range Ev.int (by decide)) ?_ ?_ (by decide) (fun D hD m hm => ?_) ?_ ?_ ?_
      · walk_at "fr"
      · walk_at "st"
      · have hm0 : 0 ≤ m ∧ m ≤ 2 := m012.mp hm
        have gm := getL F.h2 hm0.1 (show m ≤ 5 by omega)
        have hz := F.hz2 m hm0.1 hm0.2
        exact Ev.itemL (k := 0) (j := 0) (xs := ((at' s2.held m).map PyData.int) ++ [PyData.int (-1)]) (Ev.bin (Ev.itemL (by walk_at "ev") (by walk_at "ev") gm.1 gm.2) (Ev.list (ds := [.int (-1)]) (.cons (Ev.neg Ev.int) .nil)) (op_addl (by rw [List.length_map]; simp only [List.length_cons, List.length_nil]; omega))) Ev.int (seq_zero (by simp)) (first_of _)
      · decide +kernel
      · rfl
      · rfl
    refine Cp.mapM0 PyData.int [0, 1, 2] [(Str.ofString "firm", .dat (DDI (fmOf (lns xs)))), (Str.ofString "lines", .dat (DDI (lns xs)))] (fun m => .int ((worstOf s2.held).getD m.toNat 0)) rfl (EvIt.range (m := 3) k18 Z.range Ev.int (by decide)) ?_ ?_ (by decide) (fun D hD m hm => ?_) ?_ ?_ ?_
    · walk_at "fr"
    · walk_at "st"
    · have hm0 : 0 ≤ m ∧ m ≤ 2 := m012.mp hm
      have gm := getL (lns_len xs) hm0.1 (show m ≤ 5 by omega)
      obtain ⟨M, hM1, hM2, hM3⟩ := F.mx m hm0.1 hm0.2
      have hMl : M < (at' (lns xs) m).length := (List.getElem?_eq_some_iff.mp hM3).1
      have hMz := F.lz m
      have hj : seqIndex? (M : Int) ((at' (lns xs) m).map PyData.int).length = some M := by
        unfold seqIndex?
        rw [List.length_map]
        have : ¬ ((M : Int) < 0) := by omega
        simp only [this, if_false]
        rw [if_pos (by simp; omega)]; rfl
      refine Ev.itemL (Ev.itemL (by walk_at "ev") (by walk_at "ev") gm.1 gm.2) (Ev.callB (kd_keep (by decide +kernel) (by decide)) Z.max bb_max rfl (fn_max (a := .dat (.list ((ranksAt (lns xs) m).map .int))) rfl hM1 hM2) (.cons (EvN.ev (EvN.comp ?_)) .nil) (by decide +kernel) (by decide +kernel)) hj (by rw [List.getElem?_map, hM3]; rfl)
      refine Cp.mapM0 DI (fmOf (lns xs)) [(Str.ofString "lines", .dat (DDI (lns xs))), (Str.ofString "m", .dat (.int m))] (fun row => .int ((at' (lns xs) m).idxOf (row.getD m.toNat 0) : Nat)) (by rw [ranksAt, List.map_map]; rfl) (EvIt.list ?_) ?_ ?_ (by omega) (fun D hD row hrow => ?_) ?_ ?_ ?_
      · walk_at "ev"
      · walk_at "fr"
      · walk_at "st"
      · obtain ⟨r3, rl, rm, rq, rw'⟩ := F.row3 row (hrowOf row hrow)
        have gr := get3 r3 hm0.1 hm0.2
        exact Ev.index (Ev.itemL (by walk_at "ev") (by walk_at "ev") gm.1 gm.2) (Ev.itemL (by walk_at "ev") (by walk_at "ev") gr.1 gr.2) (rm m hm0.1 hm0.2) (F.lay m hm0.1 (by omega))
      · decide +kernel
      · rfl
      · rfl
    · decide +kernel
    · rfl
    · rfl
  -- all firm ones, by pairs
  refine Ex.for (EvIt.list (xs := (fmOf (lns xs)).map DI) (by walk_at "ev")) (Fo.invM DI (fmOf (lns xs)) _ fun row hrow => ⟨_, Tg.name (by walk_at "st"), ?_⟩) ?_
  · obtain ⟨r3, rl, rm, rq, rw'⟩ := F.row3 row (hrowOf row hrow)
    obtain ⟨ru1, ms, ru2, ru3, ru4⟩ := F.rural row hrow
    have hml : (mineOf s1.held).length = 3 := rfl
    refine Ex.cons (Sx.iff (b := false) ?_ nofun fun _ => Ex.nil) ?_
    · refine Ts.to (Ts.or (Ts.cmp (EvN.ev (EvN.comp ?_)) (EvN.ev (EvN.comp ?_)) (op_ne (da := DB (row.map fun w => w == -1)) (db := DB ((mineOf s1.held).map fun w => w == -1)) rfl rfl (lay_DB _) (lay_DB _) (by rw [depth_DB]; decide)))
        fun _ => Ts.cmp (EvN.ev (EvN.callB k21 Z.sorted bb_sorted rfl (fn_sorted (ns := row) (ms := ms) rfl ru2 ru4 (by omega)) (.cons (by walk_at "ev") .nil) (by decide +kernel) (by decide +kernel))) (EvN.ev (EvN.callB k21 Z.sorted bb_sorted rfl (fn_sorted (ns := mineOf s1.held) (ms := ms) rfl ru3 ru4 (by omega)) (.cons (by walk_at "ev") .nil) (by decide +kernel) (by decide +kernel))) (op_ne (da := DI ms) (db := DI ms) rfl rfl (lay_DI _) (lay_DI _) (by rw [depth_DI]; decide))) (by rw [eqv_ints, eqv_bools, ru1]; simp)
      · refine Cp.mapM0 PyData.int row [] (fun w => .bool (w == -1)) (by rw [List.map_map]; rfl) (EvIt.list ?_) ?_ ?_ (by omega) (fun D hD v hv => ?_) ?_ ?_ ?_
        · walk_at "ev"
        · walk_at "fr"
        · walk_at "st"
        · exact Ev.cmp (by walk_at "ev") (Ev.neg Ev.int) op_eqi
        · decide +kernel
        · rfl
        · rfl
      · refine Cp.mapM0 PyData.int (mineOf s1.held) [] (fun w => .bool (w == -1)) (by rw [List.map_map]; rfl) (EvIt.list ?_) ?_ ?_ (by omega) (fun D hD v hv => ?_) ?_ ?_ ?_
        · walk_at "ev"
        · walk_at "fr"
        · walk_at "st"
        · exact Ev.cmp (by walk_at "ev") (Ev.neg Ev.int) op_eqi
        · decide +kernel
        · rfl
        · rfl
    refine Ex.less (Ex.cons (Sx.for (EvIt.list (xs := (fmOf (lns xs)).map DI) (by walk_at "ev")) (Fo.invM DI (fmOf (lns xs)) _ fun other hother => ⟨_, Tg.name (by walk_at "st"), ?_⟩)) Ex.nil) (Less.skip (by rfl))
    obtain ⟨q3, ql, qm, qq, qw⟩ := F.row3 other (hrowOf other hother)
    refine Ex.assignD (xs := ([0, 1, 2] : List Int).map fun m => .tuple [DI ([row.getD m.toNat 0, other.getD m.toNat 0].filter (bestB xs m [row.getD m.toNat 0, other.getD m.toNat 0])), DI ([row.getD m.toNat 0, other.getD m.toNat 0].filter fun a => !bestB xs m [row.getD m.toNat 0, other.getD m.toNat 0] a)]) ?_ k14 ?_
    · refine Cp.mapM0 PyData.int [0, 1, 2] [(Str.ofString "other", .dat (DI other)), (Str.ofString "people", .dat (.list (ppl xs))), (Str.ofString "row", .dat (DI row))] _ rfl (EvIt.range (m := 3) k18 Z.range Ev.int (by decide)) ?_ ?_ (by decide) (fun D hD m hm => ?_) ?_ ?_ ?_
      · walk_at "fr"
      · walk_at "st"
      · have hm0 : 0 ≤ m ∧ m ≤ 2 := m012.mp hm
        have gr := get3 r3 hm0.1 hm0.2
        have go := get3 q3 hm0.1 hm0.2
        have b1 : row.getD m.toNat 0 ∈ row := by
          rw [List.getD_eq_getElem?_getD, List.getElem?_eq_getElem (show m.toNat < row.length by omega)]; exact List.getElem_mem _
        have b2 : other.getD m.toNat 0 ∈ other := by
          rw [List.getD_eq_getElem?_getD, List.getElem?_eq_getElem (show m.toNat < other.length by omega)]; exact List.getElem_mem _
        refine Ev.call (kd_keep (by decide +kernel) (by decide)) Z.best (o := _) (fd := _) rfl rfl (fn_best w mg mb Z (n + 1) (by omega) xs m [row.getD m.toNat 0, other.getD m.toNat 0] ⟨hm0.1, by omega⟩ (fun q hq => ?_) (by simp)) (.cons (by walk_at "ev") (.cons (by walk_at "ev") (.cons (Ev.list (ds := [.int (row.getD m.toNat 0), .int (other.getD m.toNat 0)]) (.cons (Ev.itemL (by walk_at "ev") (by walk_at "ev") gr.1 gr.2) (.cons (Ev.itemL (by walk_at "ev") (by walk_at "ev") go.1 go.2) .nil)) (by simp)) .nil))) (by decide +kernel)
        simp only [List.mem_cons, List.not_mem_nil, or_false] at hq
        rcases hq with rfl | rfl
        · exact rq _ b1
        · exact qq _ b2
      · decide +kernel
      · rfl
      · rfl
    refine Ex.cons (Sx.assign (av := .dat (DDI (([0, 1, 2] : List Int).map (bothAt xs row other)))) (EvN.ev (EvN.comp ?_)) (Tg.name (by walk_at "st")) rfl (fun env h => swaps_cell k15 h)) ?_
    · refine Cp.pairsM (fun m : Int => DI ([row.getD m.toNat 0, other.getD m.toNat 0].filter (bestB xs m [row.getD m.toNat 0, other.getD m.toNat 0]))) (fun m : Int => DI ([row.getD m.toNat 0, other.getD m.toNat 0].filter fun a => !bestB xs m [row.getD m.toNat 0, other.getD m.toNat 0] a)) [0, 1, 2] [] (fun m => DI (bothAt xs row other m)) rfl (EvIt.list ?_) ?_ ?_ ?_ (by decide) (fun D hD m hm => ?_) ?_ ?_ ?_
      · walk_at "ev"
      · walk_at "fr"
      · walk_at "st"
      · walk_at "st"
      · show Ev _ _ _ _ _ _ (.dat (.list ((bothAt xs row other m).map PyData.int)))
        rw [bothAt, List.map_append]
        refine Ev.bin (by walk_at "ev") (by walk_at "ev") (op_addl ?_)
        have e1 := List.length_filter_le (bestB xs m [row.getD m.toNat 0, other.getD m.toNat 0]) [row.getD m.toNat 0, other.getD m.toNat 0]
        have e2 := List.length_filter_le (fun a => !bestB xs m [row.getD m.toNat 0, other.getD m.toNat 0] a) [row.getD m.toNat 0, other.getD m.toNat 0]
        rw [List.length_map, List.length_map]
        simp only [List.length_cons, List.length_nil] at e1 e2
        omega
      · decide +kernel
      · rfl
      · rfl
    refine Ex.less (Ex.cons (Sx.for (EvIt.list (xs := ([0, 1] : List Int).map .int) (Ev.list (ds := [.int 0, .int 1]) (.cons Ev.int (.cons Ev.int .nil)))) (Fo.invM PyData.int ([0, 1] : List Int) _ fun side hside => ⟨_, Tg.name (by walk_at "st"), ?_⟩)) Ex.nil) ((Less.skip (by rfl)).trans ((Less.skip (by rfl)).trans (Less.skip (by rfl))))
    obtain ⟨cw1, cw2⟩ := F.conway row hrow other hother side hside
    refine Ex.less (Ex.cons (Sx.iff (b := false) ?_ nofun fun _ => Ex.nil) Ex.nil) (Less.skip (by rfl))
    refine Ts.to (Ts.cmp (EvN.ev (EvN.comp ?_)) (by walk_at "ev") (op_notIn (d := DI (([0, 1, 2] : List Int).map fun m => (bothAt xs row other m).getD side.toNat 0)) rfl rfl (lay_DI _) (lay_lists _) (by rw [depth_DI]; decide))) ?_
    · refine Cp.mapM0 PyData.int [0, 1, 2] [(Str.ofString "both", .dat (DDI (([0, 1, 2] : List Int).map (bothAt xs row other)))), (Str.ofString "side", .dat (.int side))] (fun m => .int ((bothAt xs row other m).getD side.toNat 0)) rfl (EvIt.range (m := 3) k18 Z.range Ev.int (by decide)) ?_ ?_ (by decide) (fun D hD m hm => ?_) ?_ ?_ ?_
      · walk_at "fr"
      · walk_at "st"
      · have hm0 : 0 ≤ m ∧ m ≤ 2 := m012.mp hm
        have hs0 : side = 0 ∨ side = 1 := by simpa using hside
        have gb := getL3 (ls := ([0, 1, 2] : List Int).map (bothAt xs row other)) rfl hm0.1 hm0.2
        rw [show at' (([0, 1, 2] : List Int).map (bothAt xs row other)) m = bothAt xs row other m by rcases three hm0.1 hm0.2 with rfl | rfl | rfl <;> rfl] at gb
        have hbl := cw1 m hm0.1 hm0.2
        refine Ev.itemL (j := side.toNat) (Ev.itemL (by walk_at "ev") (by walk_at "ev") gb.1 gb.2) (by walk_at "ev") ?_ ?_
        · rw [List.length_map, hbl]; rcases hs0 with rfl | rfl <;> rfl
        · rw [List.getElem?_map, List.getD_eq_getElem?_getD, List.getElem?_eq_getElem (show side.toNat < (bothAt xs row other m).length by omega)]; rfl
      · decide +kernel
      · rfl
      · rfl
    · rw [List.any_map]
      have : ((fun y => PyData.eqv y (DI (([0, 1, 2] : List Int).map fun m => (bothAt xs row other m).getD side.toNat 0))) ∘ DI) = fun r => r == (([0, 1, 2] : List Int).map fun m => (bothAt xs row other m).getD side.toNat 0) := by
        funext r; exact eqv_ints _ _
      rw [this]
      have h2 : ((fmOf (lns xs)).any fun r => r == (([0, 1, 2] : List Int).map fun m => (bothAt xs row other m).getD side.toNat 0)) = true := List.any_eq_true.mpr ⟨_, cw2, by simp⟩
      rw [h2]; rfl
  show Ex _ _ _ _ _ _ _ _ _
  exact Ex.retE (d := .bool true) (by walk_at "ev") rfl

end Mine
end

section
namespace Mine

/-! ## Firm matches in plain terms: three and three, ranks -/
structure Mkt (acc : Int → Int → Prop) (rk : Int → Int → Nat) : Prop where
  sym : ∀ {p q}, acc p q → acc q p
  rg : ∀ {p q}, acc p q → (0 ≤ p ∧ p ≤ 2 ∧ 3 ≤ q ∧ q ≤ 5) ∨ (0 ≤ q ∧ q ≤ 2 ∧ 3 ≤ p ∧ p ≤ 5)
  inj : ∀ {p q r}, acc p q → acc p r → rk p q = rk p r → q = r
  last : ∀ {p q}, acc p q → rk p q < rk p (-1)

structure Fits (acc : Int → Int → Prop) (μ : Int → Int) : Prop where
  ok : ∀ p, 0 ≤ p → p ≤ 5 → μ p = -1 ∨ (acc p (μ p) ∧ μ (μ p) = p)
structure Firm (acc : Int → Int → Prop) (rk : Int → Int → Nat) (μ : Int → Int) : Prop extends Fits acc μ where
  st : ∀ p q, acc p q → rk p q < rk p (μ p) → rk q p < rk q (μ q) → False

/-- the two sides: `S = true` the first three -/
noncomputable def On (S : Bool) (p : Int) : Prop := if S then 0 ≤ p ∧ p ≤ 2 else 3 ≤ p ∧ p ≤ 5
theorem On.rg {S : Bool} {p : Int} (h : On S p) : 0 ≤ p ∧ p ≤ 5 := by
  unfold On at h; split at h <;> omega
theorem On.acc {acc : Int → Int → Prop} {rk : Int → Int → Nat} (K : Mkt acc rk) {S : Bool} {p q : Int} (h : On S p) (a : acc p q) : On (!S) q := by
  have := K.rg a
  cases S <;> simp only [On, Bool.not_true, Bool.not_false, if_true, Bool.false_eq_true, if_false] at h ⊢ <;> omega
theorem On.tot {p : Int} (h0 : 0 ≤ p) (h5 : p ≤ 5) (S : Bool) : On S p ∨ On (!S) p := by
  cases S <;> simp only [On, Bool.not_true, Bool.not_false, if_true, Bool.false_eq_true, if_false] <;> omega
theorem On.nn {S : Bool} {p : Int} (h : On (!!S) p) : On S p := by simpa using h
theorem four3 : ∀ a b c d : Fin 3, a = b ∨ a = c ∨ a = d ∨ b = c ∨ b = d ∨ c = d := by decide
theorem On.fin {S : Bool} {p : Int} (h : On S p) : ∃ k : Fin 3, p = (if S then 0 else 3) + (k.val : Int) := by
  cases S
  · exact ⟨⟨(p - 3).toNat, by have := h.1; have := h.2; omega⟩, by have := h.1; show p = 3 + ((p - 3).toNat : Int); omega⟩
  · exact ⟨⟨p.toNat, by have := h.1; have := h.2; omega⟩, by have := h.1; show p = 0 + (p.toNat : Int); omega⟩
theorem On.three {S : Bool} {a b c d : Int} (ha : On S a) (hb : On S b) (hc : On S c) (hd : On S d) : a = b ∨ a = c ∨ a = d ∨ b = c ∨ b = d ∨ c = d := by
  obtain ⟨i, rfl⟩ := ha.fin
  obtain ⟨j, rfl⟩ := hb.fin
  obtain ⟨k, rfl⟩ := hc.fin
  obtain ⟨l, rfl⟩ := hd.fin
  have g : ∀ {i j : Fin 3}, i = j → (if S then 0 else 3) + (i.val : Int) = (if S then 0 else 3) + (j.val : Int) := fun e => e ▸ rfl
  exact (four3 i j k l).imp g (Or.imp g (Or.imp g (Or.imp g (Or.imp g g))))

section
variable {acc : Int → Int → Prop} {rk : Int → Int → Nat} (K : Mkt acc rk) {μ ν : Int → Int}
include K

theorem Mkt.lt_real {p : Int} {r : Int} (hr : r = -1 ∨ acc p r) {q : Int} (h : rk p r < rk p q) (hq : q = -1 ∨ acc p q) : r ≠ -1 ∧ acc p r := by
  rcases hr with rfl | hr
  · rcases hq with rfl | hq
    · omega
    · have := K.last hq; omega
  · exact ⟨fun e => by
      have := K.rg hr; omega, hr⟩

theorem Fits.or (F : Fits acc μ) {p : Int} (h0 : 0 ≤ p) (h5 : p ≤ 5) : μ p = -1 ∨ acc p (μ p) := (F.ok p h0 h5).imp id And.left

/-- who likes μ better holds a partner who likes ν better -/
theorem Firm.up (M : Firm acc rk μ) (N : Firm acc rk ν) {p : Int} (h0 : 0 ≤ p) (h5 : p ≤ 5) (h : rk p (μ p) < rk p (ν p)) :
    acc p (μ p) ∧ μ (μ p) = p ∧ rk (μ p) (ν (μ p)) < rk (μ p) (μ (μ p)) := by
  obtain ⟨hne, ha⟩ := K.lt_real (M.toFits.or K h0 h5) h (N.toFits.or K h0 h5)
  have hm : μ (μ p) = p := by
    rcases M.ok p h0 h5 with e | e
    · exact (hne e).elim
    · exact e.2
  refine ⟨ha, hm, ?_⟩
  rw [hm]
  have hs := Nat.le_of_not_lt (N.st p (μ p) ha h)
  have hq := K.rg ha
  have q0 : 0 ≤ μ p := by omega
  have q5 : μ p ≤ 5 := by omega
  have hne2 : rk (μ p) (ν (μ p)) ≠ rk (μ p) p := by
    intro e
    rcases N.ok (μ p) q0 q5 with e1 | ⟨a1, e1⟩
    · rw [e1] at e
      have := K.last (K.sym ha); omega
    · have := K.inj a1 (K.sym ha) e
      rw [this] at e1
      rw [e1] at h
      omega
  omega

/-- ... and so is held by one who likes μ better, and is matched in both -/
theorem Firm.on (M : Firm acc rk μ) (N : Firm acc rk ν) {S : Bool} {p : Int} (hp : On S p) (h : rk p (μ p) < rk p (ν p)) :
    acc p (ν p) ∧ ν (ν p) = p ∧ rk (ν p) (ν (ν p)) < rk (ν p) (μ (ν p)) := by
  have step : ∀ q, On S q → rk q (μ q) < rk q (ν q) → On S (ν (μ q)) ∧ rk (ν (μ q)) (μ (ν (μ q))) < rk (ν (μ q)) (ν (ν (μ q))) ∧ ν (ν (μ q)) = μ q ∧ acc (μ q) (ν (μ q)) ∧ μ (μ q) = q ∧ rk (μ q) (ν (μ q)) < rk (μ q) (μ (μ q)) := by
    intro q hq h
    obtain ⟨a, e, l⟩ := M.up K N hq.rg.1 hq.rg.2 h
    have o := hq.acc K a
    obtain ⟨a2, e2, l2⟩ := N.up K M o.rg.1 o.rg.2 l
    exact ⟨(o.acc K a2).nn, l2, e2, a2, e, l⟩
  have inj : ∀ q r, On S q → On S r → rk q (μ q) < rk q (ν q) → rk r (μ r) < rk r (ν r) → ν (μ q) = ν (μ r) → q = r := by
    intro q r hq hr h1 h2 e
    obtain ⟨_, _, e1, _, e3, _⟩ := step q hq h1
    obtain ⟨_, _, e2, _, e4, _⟩ := step r hr h2
    rw [e, e2] at e1
    rw [← e3, ← e4, e1]
  obtain ⟨o1, l1, _⟩ := step p hp h
  obtain ⟨o2, l2, _⟩ := step _ o1 l1
  obtain ⟨o3, l3, _⟩ := step _ o2 l2
  have key : ∃ q, On S q ∧ rk q (μ q) < rk q (ν q) ∧ p = ν (μ q) := by
    rcases On.three hp o1 o2 o3 with e | e | e | e | e | e
    · exact ⟨_, hp, h, e⟩
    · exact ⟨_, o1, l1, e⟩
    · exact ⟨_, o2, l2, e⟩
    · exact ⟨_, hp, h, inj _ _ hp o1 h l1 e⟩
    · exact ⟨_, o1, l1, inj _ _ hp o2 h l2 e⟩
    · have e' := inj _ _ o1 o2 l1 l2 e
      exact ⟨_, hp, h, inj _ _ hp o1 h l1 e'⟩
  obtain ⟨q, hq, lq, rfl⟩ := key
  obtain ⟨_, _, e1, a1, e2, l3⟩ := step q hq lq
  rw [e1]
  exact ⟨K.sym a1, rfl, l3⟩

/-- the same stay alone -/
theorem Firm.alone (M : Firm acc rk μ) (N : Firm acc rk ν) {p : Int} (h0 : 0 ≤ p) (h5 : p ≤ 5) (h : μ p = -1) : ν p = -1 := by
  rcases N.ok p h0 h5 with e | ⟨a, e⟩
  · exact e
  · have l := K.last a
    rw [← h] at l
    have : On true p ∨ On false p := On.tot h0 h5 true
    rcases this with o | o
    · have := (N.on K M o l).1
      rw [h] at this
      have := K.rg this; omega
    · have := (N.on K M o l).1
      rw [h] at this
      have := K.rg this; omega

/-- of two firm matches: the better for side S, the worse for the other -/
noncomputable def joinS (rk : Int → Int → Nat) (μ ν : Int → Int) (S : Bool) (p : Int) : Int :=
  if (decide (p ≤ 2)) = S then (if rk p (ν p) < rk p (μ p) then ν p else μ p) else (if rk p (ν p) < rk p (μ p) then μ p else ν p)
omit K in
theorem On.dec {S : Bool} {p : Int} (h : On S p) : decide (p ≤ 2) = S := by
  cases S <;> simp only [On, if_true, Bool.false_eq_true, if_false] at h <;> simp <;> omega
omit K in
theorem On.dec' {S : Bool} {p : Int} (h : On (!S) p) : ¬ decide (p ≤ 2) = S := by
  cases S <;> simp [On] at h ⊢ <;> omega
theorem Firm.same (M : Firm acc rk μ) (N : Firm acc rk ν) {p : Int} (h0 : 0 ≤ p) (h5 : p ≤ 5) (h : rk p (μ p) = rk p (ν p)) : μ p = ν p := by
  rcases M.ok p h0 h5 with e | ⟨a, e⟩
  · rw [e, M.alone K N h0 h5 e]
  · rcases N.ok p h0 h5 with e' | ⟨a', e'⟩
    · rw [e', N.alone K M h0 h5 e']
    · exact K.inj a a' h
theorem Firm.join (M : Firm acc rk μ) (N : Firm acc rk ν) (S : Bool) : Firm acc rk (joinS rk μ ν S) := by
  refine { ok := fun p h0 h5 => ?_, st := fun p q a h1 h2 => ?_ }
  · have hM := M.ok p h0 h5
    have hN := N.ok p h0 h5
    rcases On.tot h0 h5 S with o | o
    · rcases Nat.lt_trichotomy (rk p (μ p)) (rk p (ν p)) with l | l | l
      · obtain ⟨a, e, l2⟩ := M.up K N h0 h5 l
        have o2 := o.acc K a
        have e1 : joinS rk μ ν S p = μ p := by unfold joinS; rw [if_pos o.dec, if_neg (by omega)]
        have e2 : joinS rk μ ν S (μ p) = μ (μ p) := by unfold joinS; rw [if_neg o2.dec', if_pos l2]
        rw [e1, e2]; exact .inr ⟨a, e⟩
      · have e := M.same K N h0 h5 l
        have e1 : joinS rk μ ν S p = μ p := by unfold joinS; rw [if_pos o.dec, if_neg (by omega)]
        rw [e1]
        rcases hM with h | ⟨a, h⟩
        · exact .inl h
        · refine .inr ⟨a, ?_⟩
          have o2 := o.acc K a
          have e3 : ν (μ p) = p := by
            rcases hN with h' | h'
            · rw [e, h'] at a; have := K.rg a; omega
            · rw [e]; exact h'.2
          unfold joinS
          rw [if_neg o2.dec', h, e3]; simp
      · obtain ⟨a, e, l2⟩ := N.up K M h0 h5 l
        have o2 := o.acc K a
        have e1 : joinS rk μ ν S p = ν p := by unfold joinS; rw [if_pos o.dec, if_pos (by omega)]
        have e2 : joinS rk μ ν S (ν p) = ν (ν p) := by unfold joinS; rw [if_neg o2.dec', if_neg (by omega)]
        rw [e1, e2]; exact .inr ⟨a, e⟩
    · rcases Nat.lt_trichotomy (rk p (μ p)) (rk p (ν p)) with l | l | l
      · -- p likes μ better, takes ν
        obtain ⟨a, e, l2⟩ := M.on K N o l
        have o2 := (o.acc K a).nn
        have e1 : joinS rk μ ν S p = ν p := by unfold joinS; rw [if_neg o.dec', if_neg (by omega)]
        have e2 : joinS rk μ ν S (ν p) = ν (ν p) := by unfold joinS; rw [if_pos o2.dec, if_pos l2]
        rw [e1, e2]; exact .inr ⟨a, e⟩
      · have e := M.same K N h0 h5 l
        have e1 : joinS rk μ ν S p = ν p := by unfold joinS; rw [if_neg o.dec', if_neg (by omega)]
        rw [e1, ← e]
        rcases hM with h | ⟨a, h⟩
        · exact .inl h
        · refine .inr ⟨a, ?_⟩
          have o2 := (o.acc K a).nn
          have e3 : ν (μ p) = p := by
            rcases hN with h' | h'
            · rw [e, h'] at a; have := K.rg a; omega
            · rw [e]; exact h'.2
          unfold joinS
          rw [if_pos o2.dec, h, e3]; simp
      · obtain ⟨a, e, l2⟩ := N.on K M o l
        have o2 := (o.acc K a).nn
        have e1 : joinS rk μ ν S p = μ p := by unfold joinS; rw [if_neg o.dec', if_pos (by omega)]
        have e2 : joinS rk μ ν S (μ p) = μ (μ p) := by unfold joinS; rw [if_pos o2.dec, if_neg (by omega)]
        rw [e1, e2]; exact .inr ⟨a, e⟩
  · have le1 : ∀ r, rk r (joinS rk μ ν S r) ≤ max (rk r (μ r)) (rk r (ν r)) := by
      intro r; unfold joinS; split <;> split <;> omega
    have lo : ∀ r, decide (r ≤ 2) = S → rk r (joinS rk μ ν S r) ≤ rk r (μ r) ∧ rk r (joinS rk μ ν S r) ≤ rk r (ν r) := by
      intro r hr; unfold joinS; rw [if_pos hr]; split <;> omega
    have any : ∀ r, joinS rk μ ν S r = μ r ∨ joinS rk μ ν S r = ν r := by
      intro r; unfold joinS; split <;> split <;> simp
    have hp : On S p ∨ On (!S) p := On.tot (by have := K.rg a; omega) (by have := K.rg a; omega) S
    rcases hp with o | o
    · have := lo p o.dec
      rcases any q with e | e
      · rw [e] at h2; exact M.st p q a (by omega) h2
      · rw [e] at h2; exact N.st p q a (by omega) h2
    · have o2 := (o.acc K a).nn
      have := lo q o2.dec
      rcases any p with e | e
      · rw [e] at h1; exact M.st p q a h1 (by omega)
      · rw [e] at h1; exact N.st p q a h1 (by omega)

/-- best for one side is worst for the other -/
theorem Firm.worst (M : Firm acc rk μ) (N : Firm acc rk ν) (S : Bool) (hb : ∀ p, On S p → rk p (μ p) ≤ rk p (ν p)) {q : Int} (hq : On (!S) q) : rk q (ν q) ≤ rk q (μ q) := by
  apply Nat.le_of_not_lt
  intro l
  obtain ⟨a, e, l2⟩ := M.up K N hq.rg.1 hq.rg.2 l
  have o := (hq.acc K a).nn
  have := hb _ o
  omega
end
end Mine
end

section
open PySem PySem.W PyProof.Rows PySem.SeqAt
set_option maxRecDepth 100000
namespace Mine

/-! ## Asking in plain terms -/
theorem min_ex (f : Int → Nat) : ∀ l : List Int, l ≠ [] → ∃ k ∈ l, ∀ x ∈ l, f k ≤ f x
  | [], h => (h rfl).elim
  | [a], _ => ⟨a, .head _, fun x hx => by rw [List.mem_singleton.mp hx]; exact Nat.le_refl _⟩
  | a :: b :: l, _ => by
    obtain ⟨k, hk, h⟩ := min_ex f (b :: l) (by simp)
    by_cases hc : f a ≤ f k
    · exact ⟨a, .head _, fun x hx => by
        rcases List.mem_cons.mp hx with rfl | hx
        · exact Nat.le_refl _
        · exact Nat.le_trans hc (h x hx)⟩
    · exact ⟨k, .tail _ hk, fun x hx => by
        rcases List.mem_cons.mp hx with rfl | hx
        · omega
        · exact h x hx⟩
theorem only_one {l : List Int} {k : Int} (hnd : l.Nodup) (h : ∀ x, x ∈ l ↔ x = k) : l = [k] := by
  match l, hnd, h with
  | [], _, h => exact absurd ((h k).mpr rfl) (by simp)
  | [a], _, h => rw [(h a).mp (.head _)]
  | a :: b :: l, hnd, h =>
    have e1 := (h a).mp (.head _)
    have e2 := (h b).mp (.tail _ (.head _))
    rw [e1, e2] at hnd
    simp at hnd
theorem mem_erase {x : Int} : ∀ {l : List Int} {i : Nat}, l.Nodup → i < l.length → (x ∈ l.eraseIdx i ↔ x ∈ l ∧ x ≠ l.getD i 0)
  | [], _, _, h => by simp at h
  | a :: l, 0, hn, _ => by
    have := (List.nodup_cons.mp hn).1
    simp only [List.eraseIdx_zero, List.tail_cons, List.mem_cons, List.getD_cons_zero]
    constructor
    · intro h; exact ⟨.inr h, fun e => this (e ▸ h)⟩
    · rintro ⟨rfl | h, hne⟩
      · exact (hne rfl).elim
      · exact h
  | a :: l, i + 1, hn, h => by
    have hn' := List.nodup_cons.mp hn
    have hi : i < l.length := by simpa using h
    have ih := mem_erase (x := x) hn'.2 hi
    simp only [List.eraseIdx_cons_succ, List.mem_cons, List.getD_cons_succ, ih]
    have hm : l.getD i 0 ∈ l := by rw [List.getD_eq_getElem?_getD, List.getElem?_eq_getElem hi]; exact List.getElem_mem _
    constructor
    · rintro (rfl | ⟨h1, h2⟩)
      · exact ⟨.inl rfl, fun e => hn'.1 (e ▸ hm)⟩
      · exact ⟨.inr h1, h2⟩
    · rintro ⟨rfl | h1, h2⟩
      · exact .inl rfl
      · exact .inr ⟨h1, h2⟩
theorem nodup_erase {l : List Int} (i : Nat) (h : l.Nodup) : (l.eraseIdx i).Nodup := List.Sublist.nodup (List.eraseIdx_sublist l i) h
theorem at_set {ls : List (List Int)} (hl : ls.length = 6) {i j : Int} (hi0 : 0 ≤ i) (hi5 : i ≤ 5) (hj0 : 0 ≤ j) (v : List Int) : at' (ls.set i.toNat v) j = if j = i then v else at' ls j := by
  unfold at'
  rw [List.getD_eq_getElem?_getD, List.getD_eq_getElem?_getD]
  by_cases h : j = i
  · subst h
    rw [if_pos rfl, List.getElem?_set_self (by omega)]; rfl
  · rw [if_neg h, List.getElem?_set_ne (by omega)]
theorem sum_set : ∀ (ls : List (List Int)) (i : Nat) (v : List Int), i < ls.length → ((ls.set i v).map List.length).sum + (ls.getD i []).length = (ls.map List.length).sum + v.length
  | [], _, _, h => by simp at h
  | a :: l, 0, v, _ => by simp; omega
  | a :: l, i + 1, v, h => by
    have := sum_set l i v (by simpa using h)
    simp only [List.set_cons_succ, List.map_cons, List.sum_cons, List.getD_cons_succ] at this ⊢
    omega
theorem len3 {S : Bool} {l : List Int} (hn : l.Nodup) (h : ∀ x ∈ l, On S x) : l.length ≤ 3 := by
  match l, hn, h with
  | [], _, _ => simp
  | [_], _, _ => simp
  | [_, _], _, _ => simp
  | [_, _, _], _, _ => simp
  | a :: b :: c :: d :: l, hn, h =>
    have := On.three (h a (by simp)) (h b (by simp)) (h c (by simp)) (h d (by simp))
    simp only [List.nodup_cons, List.mem_cons, not_or] at hn
    obtain ⟨⟨n1, n2, n3, _⟩, ⟨n4, n5, _⟩, ⟨n6, _⟩, _⟩ := hn
    rcases this with e | e | e | e | e | e
    · exact (n1 e).elim
    · exact (n2 e).elim
    · exact (n3 e).elim
    · exact (n4 e).elim
    · exact (n5 e).elim
    · exact (n6 e).elim

theorem len_filt (g : Int → Bool) : ∀ l : List Int, (l.filter g).length + (l.filter fun a => !g a).length = l.length
  | [] => rfl
  | a :: l => by
    have := len_filt g l
    rw [List.filter_cons, List.filter_cons]
    cases g a <;> simp <;> omega

section
variable {xs : List Int} {acc : Int → Int → Prop} {rk' : Int → Int → Nat} (K : Mkt acc rk') (hB : ∀ p ss, (∀ q ∈ ss, acc p q) → ∀ a ∈ ss, (bestB xs p ss a = true ↔ ∀ b ∈ ss, rk' p a ≤ rk' p b))
include K hB

theorem top_of {p : Int} {ss : List Int} (hne : ss ≠ []) (hnd : ss.Nodup) (ha : ∀ q ∈ ss, acc p q) : ∃ k ∈ ss, (∀ x ∈ ss, rk' p k ≤ rk' p x) ∧ ss.filter (bestB xs p ss) = [k] ∧
    (∀ x, x ∈ (ss.filter fun a => !bestB xs p ss a) ↔ x ∈ ss ∧ x ≠ k) ∧ (ss.filter fun a => !bestB xs p ss a).length + 1 = ss.length := by
  obtain ⟨k, hk, hm⟩ := min_ex (rk' p) ss hne
  have hbk : ∀ x ∈ ss, (bestB xs p ss x = true ↔ x = k) := fun x hx => by
    rw [hB p ss ha x hx]
    constructor
    · intro h
      have h1 := h k hk
      have h2 := hm x hx
      exact K.inj (ha x hx) (ha k hk) (by omega)
    · rintro rfl; exact hm
  have e1 : ss.filter (bestB xs p ss) = [k] := only_one (hnd.filter _) fun x => by
    rw [List.mem_filter]
    constructor
    · rintro ⟨h1, h2⟩; exact (hbk x h1).mp h2
    · rintro rfl; exact ⟨hk, (hbk _ hk).mpr rfl⟩
  refine ⟨k, hk, hm, e1, fun x => ?_, ?_⟩
  · rw [List.mem_filter]
    constructor
    · rintro ⟨h1, h2⟩
      refine ⟨h1, fun e => ?_⟩
      rw [(hbk x h1).mpr e] at h2; cases h2
    · rintro ⟨h1, h2⟩
      refine ⟨h1, ?_⟩
      cases hb : bestB xs p ss x with
      | true => exact (h2 ((hbk x h1).mp hb)).elim
      | false => rfl
  · have := len_filt (bestB xs p ss) ss
    rw [e1] at this
    simp only [List.length_cons, List.length_nil] at this
    omega
end
end Mine
end

section
open PySem PySem.W PyProof.Rows PySem.SeqAt
set_option maxRecDepth 100000
namespace Mine

structure AInv (acc : Int → Int → Prop) (rk' : Int → Int → Nat) (S : Bool) (s : St) : Prop where
  l6 : s.left.length = 6
  h6 : s.held.length = 6
  lf : ∀ a, On S a → ∀ b ∈ at' s.left a, acc a b
  lnd : ∀ a, On S a → (at' s.left a).Nodup
  fr : ∀ a ∈ s.free, On S a
  fnd : s.free.Nodup
  hd : ∀ b, On (!S) b → at' s.held b = [] ∨ ∃ a, at' s.held b = [a] ∧ acc a b ∧ b ∉ at' s.left a ∧ a ∉ s.free
  one : ∀ a b b', On (!S) b → On (!S) b' → at' s.held b = [a] → at' s.held b' = [a] → b = b'
  out : ∀ a, On S a → a ∉ s.free → at' s.left a = [] ∨ ∃ b, On (!S) b ∧ at' s.held b = [a]
  ord : ∀ a b b', On S a → acc a b → acc a b' → b ∈ at' s.left a → b' ∉ at' s.left a → rk' a b' < rk' a b
  ref : ∀ a b, On S a → acc a b → b ∉ at' s.left a → at' s.held b ≠ [a] → (∃ a', at' s.held b = [a'] ∧ rk' b a' < rk' b a) ∧ ∀ ν, Firm acc rk' ν → ν a ≠ b

noncomputable def meas (s : St) : Nat := (s.left.map List.length).sum + s.free.length

theorem St.idx_lt {s : St} (h : s.free ≠ []) : s.idx < s.free.length := by
  have hlen : 0 < s.free.length := List.length_pos_iff.mpr h
  have q1 := Int.fmod_nonneg_of_pos s.turn (b := (s.free.length : Int)) (by omega)
  have q2 := Int.fmod_lt_of_pos s.turn (b := (s.free.length : Int)) (by omega)
  unfold St.idx; omega
theorem St.asker_mem {s : St} (h : s.free ≠ []) : s.asker ∈ s.free := by
  unfold St.asker
  rw [List.getD_eq_getElem?_getD, List.getElem?_eq_getElem (St.idx_lt h)]; exact List.getElem_mem _

section
variable {xs : List Int} {acc : Int → Int → Prop} {rk' : Int → Int → Nat} (K : Mkt acc rk') (hB : ∀ p ss, (∀ q ∈ ss, acc p q) → ∀ a ∈ ss, (bestB xs p ss a = true ↔ ∀ b ∈ ss, rk' p a ≤ rk' p b)) {S : Bool} {s : St}
include K

theorem AInv.noHold (I : AInv acc rk' S s) {a b : Int} (ha : a ∈ s.free) (hb : On (!S) b) : at' s.held b ≠ [a] := fun e => by
  rcases I.hd b hb with h | ⟨a', h, _, _, h2⟩
  · rw [h] at e; cases e
  · rw [h] at e; cases e; exact h2 ha

/-- k has asked c and is better for c than l: no firm match gives c to l -/
theorem AInv.block (I : AInv acc rk' S s) {k l c : Int} (hk : On S k) (hc : On (!S) c) (hkc : acc k c) (hlc : acc l c) (hlt : rk' c k < rk' c l)
    (hb : ∀ b', acc k b' → rk' k b' < rk' k c → b' ∉ at' s.left k ∧ at' s.held b' ≠ [k]) : ∀ ν, Firm acc rk' ν → ν l ≠ c := fun ν N e => by
  have hl := K.rg hlc
  have ec : ν c = l := by
    rcases N.ok l (by omega) (by omega) with e1 | ⟨_, e1⟩
    · have := hc.rg; omega
    · rw [e] at e1; exact e1
  have h1 : ¬ rk' k c < rk' k (ν k) := fun h => N.st k c hkc h (by rw [ec]; exact hlt)
  have hkr := hk.rg
  rcases N.ok k hkr.1 hkr.2 with e2 | ⟨a2, e2⟩
  · have := K.last hkc
    rw [e2] at h1; omega
  · have hne : ν k ≠ c := fun z => by
      rw [z, ec] at e2
      rw [e2] at hlt; omega
    have hlt2 : rk' k (ν k) < rk' k c := by
      have : rk' k (ν k) ≠ rk' k c := fun z => hne (K.inj a2 hkc z)
      omega
    obtain ⟨b1, b2⟩ := hb _ a2 hlt2
    exact (I.ref k (ν k) hk a2 b1 b2).2 ν N rfl

include hB
theorem AInv.step (I : AInv acc rk' S s) (hf : s.free ≠ []) : s.Ok xs ∧ AInv acc rk' S (s.step xs) ∧ meas (s.step xs) < meas s := by
  have hidx := St.idx_lt hf
  have ham := St.asker_mem hf
  have haS := I.fr _ ham
  have har := haS.rg
  have hrow : ∀ q ∈ s.row, acc s.asker q := I.lf _ haS
  have hrnd : s.row.Nodup := I.lnd _ haS
  have hrO : ∀ q ∈ s.row, On (!S) q := fun q hq => haS.acc K (hrow q hq)
  have hr3 := len3 hrnd hrO
  have hf3 := len3 I.fnd I.fr
  have hmem : ∀ x, x ∈ s.free.eraseIdx s.idx ↔ x ∈ s.free ∧ x ≠ s.asker := fun x => mem_erase I.fnd hidx
  have hel : (s.free.eraseIdx s.idx).length + 1 = s.free.length := by rw [List.length_eraseIdx_of_lt hidx]; omega
  generalize ea : s.asker = a at *
  by_cases hr : s.row = []
  · have es : s.step xs = { s with free := s.free.eraseIdx s.idx, turn := s.turn.fdiv 3 } := by unfold St.step; rw [if_pos hr]
    refine ⟨⟨I.l6, I.h6, by omega, by rw [ea]; exact har, by omega, fun q hq => by have := (hrO q hq).rg; omega, fun h => (h hr).elim⟩, ?_, ?_⟩
    · rw [es]
      refine ⟨I.l6, I.h6, I.lf, I.lnd, fun x hx => I.fr x ((hmem x).mp hx).1, nodup_erase _ I.fnd, fun b hb => ?_, I.one, fun x hx hxf => ?_, I.ord, I.ref⟩
      · rcases I.hd b hb with h | ⟨a', h1, h2, h3, h4⟩
        · exact .inl h
        · exact .inr ⟨a', h1, h2, h3, fun z => h4 ((hmem _).mp z).1⟩
      · by_cases hxa : x = a
        · left
          have : at' s.left a = [] := by rw [← ea]; exact hr
          rw [hxa]; exact this
        · exact I.out x hx fun z => hxf ((hmem x).mpr ⟨z, hxa⟩)
    · rw [es]; unfold meas
      show (s.left.map List.length).sum + (s.free.eraseIdx s.idx).length < _
      omega
  · obtain ⟨c, hc, hmin, e1, e2, e3⟩ := top_of K hB hr hrnd hrow
    have erow : s.row = at' s.left a := by rw [← ea]
    have hcO := hrO c hc
    have hcr := hcO.rg
    have hac := hrow c hc
    have ech : s.chosen xs = [c] := by rw [← e1, St.chosen, ea]
    have ec : s.c xs = c := by rw [St.c, ech]; rfl
    have ehs : s.hs xs = at' s.held c ++ [a] := by rw [St.hs, ec, ea]
    have herest : s.rest xs = s.row.filter fun x => !bestB xs a s.row x := by rw [St.rest, ea]
    -- the two (or the one) who want c
    have hno := I.noHold K ham hcO
    have hhs : (s.hs xs).Nodup ∧ (∀ x ∈ s.hs xs, acc c x ∧ On S x) ∧ (s.hs xs).length ≤ 2 ∧ (∀ x ∈ s.hs xs, x = a ∨ (at' s.held c = [x] ∧ acc x c ∧ c ∉ at' s.left x ∧ x ∉ s.free)) := by
      rw [ehs]
      rcases I.hd c hcO with h | ⟨a1, h1, h2, h3, h4⟩
      · rw [h]
        refine ⟨by simp, fun x hx => ?_, by simp, fun x hx => ?_⟩
        · simp at hx; rw [hx]; exact ⟨K.sym hac, haS⟩
        · simp at hx; exact .inl hx
      · rw [h1]
        have hne : a1 ≠ a := fun z => h4 (z ▸ ham)
        refine ⟨by simp [hne], fun x hx => ?_, by simp, fun x hx => ?_⟩
        · simp at hx
          rcases hx with rfl | rfl
          · exact ⟨K.sym h2, (hcO.acc K (K.sym h2)).nn⟩
          · exact ⟨K.sym hac, haS⟩
        · simp at hx
          rcases hx with rfl | rfl
          · exact .inr ⟨rfl, h2, h3, h4⟩
          · exact .inl rfl
    obtain ⟨hs1, hs2, hs3, hs4⟩ := hhs
    have hsne : s.hs xs ≠ [] := by rw [ehs]; simp
    have hain : a ∈ s.hs xs := by rw [ehs]; simp
    have hheld : ∀ x, at' s.held c = [x] → x ∈ s.hs xs := fun x h => by rw [ehs, h]; simp
    obtain ⟨k, hk, kmin, k1, k2, k3⟩ := top_of K hB hsne hs1 (fun q hq => (hs2 q hq).1)
    have ekeep : s.keep xs = [k] := by rw [← k1, St.keep, ec]
    have eref : s.refused xs = (s.hs xs).filter fun x => !bestB xs c (s.hs xs) x := by rw [St.refused, ec]
    have href : ∀ x, x ∈ s.refused xs ↔ x ∈ s.hs xs ∧ x ≠ k := fun x => by rw [eref]; exact k2 x
    have hrest : ∀ x, x ∈ s.rest xs ↔ x ∈ s.row ∧ x ≠ c := fun x => by rw [herest]; exact e2 x
    have hrestl : (s.rest xs).length + 1 = s.row.length := by rw [herest]; exact e3
    have hrefl : (s.refused xs).length + 1 = (s.hs xs).length := by rw [eref]; exact k3
    have hrestnd : (s.rest xs).Nodup := by rw [herest]; exact hrnd.filter _
    have hrefnd : (s.refused xs).Nodup := by rw [eref]; exact hs1.filter _
    have es : s.step xs = { left := s.left.set a.toNat (s.rest xs), held := s.held.set c.toNat [k], free := s.free.eraseIdx s.idx ++ s.refused xs, turn := s.turn.fdiv 3 } := by
      unfold St.step; rw [if_neg hr, ea, ec, ekeep]
    have hkS := (hs2 k hk).2
    have hkc := K.sym (hs2 k hk).1
    refine ⟨⟨I.l6, I.h6, by omega, by rw [ea]; exact har, by omega, fun q hq => by have := (hrO q hq).rg; omega, fun _ => ⟨by rw [ech]; simp, by rw [ec]; exact hcr.1, by rw [ec]; exact hcr.2, by omega, fun q hq => by have := (hs2 q hq).2.rg; omega⟩⟩, ?_, ?_⟩
    · have hL : ∀ x, 0 ≤ x → at' (s.left.set a.toNat (s.rest xs)) x = if x = a then s.rest xs else at' s.left x := fun x hx => at_set I.l6 har.1 har.2 hx _
      have hH : ∀ x, 0 ≤ x → at' (s.held.set c.toNat [k]) x = if x = c then [k] else at' s.held x := fun x hx => at_set I.h6 hcr.1 hcr.2 hx _
      have hfree : ∀ x, x ∈ s.free.eraseIdx s.idx ++ s.refused xs ↔ (x ∈ s.free ∧ x ≠ a) ∨ (x ∈ s.hs xs ∧ x ≠ k) := fun x => by rw [List.mem_append, hmem, href]
      have hkfree : ¬ ((k ∈ s.free ∧ k ≠ a) ∨ (k ∈ s.hs xs ∧ k ≠ k)) := by
        rintro (⟨h1, h2⟩ | ⟨_, h2⟩)
        · rcases hs4 k hk with h | h
          · exact h2 h
          · exact h.2.2.2 h1
        · exact h2 rfl
      -- what k would rather have is lost to k
      have hblk : ∀ l ∈ s.hs xs, l ≠ k → ∀ ν, Firm acc rk' ν → ν l ≠ c := fun l hl hlk => by
        have hlt : rk' c k < rk' c l := by
          have h1 := kmin l hl
          have h2 : rk' c k ≠ rk' c l := fun z => hlk (K.inj (hs2 k hk).1 (hs2 l hl).1 z).symm
          omega
        refine I.block K hkS hcO hkc (K.sym (hs2 l hl).1) hlt fun b' hb' hlt' => ?_
        have hbO := hkS.acc K hb'
        rcases hs4 k hk with rfl | ⟨h1, h2, h3, h4⟩
        · refine ⟨fun hm => ?_, I.noHold K ham hbO⟩
          have := hmin b' (by rw [erow]; exact hm); omega
        · refine ⟨fun hm => ?_, fun hh => ?_⟩
          · have := I.ord k b' c hkS hb' h2 hm h3; omega
          · have := I.one k b' c hbO hcO hh h1
            rw [this] at hlt'; omega
      rw [es]
      refine ⟨by simp [I.l6], by simp [I.h6], fun x hx b hb => ?_, fun x hx => ?_, fun x hx => ?_, ?_, fun b hb => ?_, fun x b b' hb hb' h1 h2 => ?_, fun x hx hxf => ?_, fun x b b' hx h1 h2 h3 h4 => ?_, fun x b hx h1 h2 h3 => ?_⟩
      · simp only [hL x hx.rg.1] at hb
        split at hb
        · next e => rw [e]; exact hrow b ((hrest b).mp hb).1
        · exact I.lf x hx b hb
      · simp only [hL x hx.rg.1]
        split
        · exact hrestnd
        · exact I.lnd x hx
      · rcases (hfree x).mp hx with ⟨h, _⟩ | ⟨h, _⟩
        · exact I.fr x h
        · exact (hs2 x h).2
      · show (s.free.eraseIdx s.idx ++ s.refused xs).Nodup
        rw [List.nodup_append]
        refine ⟨nodup_erase _ I.fnd, hrefnd, fun x hx y hy e => ?_⟩
        subst e
        have h1 := (hmem x).mp hx
        have h2 := (href x).mp hy
        rcases hs4 x h2.1 with h | h
        · exact h1.2 h
        · exact h.2.2.2 h1.1
      · simp only [hH b hb.rg.1]
        split
        · next e =>
          subst e
          refine .inr ⟨k, rfl, hkc, ?_, fun z => hkfree ((hfree k).mp z)⟩
          simp only [hL k hkS.rg.1]
          split
          · intro z; exact ((hrest b).mp z).2 rfl
          · next hne =>
            rcases hs4 k hk with h | h
            · exact (hne h).elim
            · exact h.2.2.1
        · next hbc =>
          rcases I.hd b hb with h | ⟨a2, h1, h2, h3, h4⟩
          · exact .inl h
          · have h5 : a2 ≠ a := fun z => h4 (z ▸ ham)
            have h6 := (hb.acc K (K.sym h2)).nn
            refine .inr ⟨a2, h1, h2, ?_, fun z => ?_⟩
            · simp only [hL a2 h6.rg.1]; rw [if_neg h5]; exact h3
            · rcases (hfree a2).mp z with ⟨h, _⟩ | ⟨h, _⟩
              · exact h4 h
              · rcases hs4 a2 h with h | h
                · exact h5 h
                · exact hbc (I.one a2 b c hb hcO h1 h.1)
      · simp only [hH b hb.rg.1] at h1
        simp only [hH b' hb'.rg.1] at h2
        have key : ∀ y, On (!S) y → at' s.held y = [k] → y = c := fun y hy hyk => by
          rcases hs4 k hk with h | h
          · exact (I.noHold K ham hy (h ▸ hyk)).elim
          · exact I.one k y c hy hcO hyk h.1
        split at h1
        · next e =>
          injection h1 with h1
          split at h2
          · next e' => rw [e, e']
          · next e' => exact (e' (key b' hb' (by rw [h1]; exact h2))).elim
        · next e =>
          split at h2
          · injection h2 with h2
            exact (e (key b hb (by rw [h2]; exact h1))).elim
          · exact I.one x b b' hb hb' h1 h2
      · have hxf' : ¬ ((x ∈ s.free ∧ x ≠ a) ∨ (x ∈ s.hs xs ∧ x ≠ k)) := fun z => hxf ((hfree x).mpr z)
        have hxk : x ∈ s.hs xs → x = k := fun h => Classical.byContradiction fun z => hxf' (.inr ⟨h, z⟩)
        have hheldk : ∃ b, On (!S) b ∧ at' (s.held.set c.toNat [k]) b = [k] := ⟨c, hcO, by rw [hH c hcr.1, if_pos rfl]⟩
        by_cases hxa : x = a
        · have := hxk (hxa ▸ hain)
          rw [this]; exact .inr hheldk
        · have hnf : x ∉ s.free := fun z => hxf' (.inl ⟨z, hxa⟩)
          rcases I.out x hx hnf with h | ⟨b, hb, h⟩
          · left
            show at' (s.left.set a.toNat (s.rest xs)) x = []
            rw [hL x hx.rg.1, if_neg hxa]; exact h
          · right
            by_cases hbc : b = c
            · subst hbc
              have := hxk (hheld x h)
              rw [this]; exact hheldk
            · refine ⟨b, hb, ?_⟩
              show at' (s.held.set c.toNat [k]) b = [x]
              rw [hH b hb.rg.1, if_neg hbc]; exact h
      · simp only [hL x hx.rg.1] at h3 h4
        split at h3
        · next e =>
          subst e
          rw [if_pos rfl] at h4
          obtain ⟨h5, h6⟩ := (hrest b).mp h3
          by_cases hb' : b' ∈ s.row
          · have : b' = c := Classical.byContradiction fun z => h4 ((hrest b').mpr ⟨hb', z⟩)
            rw [this]
            have h7 := hmin b h5
            have h8 : rk' x c ≠ rk' x b := fun z => h6 (K.inj hac h1 z).symm
            omega
          · exact I.ord x b b' hx h1 h2 (by rw [← erow]; exact h5) (by rw [← erow]; exact hb')
        · next e =>
          rw [if_neg e] at h4
          exact I.ord x b b' hx h1 h2 h3 h4
      · have hbO := hx.acc K h1
        simp only [hL x hx.rg.1] at h2
        simp only [hH b hbO.rg.1] at h3 ⊢
        by_cases hbc : b = c
        · subst hbc
          rw [if_pos rfl] at h3 ⊢
          have hxk : x ≠ k := fun z => h3 (by rw [z])
          by_cases hin : x ∈ s.hs xs
          · refine ⟨⟨k, rfl, ?_⟩, hblk x hin hxk⟩
            have h5 := kmin x hin
            have h6 : rk' b k ≠ rk' b x := fun z => hxk (K.inj (hs2 k hk).1 (hs2 x hin).1 z).symm
            omega
          · have hxa : x ≠ a := fun z => hin (z ▸ hain)
            rw [if_neg hxa] at h2
            obtain ⟨⟨a', h5, h6⟩, h7⟩ := I.ref x b hx h1 h2 (fun z => hin (hheld x z))
            refine ⟨⟨k, rfl, ?_⟩, h7⟩
            have := kmin a' (hheld a' h5); omega
        · rw [if_neg hbc] at h3 ⊢
          refine I.ref x b hx h1 ?_ h3
          split at h2
          · next e =>
            subst e
            rw [← erow]
            exact fun z => h2 ((hrest b).mpr ⟨z, hbc⟩)
          · exact h2
    · rw [es]
      unfold meas
      show ((s.left.set a.toNat (s.rest xs)).map List.length).sum + (s.free.eraseIdx s.idx ++ s.refused xs).length < _
      have h1 := sum_set s.left a.toNat (s.rest xs) (by have := I.l6; omega)
      have h2 : (s.left.getD a.toNat []).length = s.row.length := by rw [erow]; rfl
      rw [List.length_append]
      omega

theorem AInv.run : ∀ (N : Nat) (s : St), AInv acc rk' S s → meas s ≤ N → ∃ k s', Asks xs k s s' ∧ AInv acc rk' S s' ∧ s'.free = []
  | N, s, I, hN => by
    by_cases hf : s.free = []
    · exact ⟨0, s, .stop s hf, I, hf⟩
    · obtain ⟨ok, I', hm⟩ := I.step K hB hf
      match N, hN with
      | 0, hN => omega
      | N + 1, hN =>
        obtain ⟨k, s', h1, h2, h3⟩ := AInv.run N (s.step xs) I' (by omega)
        exact ⟨k + 1, s', .turn hf ok h1, h2, h3⟩
end
end Mine
end

section
open PySem PySem.W PyProof.Rows PySem.SeqAt
set_option maxRecDepth 100000
namespace Mine

/-! ## What the texts say of the numbers -/
noncomputable def t1 (f : Bool) : Str := Str.ofString "..." ++ ⟨#[ch f]⟩
noncomputable def t2 (a f : Bool) : Str := ⟨#[ch a]⟩ ++ Str.ofString "..." ++ ⟨#[ch f]⟩
theorem cr3 : ∀ a b c d e f : Bool, cramS (nm a b c d e f) 3 = MK := by decide +kernel
theorem cr4 : ∀ a b c d e f : Bool, cramS (nm a b c d e f) 4 = t1 f := by decide +kernel
theorem cr5 : ∀ a b c d e f : Bool, cramS (nm a b c d e f) 5 = t2 a f := by decide +kernel
theorem cr6 : ∀ a b c d e f : Bool, cramS (nm a b c d e f) 6 = nm a b c d e f := by decide +kernel
theorem em3 : ∀ a b c d e f : Bool, emS MK (nm a b c d e f) = true := by decide +kernel
theorem em4 : ∀ z a b c d e f : Bool, emS (t1 z) (nm a b c d e f) = (z == f) := by decide +kernel
theorem em5 : ∀ y z a b c d e f : Bool, emS (t2 y z) (nm a b c d e f) = (y == a && z == f) := by decide +kernel
theorem nomk : ∀ a b c d e f : Bool, (!(!(Builtin.Str.occurrences (nm a b c d e f) MK 0 (nm a b c d e f).length 1).isEmpty)) = true := by decide +kernel
theorem ch_inj : ∀ a b : Bool, ch a = ch b → a = b := by decide +kernel
theorem nm_eq (a b c d e f a' b' c' d' e' f' : Bool) : (nm a b c d e f == nm a' b' c' d' e' f') = (a == a' && b == b' && c == c' && d == d' && e == e' && f == f') := by
  rw [Bool.eq_iff_iff]
  simp only [beq_iff_eq, Bool.and_eq_true]
  constructor
  · intro h
    have h2 : (#[ch a, ch b, ch c, ch d, ch e, ch f] : Array Nat) = #[ch a', ch b', ch c', ch d', ch e', ch f'] := congrArg Str.cps h
    simp at h2
    obtain ⟨h1, h2, h3, h4, h5, h6⟩ := h2
    exact ⟨⟨⟨⟨⟨ch_inj _ _ h1, ch_inj _ _ h2⟩, ch_inj _ _ h3⟩, ch_inj _ _ h4⟩, ch_inj _ _ h5⟩, ch_inj _ _ h6⟩
  · rintro ⟨⟨⟨⟨⟨rfl, rfl⟩, rfl⟩, rfl⟩, rfl⟩, rfl⟩; rfl
theorem bit_eq (x y d : Int) : (bit x d == bit y d) = ((x.fdiv d).fmod 2 == (y.fdiv d).fmod 2) := by
  unfold bit
  rcases fmod2 (x.fdiv d) with h | h <;> rcases fmod2 (y.fdiv d) with h' | h' <;> rw [h, h'] <;> decide
theorem horner (x : Int) {n : Int} (hn : 0 ≤ n) : x.fmod (2 * n) = x.fmod 2 + 2 * (x.fdiv 2).fmod n := by
  rw [Int.fmod_eq_emod_of_nonneg _ (Int.mul_nonneg (by decide) hn), Int.fmod_eq_emod_of_nonneg _ (by decide), Int.fmod_eq_emod_of_nonneg _ hn, Int.fdiv_eq_ediv_of_nonneg _ (by decide), Int.emod_def x (2 * n), Int.emod_def x 2, Int.emod_def (x / 2) n, Int.mul_sub, ← Int.mul_assoc, ← Int.ediv_ediv_of_nonneg (by decide)]
  omega
theorem half (x : Int) {n : Int} (hn : 0 ≤ n) : (x.fdiv n).fdiv 2 = x.fdiv (n * 2) := by
  rw [Int.fdiv_eq_ediv_of_nonneg _ hn, Int.fdiv_eq_ediv_of_nonneg _ (by decide), Int.fdiv_eq_ediv_of_nonneg _ (Int.mul_nonneg hn (by decide)), ← Int.ediv_ediv_of_nonneg hn]
theorem six_bits (x : Int) : x.fmod 64 = (x.fdiv 1).fmod 2 + 2 * ((x.fdiv 2).fmod 2 + 2 * ((x.fdiv 4).fmod 2 + 2 * ((x.fdiv 8).fmod 2 + 2 * ((x.fdiv 16).fmod 2 + 2 * (x.fdiv 32).fmod 2)))) := by
  have h1 := horner x (n := 32) (by decide)
  have h2 := horner (x.fdiv 2) (n := 16) (by decide)
  have h3 := horner (x.fdiv 4) (n := 8) (by decide)
  have h4 := horner (x.fdiv 8) (n := 4) (by decide)
  have h5 := horner (x.fdiv 16) (n := 2) (by decide)
  rw [half x (n := 2) (by decide)] at h2
  rw [half x (n := 4) (by decide)] at h3
  rw [half x (n := 8) (by decide)] at h4
  rw [half x (n := 16) (by decide)] at h5
  rw [Int.fdiv_one]
  exact h1.trans (congrArg (x.fmod 2 + 2 * ·) (h2.trans (congrArg ((x.fdiv 2).fmod 2 + 2 * ·) (h3.trans (congrArg ((x.fdiv 4).fmod 2 + 2 * ·) (h4.trans (congrArg ((x.fdiv 8).fmod 2 + 2 * ·) h5)))))))
theorem bit_uniq {a b s t : Int} (ha : 0 ≤ a ∧ a ≤ 1) (hb : 0 ≤ b ∧ b ≤ 1) (h : a + 2 * s = b + 2 * t) : a = b ∧ s = t := by omega
theorem em_wishes (x y : Int) : emS (wishS x) (nameS y) = wishes x y := by
  unfold wishS wishes wide nameS
  have hw := fmod4 (x.fdiv 64)
  have b1 := bit_eq x y 1
  have b32 := bit_eq x y 32
  have e1 : ∀ z : Int, (z.fdiv 1).fmod 2 = z.fmod 2 := fun z => by rw [Int.fdiv_one]
  rw [e1, e1] at b1
  rcases hw with h | h | h | h
  · rw [h, show (3 : Int) + 0 = 3 from rfl, cr3, em3]; rfl
  · rw [h, show (3 : Int) + 1 = 4 from rfl, cr4, em4, b32]
    cases hc : (x.fdiv 32).fmod 2 == (y.fdiv 32).fmod 2 <;> simp [bne, hc]
  · rw [h, show (3 : Int) + 2 = 5 from rfl, cr5, em5, b32, b1]
    cases hc : (x.fdiv 32).fmod 2 == (y.fdiv 32).fmod 2 <;> simp [bne, hc]
  · rw [h, show (3 : Int) + 3 = 6 from rfl, cr6, emS, if_pos (nomk ..), nm_eq, bit_eq, bit_eq, bit_eq, bit_eq, bit_eq, bit_eq]
    rw [show ((3 : Int) == 3) = true from rfl, if_pos rfl, Bool.eq_iff_iff]
    simp only [Bool.and_eq_true, beq_iff_eq]
    have s1 := six_bits x
    have s2 := six_bits y
    constructor
    · rintro ⟨⟨⟨⟨⟨h1, h2⟩, h3⟩, h4⟩, h5⟩, h6⟩
      rw [s1, s2, h1, h2, h3, h4, h5, h6]
    · intro h
      rw [s1, s2] at h
      have q : ∀ z : Int, 0 ≤ z.fmod 2 ∧ z.fmod 2 ≤ 1 := fun z => by rcases fmod2 z with h | h <;> rw [h] <;> decide
      obtain ⟨z1, h⟩ := bit_uniq (q _) (q _) h
      obtain ⟨z2, h⟩ := bit_uniq (q _) (q _) h
      obtain ⟨z3, h⟩ := bit_uniq (q _) (q _) h
      obtain ⟨z4, h⟩ := bit_uniq (q _) (q _) h
      obtain ⟨z5, z6⟩ := bit_uniq (q _) (q _) h
      exact ⟨⟨⟨⟨⟨z1, z2⟩, z3⟩, z4⟩, z5⟩, z6⟩
theorem like_acc (xs : List Int) (p q : Int) : likeB xs p q = accB xs p q := by
  unfold likeB accB; rw [em_wishes, em_wishes]
end Mine
end

section
open PySem PySem.W PyProof.Rows PySem.SeqAt
set_option maxRecDepth 100000
namespace Mine

/-! ## The lines as ranks -/
theorem lex_cmp (ls rs : List Int) : ∀ ks : List (Int × Int), (∀ k ∈ ks, k.2 = 1 ∨ k.2 = -1) →
    decide (0 < (cmpO ls rs ks).getD 0) = lexLt (ks.map fun k => k.2 * rs.getD k.1.toNat 0) (ks.map fun k => k.2 * ls.getD k.1.toNat 0)
  | [], _ => rfl
  | k :: ks, h => by
    have ih := lex_cmp ls rs ks fun x hx => h x (.tail _ hx)
    have hk := h k (.head _)
    rw [cmpO, List.map_cons, List.map_cons, lexLt]
    generalize ls.getD k.1.toNat 0 = a
    generalize rs.getD k.1.toNat 0 = b
    rcases Int.lt_trichotomy a b with l | l | l
    · rw [if_pos (decide_eq_true l), Option.getD_some, if_neg (by rw [beq_iff_eq]; rcases hk with e | e <;> rw [e] <;> omega)]
      rcases hk with e | e <;> rw [e] <;> simp <;> omega
    · subst l
      rw [if_neg (by simp), if_neg (by simp), if_pos (by simp), ih]
    · rw [if_neg (by simp; omega), if_pos (decide_eq_true l), Option.getD_some, if_neg (by rw [beq_iff_eq]; rcases hk with e | e <;> rw [e] <;> omega)]
      rcases hk with e | e <;> rw [e] <;> simp <;> omega
theorem norm_nn {q : Int} (h : 0 ≤ q) : norm q = q := by unfold norm; rw [if_neg (by omega)]
theorem rk_last {xs : List Int} {p a b : Int} (h : rk xs p a = rk xs p b) : a = b := by
  unfold rk keysOf rowOf at h
  simp only [List.map_cons, List.map_nil, List.cons.injEq, and_true] at h
  have h3 : wayS (dr xs p) 512 * a = wayS (dr xs p) 512 * b := h.2.2
  rcases fmod2 ((dr xs p).fdiv 512) with e | e <;> simp only [wayS, e] at h3 <;> omega
theorem cmp_pl (xs : List Int) {p a b : Int} (ha : 0 ≤ a) (hb : 0 ≤ b) : decide (0 < cmpQ xs p a b) = pl xs p b a := by
  unfold cmpQ rowQ
  rw [norm_nn ha, norm_nn hb, lex_cmp _ _ _ fun k hk => (keys_ok hk).2.2]
  show lexLt (rk xs p b) (rk xs p a) = _
  unfold pl lt2
  by_cases e : rk xs p b = rk xs p a
  · have := rk_last e
    subst this
    rw [lexLt_irr, if_pos (by simp), if_pos (by simp)]
  · rw [if_neg (by simpa using e)]
theorem cmp_self (xs : List Int) (p a : Int) : decide (0 < cmpQ xs p a a) = false := by
  unfold cmpQ
  rw [lex_cmp _ _ _ fun k hk => (keys_ok hk).2.2, lexLt_irr]

theorem pl_tri (xs : List Int) (p a b : Int) (h : a ≠ b) : pl xs p b a = !pl xs p a b := lt2_tri _ _ fun z => h (congrArg Prod.snd z)
theorem pl_tr (xs : List Int) (p a b c : Int) (h1 : pl xs p a b = true) (h2 : pl xs p b c = true) : pl xs p a c = true := lt2_tr _ _ _ h1 h2
theorem pl_irr (xs : List Int) (p a : Int) : pl xs p a a = false := lt2_irr _

theorem idx_lt {lt : Int → Int → Bool} (hirr : ∀ a, lt a a = false) : ∀ {l : List Int}, l.Pairwise (fun a b => lt a b = true) → ∀ {a b : Int}, a ∈ l → b ∈ l → lt a b = true → lt b a = false → l.idxOf a < l.idxOf b
  | [], _, _, _, h, _, _, _ => by cases h
  | x :: l, hp, a, b, ha, hb, h, h' => by
    obtain ⟨h1, h2⟩ := List.pairwise_cons.mp hp
    rw [List.idxOf_cons, List.idxOf_cons]
    by_cases ea : x = a
    · subst ea
      have hne : x ≠ b := fun z => by rw [z, hirr] at h; cases h
      rw [show (x == x) = true by simp, show (x == b) = false by simpa using hne]
      simp
    · have ha' : a ∈ l := by
        rcases List.mem_cons.mp ha with z | z
        · exact (ea z.symm).elim
        · exact z
      by_cases eb : x = b
      · subst eb
        rw [h1 a ha'] at h'; cases h'
      · have hb' : b ∈ l := by
          rcases List.mem_cons.mp hb with z | z
          · exact (eb z.symm).elim
          · exact z
        rw [show (x == a) = false by simpa using ea, show (x == b) = false by simpa using eb]
        have := idx_lt hirr h2 ha' hb' h h'
        simp only [cond_false]; omega
theorem idx_inj {l : List Int} {a b : Int} (ha : a ∈ l) (hb : b ∈ l) (h : l.idxOf a = l.idxOf b) : a = b := by
  have h1 := List.getElem_idxOf (List.idxOf_lt_length_of_mem ha)
  have h2 := List.getElem_idxOf (List.idxOf_lt_length_of_mem hb)
  rw [← h1, ← h2]; simp only [h]

noncomputable def accP (xs : List Int) (p q : Int) : Prop := ((0 ≤ p ∧ p ≤ 2 ∧ 3 ≤ q ∧ q ≤ 5) ∨ (0 ≤ q ∧ q ≤ 2 ∧ 3 ≤ p ∧ p ≤ 5)) ∧ accB xs p q = true
noncomputable def rkN (xs : List Int) (p q : Int) : Nat := (at' (lns xs) p).idxOf q
theorem at_lns (xs : List Int) {p : Int} (h0 : 0 ≤ p) (h5 : p ≤ 5) : at' (lns xs) p = lineOf xs p (os3 p) := by
  rcases six h0 h5 with rfl | rfl | rfl | rfl | rfl | rfl <;> rfl
theorem mem_os3 {p q : Int} (h0 : 0 ≤ p) (h5 : p ≤ 5) : q ∈ os3 p ↔ (0 ≤ p ∧ p ≤ 2 ∧ 3 ≤ q ∧ q ≤ 5) ∨ (0 ≤ q ∧ q ≤ 2 ∧ 3 ≤ p ∧ p ≤ 5) := by
  unfold os3
  split
  · next h => exact m345.trans ⟨fun e => .inl ⟨h0, by omega, e⟩, fun e => e.elim (fun e => e.2.2) fun e => absurd e.2.2.1 (by omega)⟩
  · next h => exact m012.trans ⟨fun e => .inr ⟨e.1, e.2, by omega, h5⟩, fun e => e.elim (fun e => absurd e.2.1 (by omega)) fun e => ⟨e.1, e.2.1⟩⟩
theorem os3_nd (p : Int) : (os3 p).Nodup := by unfold os3; split <;> decide
theorem mem_sort (xs : List Int) {p q : Int} (h0 : 0 ≤ p) (h5 : p ≤ 5) : q ∈ isort (pl xs p) ((os3 p).filter (accB xs p)) ↔ accP xs p q := by
  rw [(isort_perm _ _).mem_iff, List.mem_filter, mem_os3 h0 h5]; rfl
theorem mem_line (xs : List Int) {p q : Int} (h0 : 0 ≤ p) (h5 : p ≤ 5) : q ∈ at' (lns xs) p ↔ q = -1 ∨ accP xs p q := by
  rw [at_lns xs h0 h5, lineOf, List.mem_append, mem_sort xs h0 h5, List.mem_singleton]; exact or_comm
theorem accP.pr {xs : List Int} {p q : Int} (h : accP xs p q) : 0 ≤ p ∧ p ≤ 5 ∧ 0 ≤ q ∧ q ≤ 5 := by have := h.1; omega
theorem accP.symm {xs : List Int} {p q : Int} (h : accP xs p q) : accP xs q p := ⟨h.1.symm, by
  have := h.2
  unfold accB at this ⊢
  rw [Bool.and_comm]; exact this⟩
theorem sort_pw (xs : List Int) (p : Int) : (isort (pl xs p) ((os3 p).filter (accB xs p))).Pairwise (fun a b => pl xs p a b = true) :=
  isort_sorted (pl_tr xs p) (pl_tri xs p) _ ((os3_nd p).filter _)
theorem rkN_eq (xs : List Int) {p q : Int} (h : accP xs p q) : rkN xs p q = (isort (pl xs p) ((os3 p).filter (accB xs p))).idxOf q := by
  have g := h.pr
  unfold rkN
  rw [at_lns xs g.1 g.2.1, lineOf, List.idxOf_append, if_pos ((mem_sort xs g.1 g.2.1).mpr h)]
theorem rkN_last (xs : List Int) {p : Int} (h0 : 0 ≤ p) (h5 : p ≤ 5) : rkN xs p (-1) = (isort (pl xs p) ((os3 p).filter (accB xs p))).length := by
  unfold rkN
  rw [at_lns xs h0 h5, lineOf, List.idxOf_append, if_neg]
  · simp
  · rw [mem_sort xs h0 h5]
    intro z; have := z.pr; omega
theorem mkt (xs : List Int) : Mkt (accP xs) (rkN xs) where
  sym := accP.symm
  rg := And.left
  inj h1 h2 e := by
    rw [rkN_eq xs h1, rkN_eq xs h2] at e
    have g := h1.pr
    exact idx_inj ((mem_sort xs g.1 g.2.1).mpr h1) ((mem_sort xs g.1 g.2.1).mpr h2) e
  last h := by
    have g := h.pr
    rw [rkN_eq xs h, rkN_last xs g.1 g.2.1]
    exact List.idxOf_lt_length_of_mem ((mem_sort xs g.1 g.2.1).mpr h)
theorem pl_rk (xs : List Int) {p a b : Int} (ha : accP xs p a) (hb : accP xs p b) : pl xs p a b = decide (rkN xs p a < rkN xs p b) := by
  have g := ha.pr
  have ma := (mem_sort xs g.1 g.2.1).mpr ha
  have mb := (mem_sort xs g.1 g.2.1).mpr hb
  rw [rkN_eq xs ha, rkN_eq xs hb]
  by_cases e : a = b
  · subst e; rw [pl_irr]; simp
  · have t := pl_tri xs p a b e
    cases h : pl xs p a b with
    | true =>
      rw [h] at t
      exact (decide_eq_true (idx_lt (pl_irr xs p) (sort_pw xs p) ma mb h t)).symm
    | false =>
      rw [h] at t
      have := idx_lt (pl_irr xs p) (sort_pw xs p) mb ma t h
      exact (decide_eq_false (by omega)).symm
theorem best_eq (xs : List Int) (p : Int) (ss : List Int) (hs : ∀ q ∈ ss, accP xs p q) (a : Int) (ha : a ∈ ss) : bestB xs p ss a = true ↔ ∀ b ∈ ss, rkN xs p a ≤ rkN xs p b := by
  unfold bestB
  rw [beq_iff_eq, List.filter_eq_nil_iff]
  have : ∀ b ∈ ss, (¬ decide (0 < cmpQ xs p a b) = true ↔ rkN xs p a ≤ rkN xs p b) := fun b hb => by
    rw [cmp_pl xs (hs a ha).pr.2.2.1 (hs b hb).pr.2.2.1, pl_rk xs (hs b hb) (hs a ha), decide_eq_true_iff]; omega
  constructor
  · exact fun h b hb => (this b hb).mp (h b hb)
  · exact fun h b hb => (this b hb).mpr (h b hb)
end Mine
end

section
open PySem PySem.W PyProof.Rows PySem.SeqAt
set_option maxRecDepth 100000
namespace Mine

/-! ## Rows and matches -/
noncomputable def funOf (row : List Int) (p : Int) : Int := if p ≤ 2 then row.getD p.toNat 0 else holderOf row p
theorem mem_step {ls rows : List (List Int)} {m : Int} {r : List Int} : r ∈ msStep ls rows m ↔ ∃ row ∈ rows, ∃ w ∈ at' ls m, (w = -1 ∨ w ∉ row) ∧ r = row ++ [w] := by
  simp only [msStep, List.mem_flatMap, List.mem_map, List.mem_filter, Bool.or_eq_true, beq_iff_eq, Bool.not_eq_true', List.any_eq_false]
  constructor
  · rintro ⟨row, h1, w, ⟨h2, h3⟩, rfl⟩
    exact ⟨row, h1, w, h2, h3.imp id fun h z => h w z rfl, rfl⟩
  · rintro ⟨row, h1, w, h2, h3, rfl⟩
    exact ⟨row, h1, w, ⟨h2, h3.imp id fun h x hx z => h (z ▸ hx)⟩, rfl⟩
theorem mem_ms {ls : List (List Int)} {r : List Int} : r ∈ msOf ls ↔ ∃ a b c : Int, r = [a, b, c] ∧ a ∈ at' ls 0 ∧ b ∈ at' ls 1 ∧ c ∈ at' ls 2 ∧ (b = -1 ∨ b ≠ a) ∧ (c = -1 ∨ (c ≠ a ∧ c ≠ b)) := by
  show r ∈ msStep ls (msStep ls (msStep ls [[]] 0) 1) 2 ↔ _
  rw [mem_step]
  constructor
  · rintro ⟨r2, h2, c, hc, hc', rfl⟩
    obtain ⟨r1, h1, b, hb, hb', rfl⟩ := mem_step.mp h2
    obtain ⟨r0, h0, a, ha, ha', rfl⟩ := mem_step.mp h1
    rw [List.mem_singleton] at h0
    subst h0
    exact ⟨a, b, c, rfl, ha, hb, hc, by simpa using hb', by simpa using hc'⟩
  · rintro ⟨a, b, c, rfl, ha, hb, hc, hb', hc'⟩
    exact ⟨[a, b], mem_step.mpr ⟨[a], mem_step.mpr ⟨[], .head _, a, ha, .inr (by simp), rfl⟩, b, hb, by simpa using hb', rfl⟩, c, hc, by simpa using hc', rfl⟩
theorem ms_z (ls : List (List Int)) (hz : ∀ q, (at' ls q).length ≤ 4) : ∀ (l : List Int) (rows : List (List Int)), (l.foldl (msStep ls) rows).length ≤ rows.length * 4 ^ l.length
  | [], rows => by simp
  | m :: l, rows => by
    have h1 := ms_z ls hz l (msStep ls rows m)
    have h2 : ∀ rows : List (List Int), (msStep ls rows m).length ≤ rows.length * 4 := by
      intro rows
      induction rows with
      | nil => simp [msStep]
      | cons r rows ih =>
        have e : msStep ls (r :: rows) m = (((at' ls m).filter fun w => w == -1 || !(r.any (· == w))).map fun w => r ++ [w]) ++ msStep ls rows m := by simp [msStep]
        rw [e, List.length_append, List.length_map, List.length_cons]
        have := List.length_filter_le (fun w => w == -1 || !(r.any (· == w))) (at' ls m)
        have := hz m
        omega
    rw [List.foldl_cons, List.length_cons, Nat.pow_succ]
    refine Nat.le_trans h1 ?_
    have := Nat.mul_le_mul_right (4 ^ l.length) (h2 rows)
    rw [Nat.mul_assoc, Nat.mul_comm 4] at this
    exact this

theorem man {xs : List Int} {m w : Int} (h0 : 0 ≤ m) (h2 : m ≤ 2) (h : w ∈ at' (lns xs) m) : w = -1 ∨ (accP xs m w ∧ 3 ≤ w ∧ w ≤ 5) := by
  rcases (mem_line xs h0 (by omega)).mp h with h | h
  · exact .inl h
  · exact .inr ⟨h, by have := h.1; omega⟩

/-- a row of the matches, in plain terms -/
structure Row (xs : List Int) (row : List Int) : Prop where
  len : row.length = 3
  mem : ∀ m : Int, 0 ≤ m → m ≤ 2 → row.getD m.toNat 0 ∈ at' (lns xs) m
  one : ∀ m m' : Int, 0 ≤ m → m ≤ 2 → 0 ≤ m' → m' ≤ 2 → row.getD m.toNat 0 = row.getD m'.toNat 0 → row.getD m.toNat 0 = -1 ∨ m = m'
theorem Row.of_ms {xs : List Int} {row : List Int} (h : row ∈ msOf (lns xs)) : Row xs row := by
  obtain ⟨a, b, c, rfl, ha, hb, hc, h1, h2⟩ := mem_ms.mp h
  have a1 : a = b → a = -1 := fun e => h1.elim (fun z => e.trans z) fun n => (n e.symm).elim
  have a2 : a = c → a = -1 := fun e => h2.elim (fun z => e.trans z) fun n => (n.1 e.symm).elim
  have a3 : b = c → b = -1 := fun e => h2.elim (fun z => e.trans z) fun n => (n.2 e.symm).elim
  refine ⟨rfl, fun m h0 h2 => ?_, fun m m' h0 h2 k0 k2 => ?_⟩
  · rcases three h0 h2 with rfl | rfl | rfl <;> assumption
  · rcases three h0 h2 with rfl | rfl | rfl <;> rcases three k0 k2 with rfl | rfl | rfl
    · exact fun _ => .inr rfl
    · exact fun e => .inl (a1 e)
    · exact fun e => .inl (a2 e)
    · exact fun e => .inl (e.trans (a1 e.symm))
    · exact fun _ => .inr rfl
    · exact fun e => .inl (a3 e)
    · exact fun e => .inl (e.trans (a2 e.symm))
    · exact fun e => .inl (e.trans (a3 e.symm))
    · exact fun _ => .inr rfl
theorem Row.is {xs : List Int} {row : List Int} (R : Row xs row) : row = [row.getD 0 0, row.getD 1 0, row.getD 2 0] :=
  len3' (P := fun row => row = [row.getD 0 0, row.getD 1 0, row.getD 2 0]) R.len fun a b c => rfl
theorem Row.ms {xs : List Int} {row : List Int} (R : Row xs row) : row ∈ msOf (lns xs) := by
  have h01 := R.one 1 0 (by omega) (by omega) (by omega) (by omega)
  have h02 := R.one 2 0 (by omega) (by omega) (by omega) (by omega)
  have h12 := R.one 2 1 (by omega) (by omega) (by omega) (by omega)
  have m0 := R.mem 0 (by omega) (by omega)
  have m1 := R.mem 1 (by omega) (by omega)
  have m2 := R.mem 2 (by omega) (by omega)
  refine mem_ms.mpr ⟨_, _, _, R.is, m0, m1, m2, ?_, ?_⟩
  · by_cases e : row.getD 1 0 = row.getD 0 0
    · rcases h01 e with h | h
      · exact .inl h
      · omega
    · exact .inr e
  · by_cases e : row.getD 2 0 = row.getD 0 0
    · rcases h02 e with h | h
      · exact .inl h
      · omega
    · by_cases e' : row.getD 2 0 = row.getD 1 0
      · rcases h12 e' with h | h
        · exact .inl h
        · omega
      · exact .inr ⟨e, e'⟩
theorem Row.men {xs : List Int} {row : List Int} (R : Row xs row) {m : Int} (h0 : 0 ≤ m) (h2 : m ≤ 2) : row.getD m.toNat 0 = -1 ∨ (accP xs m (row.getD m.toNat 0) ∧ 3 ≤ row.getD m.toNat 0 ∧ row.getD m.toNat 0 ≤ 5) := man h0 h2 (R.mem m h0 h2)
theorem Row.hold {xs : List Int} {row : List Int} (R : Row xs row) {m w : Int} (h0 : 0 ≤ m) (h2 : m ≤ 2) (e : row.getD m.toNat 0 = w) (hw : w ≠ -1) : holderOf row w = m := by
  have hm : w ∈ row := by
    rw [← e, List.getD_eq_getElem?_getD, List.getElem?_eq_getElem (by rw [R.len]; omega)]; exact List.getElem_mem _
  have hl := List.idxOf_lt_length_of_mem hm
  have hg := List.getElem_idxOf hl
  rw [R.len] at hl
  unfold holderOf
  rw [if_pos (List.any_eq_true.mpr ⟨w, hm, by simp⟩)]
  rcases R.one (row.idxOf w : Nat) m (by omega) (by omega) h0 h2 (by
    rw [e, Int.toNat_natCast, List.getD_eq_getElem?_getD, List.getElem?_eq_getElem (by rw [R.len]; exact hl)]; exact hg) with h | h
  · rw [Int.toNat_natCast, List.getD_eq_getElem?_getD, List.getElem?_eq_getElem (by rw [R.len]; exact hl)] at h
    exact (hw (hg.symm.trans h)).elim
  · exact h
theorem Row.held {xs : List Int} {row : List Int} (R : Row xs row) (w : Int) : (holderOf row w = -1 ∧ ∀ m : Int, 0 ≤ m → m ≤ 2 → row.getD m.toNat 0 ≠ w) ∨ (0 ≤ holderOf row w ∧ holderOf row w ≤ 2 ∧ row.getD (holderOf row w).toNat 0 = w) := by
  by_cases hm : w ∈ row
  · right
    have hl := List.idxOf_lt_length_of_mem hm
    have hg := List.getElem_idxOf hl
    have hl' := hl
    rw [R.len] at hl'
    unfold holderOf
    rw [if_pos (List.any_eq_true.mpr ⟨w, hm, by simp⟩)]
    refine ⟨by omega, by omega, ?_⟩
    rw [Int.toNat_natCast, List.getD_eq_getElem?_getD, List.getElem?_eq_getElem hl]; exact hg
  · left
    unfold holderOf
    rw [if_neg (fun z => by
      obtain ⟨x, hx, e⟩ := List.any_eq_true.mp z
      rw [beq_iff_eq] at e
      exact hm (e ▸ hx))]
    refine ⟨rfl, fun m h0 h2 e => hm ?_⟩
    rw [← e, List.getD_eq_getElem?_getD, List.getElem?_eq_getElem (by rw [R.len]; omega)]; exact List.getElem_mem _
theorem fun_lo {row : List Int} {m : Int} (h : m ≤ 2) : funOf row m = row.getD m.toNat 0 := by unfold funOf; rw [if_pos h]
theorem fun_hi {row : List Int} {m : Int} (h : 3 ≤ m) : funOf row m = holderOf row m := by unfold funOf; rw [if_neg (by omega)]
theorem Row.fits {xs : List Int} {row : List Int} (R : Row xs row) : Fits (accP xs) (funOf row) where
  ok p h0 h5 := by
    by_cases h : p ≤ 2
    · rw [fun_lo h]
      rcases R.men h0 h with e | ⟨a, w3, w5⟩
      · exact .inl e
      · refine .inr ⟨a, ?_⟩
        rw [fun_hi w3]
        exact R.hold h0 h rfl (by omega)
    · rw [fun_hi (show (3 : Int) ≤ p by omega)]
      rcases R.held p with ⟨e, _⟩ | ⟨k0, k2, e⟩
      · exact .inl e
      · refine .inr ⟨?_, by rw [fun_lo k2]; exact e⟩
        rcases R.men k0 k2 with z | ⟨a, _⟩
        · omega
        · rw [e] at a; exact a.symm
theorem Row.rival {xs : List Int} {row : List Int} (R : Row xs row) {m w : Int} (h0 : 0 ≤ m) (h2 : m ≤ 2) : w ∈ rivals (lns xs) row m ↔ accP xs m w ∧ rkN xs m w < rkN xs m (funOf row m) := by
  rw [fun_lo h2]
  unfold rivals
  have hle : ∀ q ∈ at' (lns xs) m, rkN xs m q ≤ rkN xs m (-1) := fun q hq => by
    rcases man h0 h2 hq with rfl | ⟨a, _⟩
    · exact Nat.le_refl _
    · exact Nat.le_of_lt ((mkt xs).last a)
  have ht : ∀ (l : List Int) (k : Nat), w ∈ l.take k ↔ w ∈ l ∧ l.idxOf w < k := by
    intro l
    induction l with
    | nil => simp
    | cons x l ih =>
      intro k
      cases k with
      | zero => simp
      | succ k =>
        rw [List.take_succ_cons, List.mem_cons, List.mem_cons, ih, List.idxOf_cons]
        by_cases e : w = x
        · subst e; simp
        · rw [show (x == w) = false by simpa using fun z => e z.symm]
          simp [e]
  rw [ht, mem_line xs h0 (by omega)]
  have hl := hle _ (R.mem m h0 h2)
  constructor
  · rintro ⟨h | h, l⟩
    · subst h
      exact absurd (show rkN xs m (-1) < rkN xs m (row.getD m.toNat 0) from l) (by omega)
    · exact ⟨h, l⟩
  · rintro ⟨h, l⟩
    exact ⟨.inr h, l⟩
theorem Row.firm {xs : List Int} {row : List Int} (R : Row xs row) : firmB (lns xs) row = true ↔ ∀ m w : Int, 0 ≤ m → m ≤ 2 → accP xs m w → rkN xs m w < rkN xs m (funOf row m) → rkN xs w m < rkN xs w (funOf row w) → False := by
  have hA : ∀ m : Int, 0 ≤ m → m ≤ 2 → (firmAt (lns xs) row m = true ↔ ∀ w : Int, accP xs m w → rkN xs m w < rkN xs m (funOf row m) → rkN xs w m < rkN xs w (funOf row w) → False) := by
    intro m h0 h2
    unfold firmAt
    rw [List.all_eq_true]
    constructor
    · intro h w a l1 l2
      have := h w ((R.rival h0 h2).mpr ⟨a, l1⟩)
      rw [fun_hi (show (3 : Int) ≤ w by have := a.1; omega)] at l2
      rw [Bool.not_eq_true', decide_eq_false_iff_not] at this
      exact this (Int.ofNat_lt.mpr l2)
    · intro h w hw
      obtain ⟨a, l1⟩ := (R.rival h0 h2).mp hw
      rw [Bool.not_eq_true', decide_eq_false_iff_not]
      intro l2
      refine h w a l1 ?_
      rw [fun_hi (show (3 : Int) ≤ w by have := a.1; omega)]
      exact Int.ofNat_lt.mp l2
  unfold firmB
  simp only [List.all_cons, List.all_nil, Bool.and_true, Bool.and_eq_true, hA 0 (by omega) (by omega), hA 1 (by omega) (by omega), hA 2 (by omega) (by omega)]
  constructor
  · rintro ⟨a, b, c⟩ m w h0 h2
    rcases three h0 h2 with rfl | rfl | rfl
    · exact a w
    · exact b w
    · exact c w
  · intro h
    exact ⟨fun w => h 0 w (by omega) (by omega), fun w => h 1 w (by omega) (by omega), fun w => h 2 w (by omega) (by omega)⟩
theorem fm_row {xs : List Int} {row : List Int} (h : row ∈ fmOf (lns xs)) : Row xs row := .of_ms (List.mem_filter.mp h).1
theorem fm_firm {xs : List Int} {row : List Int} (h : row ∈ fmOf (lns xs)) : Firm (accP xs) (rkN xs) (funOf row) where
  ok := (fm_row h).fits.ok
  st p q a l1 l2 := by
    have hf := (fm_row h).firm.mp (List.mem_filter.mp h).2
    rcases a.1 with ⟨p0, p2, _⟩ | ⟨q0, q2, _⟩
    · exact hf p q p0 p2 a l1 l2
    · exact hf q p q0 q2 a.symm l2 l1
noncomputable def rowF (μ : Int → Int) : List Int := ([0, 1, 2] : List Int).map μ
theorem rowF_get (μ : Int → Int) {m : Int} (h0 : 0 ≤ m) (h2 : m ≤ 2) : (rowF μ).getD m.toNat 0 = μ m := by
  rcases three h0 h2 with rfl | rfl | rfl <;> rfl
theorem fits_row {xs : List Int} {μ : Int → Int} (F : Fits (accP xs) μ) : Row xs (rowF μ) where
  len := rfl
  mem m h0 h2 := by
    rw [rowF_get μ h0 h2, mem_line xs h0 (by omega)]
    exact (F.ok m h0 (by omega)).imp id And.left
  one m m' h0 h2 k0 k2 e := by
    rw [rowF_get μ h0 h2] at e ⊢
    rw [rowF_get μ k0 k2] at e
    rcases F.ok m h0 (by omega) with z | ⟨a, z⟩
    · exact .inl z
    · right
      rcases F.ok m' k0 (by omega) with z' | ⟨_, z'⟩
      · rw [e, z'] at a; have := a.pr; omega
      · rw [e, z'] at z; exact z.symm
theorem fits_fun {xs : List Int} {μ : Int → Int} (F : Fits (accP xs) μ) {p : Int} (h0 : 0 ≤ p) (h5 : p ≤ 5) : funOf (rowF μ) p = μ p := by
  by_cases h : p ≤ 2
  · rw [fun_lo h, rowF_get μ h0 h]
  · rw [fun_hi (show (3 : Int) ≤ p by omega)]
    rcases F.ok p h0 h5 with z | ⟨a, z⟩
    · rcases (fits_row F).held p with ⟨e, _⟩ | ⟨k0, k2, e⟩
      · rw [e, z]
      · rw [rowF_get μ k0 k2] at e
        rcases F.ok _ k0 (by omega) with y | ⟨_, y⟩
        · omega
        · rw [e, z] at y; omega
    · have g : 0 ≤ μ p ∧ μ p ≤ 2 := by have := a.1; omega
      exact (fits_row F).hold g.1 g.2 ((rowF_get μ g.1 g.2).trans z) (by omega)
theorem firm_fm {xs : List Int} {μ : Int → Int} (F : Firm (accP xs) (rkN xs) μ) : rowF μ ∈ fmOf (lns xs) := by
  have R := fits_row F.toFits
  refine List.mem_filter.mpr ⟨R.ms, R.firm.mpr fun m w h0 h2 a l1 l2 => ?_⟩
  have g := a.pr
  rw [fits_fun F.toFits h0 (by omega)] at l1
  rw [fits_fun F.toFits g.2.2.1 g.2.2.2] at l2
  exact F.st m w a l1 l2
end Mine
end

section
open PySem PySem.W PyProof.Rows PySem.SeqAt
set_option maxRecDepth 100000
namespace Mine

/-! ## The end of asking is a firm match, best for the askers -/
noncomputable def askO (held : List (List Int)) (p : Int) : Int := (((os3 p).filter fun w => at' held w == [p]) ++ [-1]).getD 0 0
noncomputable def heldO (held : List (List Int)) (p : Int) : Int := (at' held p ++ [-1]).getD 0 0
noncomputable def fin (S : Bool) (held : List (List Int)) (p : Int) : Int := if decide (p ≤ 2) = S then askO held p else heldO held p
theorem on_os3 {S : Bool} {p q : Int} (h : On S p) : q ∈ os3 p ↔ On (!S) q := by
  unfold os3
  cases S
  · rw [if_neg (by have := h.1; omega)]; exact m012
  · rw [if_pos (by have := h.2; omega)]; exact m345
theorem ask_spec {S : Bool} {held : List (List Int)} {p : Int} (h : On S p) : (askO held p = -1 ∧ ∀ b, On (!S) b → at' held b ≠ [p]) ∨ (On (!S) (askO held p) ∧ at' held (askO held p) = [p]) := by
  unfold askO
  generalize hl : ((os3 p).filter fun w => at' held w == [p]) = l
  match l with
  | [] =>
    refine .inl ⟨rfl, fun b hb e => ?_⟩
    have := (List.filter_eq_nil_iff.mp hl) b ((on_os3 h).mpr hb)
    rw [beq_iff_eq] at this
    exact this e
  | b :: l =>
    right
    have hm : b ∈ ((os3 p).filter fun w => at' held w == [p]) := by rw [hl]; exact .head _
    obtain ⟨h1, h2⟩ := List.mem_filter.mp hm
    exact ⟨(on_os3 h).mp h1, by rw [beq_iff_eq] at h2; exact h2⟩
theorem fin_ask {S : Bool} {held : List (List Int)} {p : Int} (h : On S p) : fin S held p = askO held p := by unfold fin; rw [if_pos h.dec]
theorem fin_held {S : Bool} {held : List (List Int)} {p : Int} (h : On (!S) p) : fin S held p = heldO held p := by unfold fin; rw [if_neg h.dec']

section
variable {xs : List Int} {S : Bool} {s : St} (I : AInv (accP xs) (rkN xs) S s) (hf : s.free = [])
include I

theorem fin_of {a b : Int} (ha : On S a) (hb : On (!S) b) (e : at' s.held b = [a]) : fin S s.held a = b ∧ fin S s.held b = a := by
  constructor
  · rw [fin_ask ha]
    rcases ask_spec (held := s.held) ha with ⟨_, h⟩ | ⟨h1, h2⟩
    · exact (h b hb e).elim
    · exact I.one a _ _ h1 hb h2 e
  · rw [fin_held hb]; unfold heldO; rw [e]; rfl
theorem fin_side {b : Int} (hb : On (!S) b) : (at' s.held b = [] ∧ fin S s.held b = -1) ∨ ∃ a, On S a ∧ at' s.held b = [a] ∧ accP xs a b ∧ b ∉ at' s.left a ∧ fin S s.held b = a ∧ fin S s.held a = b := by
  rcases I.hd b hb with h | ⟨a, h1, h2, h3, _⟩
  · left
    refine ⟨h, ?_⟩
    rw [fin_held hb]; unfold heldO; rw [h]; rfl
  · have ha : On S a := (hb.acc (mkt xs) h2.symm).nn
    obtain ⟨e1, e2⟩ := fin_of I ha hb h1
    exact .inr ⟨a, ha, h1, h2, h3, e2, e1⟩
include hf
/-- an asker's partner; whoever is better has refused -/
theorem fin_asker {a : Int} (ha : On S a) : (fin S s.held a = -1 ∨ (accP xs a (fin S s.held a) ∧ fin S s.held (fin S s.held a) = a)) ∧
    ∀ b, accP xs a b → rkN xs a b < rkN xs a (fin S s.held a) → b ∉ at' s.left a ∧ at' s.held b ≠ [a] := by
  have hnf : a ∉ s.free := by rw [hf]; simp
  rcases ask_spec (held := s.held) ha with ⟨h1, h2⟩ | ⟨h1, h2⟩
  · rw [fin_ask ha, h1]
    refine ⟨.inl rfl, fun b hab _ => ⟨?_, h2 b (ha.acc (mkt xs) hab)⟩⟩
    rcases I.out a ha hnf with h | ⟨b', hb', h⟩
    · rw [h]; simp
    · exact (h2 b' hb' h).elim
  · rw [fin_ask ha]
    generalize askO s.held a = c at h1 h2
    rcases I.hd c h1 with h | ⟨a', h3, h4, h5, _⟩
    · rw [h] at h2; cases h2
    · rw [h2] at h3
      injection h3 with h3
      subst h3
      refine ⟨.inr ⟨h4, (fin_of I ha h1 h2).2⟩, fun b hab hl => ⟨fun hm => ?_, fun e => ?_⟩⟩
      · have := I.ord a b c ha hab h4 hm h5; omega
      · have := I.one a b c (ha.acc (mkt xs) hab) h1 e h2
        rw [this] at hl; omega
theorem fin_firm : Firm (accP xs) (rkN xs) (fin S s.held) where
  ok p h0 h5 := by
    rcases On.tot h0 h5 S with o | o
    · exact (fin_asker I hf o).1
    · rcases fin_side I o with ⟨_, e⟩ | ⟨a, _, _, h, _, e1, e2⟩
      · exact .inl e
      · rw [e1, e2]; exact .inr ⟨h.symm, rfl⟩
  st := by
    have key : ∀ p q, On S p → accP xs p q → rkN xs p q < rkN xs p (fin S s.held p) → rkN xs q p < rkN xs q (fin S s.held q) → False := by
      intro p q hp a l1 l2
      have hq := hp.acc (mkt xs) a
      obtain ⟨h1, h2⟩ := (fin_asker I hf hp).2 q a l1
      obtain ⟨⟨a', h3, h4⟩, _⟩ := I.ref p q hp a h1 h2
      rcases fin_side I hq with ⟨e, _⟩ | ⟨a2, _, e, _, _, e1, _⟩
      · rw [e] at h3; cases h3
      · rw [e] at h3
        injection h3 with h3
        rw [e1, h3] at l2; omega
    intro p q a l1 l2
    rcases On.tot a.pr.1 a.pr.2.1 S with o | o
    · exact key p q o a l1 l2
    · exact key q p (o.acc (mkt xs) a).nn a.symm l2 l1
theorem fin_best {ν : Int → Int} (N : Firm (accP xs) (rkN xs) ν) {a : Int} (ha : On S a) : rkN xs a (fin S s.held a) ≤ rkN xs a (ν a) := by
  apply Nat.le_of_not_lt
  intro l
  have g := ha.rg
  rcases N.ok a g.1 g.2 with e | ⟨h, e⟩
  · rw [e] at l
    rcases (fin_asker I hf ha).1 with z | ⟨z, _⟩
    · rw [z] at l; omega
    · have := (mkt xs).last z; omega
  · obtain ⟨h1, h2⟩ := (fin_asker I hf ha).2 _ h l
    exact (I.ref a _ ha h h1 h2).2 ν N rfl
end

/-- the asking begins well -/
theorem like_eq (xs : List Int) (p : Int) : likeB xs p = accB xs p := funext (like_acc xs p)
theorem at_nil (b : Int) : at' [[], [], [], [], [], []] b = [] := by
  unfold at'
  match b.toNat with
  | 0 | 1 | 2 | 3 | 4 | 5 => rfl
  | n + 6 => rfl
theorem mem_lk6 {xs : List Int} {p q : Int} (h0 : 0 ≤ p) (h5 : p ≤ 5) : (q ∈ at' (lk6 xs) p ↔ accP xs p q) ∧ (at' (lk6 xs) p).Nodup := by
  have lo : ∀ m w : Int, 0 ≤ m → m ≤ 2 → (w ∈ ([3, 4, 5] : List Int).filter (likeB xs m) ↔ accP xs m w) := by
    intro m w h0 h2
    rw [like_eq, List.mem_filter, ← show os3 m = [3, 4, 5] by unfold os3; rw [if_pos (by omega)], mem_os3 h0 (by omega)]; rfl
  have eat : ∀ m : Int, 0 ≤ m → m ≤ 2 → at' (lk3 xs) m = ([3, 4, 5] : List Int).filter (likeB xs m) := by
    intro m h0 h2
    rcases three h0 h2 with rfl | rfl | rfl <;> rfl
  have hi : ∀ w : Int, 3 ≤ w → w ≤ 5 → (q ∈ (([0, 1, 2] : List Int).filter fun m => (at' (lk3 xs) m).any (· == w)) ↔ accP xs w q) := by
    intro w h3 h5
    rw [List.mem_filter]
    constructor
    · rintro ⟨h1, h2⟩
      have g : 0 ≤ q ∧ q ≤ 2 := m012.mp h1
      rw [eat q g.1 g.2] at h2
      obtain ⟨x, hx, e⟩ := List.any_eq_true.mp h2
      rw [beq_iff_eq] at e
      subst e
      exact ((lo q x g.1 g.2).mp hx).symm
    · intro h
      have g : 0 ≤ q ∧ q ≤ 2 := by have := h.1; omega
      refine ⟨m012.mpr g, ?_⟩
      rw [eat q g.1 g.2]
      exact List.any_eq_true.mpr ⟨w, (lo q w g.1 g.2).mpr h.symm, by simp⟩
  rcases six h0 h5 with rfl | rfl | rfl | rfl | rfl | rfl
  · exact ⟨lo 0 q (by omega) (by omega), List.Pairwise.filter _ (by decide)⟩
  · exact ⟨lo 1 q (by omega) (by omega), List.Pairwise.filter _ (by decide)⟩
  · exact ⟨lo 2 q (by omega) (by omega), List.Pairwise.filter _ (by decide)⟩
  · exact ⟨hi 3 (by omega) (by omega), List.Pairwise.filter _ (by decide)⟩
  · exact ⟨hi 4 (by omega) (by omega), List.Pairwise.filter _ (by decide)⟩
  · exact ⟨hi 5 (by omega) (by omega), List.Pairwise.filter _ (by decide)⟩
noncomputable def side (S : Bool) : List Int := if S then [0, 1, 2] else [3, 4, 5]
theorem mem_side {S : Bool} {p : Int} : p ∈ side S ↔ On S p := by
  cases S
  · exact m345
  · exact m012
theorem begin_inv (xs : List Int) (S : Bool) (turn : Int) : AInv (accP xs) (rkN xs) S ⟨lk6 xs, [[], [], [], [], [], []], side S, turn⟩ where
  l6 := rfl
  h6 := rfl
  lf a ha b hb := (mem_lk6 ha.rg.1 ha.rg.2).1.mp hb
  lnd a ha := (mem_lk6 (q := 0) ha.rg.1 ha.rg.2).2
  fr a h := mem_side.mp h
  fnd := (by cases S <;> decide : (side S).Nodup)
  hd b hb := .inl (at_nil b)
  one a b b' _ _ h _ := by rw [at_nil] at h; cases h
  out a ha h := (h (mem_side.mpr ha)).elim
  ord a b b' ha _ h _ h' := (h' ((mem_lk6 ha.rg.1 ha.rg.2).1.mpr h)).elim
  ref a b ha h h' := (h' ((mem_lk6 ha.rg.1 ha.rg.2).1.mpr h)).elim
theorem asks (xs : List Int) (S : Bool) (turn : Int) : ∃ k s, Asks xs k ⟨lk6 xs, [[], [], [], [], [], []], side S, turn⟩ s ∧ AInv (accP xs) (rkN xs) S s ∧ s.free = [] :=
  AInv.run (mkt xs) (best_eq xs) _ _ (begin_inv xs S turn) (Nat.le_refl _)
end Mine
end

section
open PySem PySem.W PyProof.Rows PySem.SeqAt
set_option maxRecDepth 100000
namespace Mine

/-! ## Rural hospitals and Conway's lattice, as the law asks them -/
theorem small_w : ∀ k : Fin 7, PyData.weight (.int ((k.val : Int) - 1)) ≤ 3 := by decide +kernel
theorem weight_ints : ∀ ns : List Int, (∀ q ∈ ns, -1 ≤ q ∧ q ≤ 5) → PyData.weightAll (ns.map PyData.int) ≤ 4 * ns.length
  | [], _ => by simp [PyData.weightAll]
  | q :: ns, h => by
    have ih := weight_ints ns fun x hx => h x (.tail _ hx)
    have hq := h q (.head _)
    have : PyData.weight (.int q) ≤ 3 := by
      have := small_w ⟨(q + 1).toNat, by omega⟩
      rwa [show (((q + 1).toNat : Nat) : Int) - 1 = q by omega] at this
    rw [List.map_cons, PyData.weightAll, List.length_cons]
    omega
theorem depth_is : ∀ ns : List Int, PyData.depthAll (ns.map PyData.int) ≤ 1
  | [] => by simp [PyData.depthAll]
  | q :: ns => by
    have ih := depth_is ns
    rw [List.map_cons, PyData.depthAll]
    have : PyData.depth (.int q) ≤ 1 := by simp [PyData.depth]
    omega
theorem lay_small {ns : List Int} (h : ∀ q ∈ ns, -1 ≤ q ∧ q ≤ 5) (hl : ns.length ≤ 100) : PyData.layable0 (DI ns) = true := by
  unfold PyData.layable0
  rw [lay_DI, Bool.true_and, Bool.and_eq_true, decide_eq_true_iff, decide_eq_true_iff]
  constructor
  · have := depth_is ns
    rw [PyData.depth]; omega
  · have := weight_ints ns h
    rw [PyData.weight]; omega

theorem line_rg {xs : List Int} {p : Int} (h0 : 0 ≤ p) (h5 : p ≤ 5) : ∀ q ∈ at' (lns xs) p, -1 ≤ q ∧ q ≤ 5 := fun q hq => by
  rcases (mem_line xs h0 h5).mp hq with rfl | h
  · omega
  · have := h.pr; omega
theorem line_z (xs : List Int) (q : Int) : (at' (lns xs) q).length ≤ 4 := by
  have h : ∀ p : Int, (lineOf xs p (os3 p)).length ≤ 4 := fun p => by
    unfold lineOf
    rw [List.length_append, (isort_perm _ _).length_eq]
    have h1 := List.length_filter_le (accB xs p) (os3 p)
    have h2 : (os3 p).length = 3 := by unfold os3; split <;> rfl
    simp; omega
  by_cases h6 : q.toNat < 6
  · have : at' (lns xs) q = at' (lns xs) (q.toNat : Int) := by unfold at'; rw [Int.toNat_natCast]
    rw [this, at_lns xs (by omega) (by omega)]
    exact h _
  · unfold at'
    rw [List.getD_eq_getElem?_getD, List.getElem?_eq_none (by rw [lns_len]; omega)]
    simp

theorem count_row {xs : List Int} {μ : Int → Int} (F : Fits (accP xs) μ) (w : Int) (hw : w ≠ -1) : (rowF μ).count w = if 3 ≤ w ∧ w ≤ 5 ∧ μ w ≠ -1 then 1 else 0 := by
  have key : ∀ m : Int, 0 ≤ m → m ≤ 2 → μ m = w → 3 ≤ w ∧ w ≤ 5 ∧ μ w = m := fun m h0 h2 e => by
    rcases F.ok m h0 (by omega) with z | ⟨a, z⟩
    · exact (hw (e.symm.trans z)).elim
    · rw [e] at a z
      have := a.1
      exact ⟨by omega, by omega, z⟩
  show List.count w [μ 0, μ 1, μ 2] = _
  simp only [List.count_cons, List.count_nil, beq_iff_eq]
  by_cases hc : 3 ≤ w ∧ w ≤ 5 ∧ μ w ≠ -1
  · rw [if_pos hc]
    rcases F.ok w (by omega) (by omega) with z | ⟨a, z⟩
    · exact (hc.2.2 z).elim
    · have g : 0 ≤ μ w ∧ μ w ≤ 2 := by have := a.1; omega
      have k0 := key 0 (by omega) (by omega)
      have k1 := key 1 (by omega) (by omega)
      have k2 := key 2 (by omega) (by omega)
      rcases three g.1 g.2 with e | e | e <;> rw [e] at z
      · rw [if_pos z, if_neg fun y => absurd (e.symm.trans (k2 y).2.2) (by decide), if_neg fun y => absurd (e.symm.trans (k1 y).2.2) (by decide)]
      · rw [if_pos z, if_neg fun y => absurd (e.symm.trans (k2 y).2.2) (by decide), if_neg fun y => absurd (e.symm.trans (k0 y).2.2) (by decide)]
      · rw [if_pos z, if_neg fun y => absurd (e.symm.trans (k1 y).2.2) (by decide), if_neg fun y => absurd (e.symm.trans (k0 y).2.2) (by decide)]
  · rw [if_neg hc]
    have no : ∀ m : Int, 0 ≤ m → m ≤ 2 → μ m ≠ w := fun m h0 h2 e => hc (by have := key m h0 h2 e; omega)
    rw [if_neg (no 0 (by omega) (by omega)), if_neg (no 1 (by omega) (by omega)), if_neg (no 2 (by omega) (by omega))]
theorem alone_iff {xs : List Int} {μ ν : Int → Int} (M : Firm (accP xs) (rkN xs) μ) (N : Firm (accP xs) (rkN xs) ν) {p : Int} (h0 : 0 ≤ p) (h5 : p ≤ 5) : μ p = -1 ↔ ν p = -1 :=
  ⟨M.alone (mkt xs) N h0 h5, N.alone (mkt xs) M h0 h5⟩
theorem alone_map {xs : List Int} {μ ν : Int → Int} (M : Firm (accP xs) (rkN xs) μ) (N : Firm (accP xs) (rkN xs) ν) : (rowF μ).map (fun w => w == -1) = (rowF ν).map (fun w => w == -1) := by
  have h : ∀ m : Int, 0 ≤ m → m ≤ 2 → (μ m == -1) = (ν m == -1) := fun m h0 h2 => by
    rw [Bool.eq_iff_iff, beq_iff_eq, beq_iff_eq]; exact alone_iff M N h0 (by omega)
  show [μ 0 == -1, μ 1 == -1, μ 2 == -1] = [ν 0 == -1, ν 1 == -1, ν 2 == -1]
  rw [h 0 (by omega) (by omega), h 1 (by omega) (by omega), h 2 (by omega) (by omega)]
theorem rural_perm {xs : List Int} {μ ν : Int → Int} (M : Firm (accP xs) (rkN xs) μ) (N : Firm (accP xs) (rkN xs) ν) : (rowF μ).Perm (rowF ν) := by
  rw [List.perm_iff_count]
  intro w
  by_cases hw : w = -1
  · subst hw
    have h := congrArg (List.count true) (alone_map M N)
    have e : ∀ l : List Int, (l.map fun w => w == -1).count true = l.count (-1) := by
      intro l
      induction l with
      | nil => rfl
      | cons a l ih => rw [List.map_cons, List.count_cons, List.count_cons, ih]; simp
    rw [e, e] at h
    exact h
  · rw [count_row M.toFits w hw, count_row N.toFits w hw]
    have : (3 ≤ w ∧ w ≤ 5 ∧ μ w ≠ -1) ↔ (3 ≤ w ∧ w ≤ 5 ∧ ν w ≠ -1) := by
      constructor
      · rintro ⟨a, b, c⟩; exact ⟨a, b, fun z => c ((alone_iff M N (by omega) b).mpr z)⟩
      · rintro ⟨a, b, c⟩; exact ⟨a, b, fun z => c ((alone_iff M N (by omega) b).mp z)⟩
    simp only [this]
theorem row_is {xs : List Int} {row : List Int} (R : Row xs row) : rowF (funOf row) = row := by
  rw [R.is]; rfl
theorem both_eq {xs : List Int} {μ ν : Int → Int} (M : Firm (accP xs) (rkN xs) μ) (N : Firm (accP xs) (rkN xs) ν) {m : Int} (h0 : 0 ≤ m) (h2 : m ≤ 2) :
    ([μ m, ν m].filter (bestB xs m [μ m, ν m])) ++ ([μ m, ν m].filter fun a => !bestB xs m [μ m, ν m] a) = [joinS (rkN xs) μ ν true m, joinS (rkN xs) μ ν false m] := by
  have e1 : joinS (rkN xs) μ ν true m = if rkN xs m (ν m) < rkN xs m (μ m) then ν m else μ m := by unfold joinS; rw [if_pos (by simpa using h2)]
  have e2 : joinS (rkN xs) μ ν false m = if rkN xs m (ν m) < rkN xs m (μ m) then μ m else ν m := by unfold joinS; rw [if_neg (by simpa using h2)]
  rw [e1, e2]
  rcases M.ok m h0 (by omega) with z | ⟨a, _⟩
  · have z' := (alone_iff M N h0 (by omega)).mp z
    rw [z, z', ite_self]
    have : bestB xs m [-1, -1] (-1) = true := by
      unfold bestB
      simp [cmp_self]
    simp [this]
  · rcases N.ok m h0 (by omega) with z' | ⟨b, _⟩
    · have z := (alone_iff M N h0 (by omega)).mpr z'
      rw [z] at a; have := a.pr; omega
    · have hs : ∀ q ∈ [μ m, ν m], accP xs m q := fun q hq => by
        simp only [List.mem_cons, List.not_mem_nil, or_false] at hq
        rcases hq with rfl | rfl <;> assumption
      have b1 := best_eq xs m [μ m, ν m] hs (μ m) (by simp)
      have b2 := best_eq xs m [μ m, ν m] hs (ν m) (by simp)
      simp only [List.mem_cons, List.not_mem_nil, or_false, forall_eq_or_imp, forall_eq, Nat.le_refl, true_and, and_true] at b1 b2
      generalize bestB xs m [μ m, ν m] = B at b1 b2
      rcases Nat.lt_trichotomy (rkN xs m (μ m)) (rkN xs m (ν m)) with l | l | l
      · have c1 : B (μ m) = true := b1.mpr (by omega)
        have c2 : B (ν m) = false := by rw [Bool.eq_false_iff]; intro z; have := b2.mp z; omega
        rw [if_neg (by omega), if_neg (by omega)]
        simp [c1, c2]
      · have e := M.same (mkt xs) N h0 (by omega) l
        have c1 : B (μ m) = true := b1.mpr (by omega)
        have c2 : B (ν m) = true := b2.mpr (by omega)
        rw [if_neg (by omega), if_neg (by omega)]
        simp [c1, c2]
      · have c1 : B (μ m) = false := by rw [Bool.eq_false_iff]; intro z; have := b1.mp z; omega
        have c2 : B (ν m) = true := b2.mpr (by omega)
        rw [if_pos l, if_pos l]
        simp [c1, c2]

theorem idx_get {l : List Int} {a : Int} (h : a ∈ l) : l[l.idxOf a]? = some a := by
  have h1 := List.idxOf_lt_length_of_mem h
  rw [List.getElem?_eq_getElem h1, List.getElem_idxOf h1]

/-! ## All facts -/
theorem facts_of (xs : List Int) (turn : Int) : ∃ s1 s2, Facts xs turn s1 s2 := by
  obtain ⟨k1, s1, A1, I1, f1⟩ := asks xs true turn
  obtain ⟨k2, s2, A2, I2, f2⟩ := asks xs false turn
  have F1 := fin_firm I1 f1
  have F2 := fin_firm I2 f2
  have em : mineOf s1.held = rowF (fin true s1.held) := by
    show [askO s1.held 0, askO s1.held 1, askO s1.held 2] = [fin true s1.held 0, fin true s1.held 1, fin true s1.held 2]
    rfl
  have ew : worstOf s2.held = rowF (fin false s2.held) := by
    show [heldO s2.held 0, heldO s2.held 1, heldO s2.held 2] = [fin false s2.held 0, fin false s2.held 1, fin false s2.held 2]
    rfl
  have pick : ∀ (μ : Int → Int), Firm (accP xs) (rkN xs) μ → ∀ m : Int, 0 ≤ m → m ≤ 2 → ((rkN xs m (μ m) : Nat) : Int) ∈ ranksAt (lns xs) m ∧ (at' (lns xs) m)[rkN xs m (μ m)]? = some (μ m) := by
    intro μ F m h0 h2
    refine ⟨List.mem_map.mpr ⟨rowF μ, firm_fm F, by rw [rowF_get μ h0 h2]; rfl⟩, idx_get ?_⟩
    have := (fits_row F.toFits).mem m h0 h2
    rwa [rowF_get μ h0 h2] at this
  have each : ∀ m : Int, 0 ≤ m → m ≤ 2 → ∀ x ∈ ranksAt (lns xs) m, ∃ ν, Firm (accP xs) (rkN xs) ν ∧ x = (rkN xs m (ν m) : Nat) := by
    intro m h0 h2 x hx
    obtain ⟨row, hr, rfl⟩ := List.mem_map.mp hx
    exact ⟨funOf row, fm_firm hr, by rw [fun_lo h2]; rfl⟩
  refine ⟨s1, s2, ?_⟩
  refine { srt := fun p h0 h2 => ?_, lay := fun q h0 h5 => lay_small (line_rg h0 h5) (Nat.le_trans (line_z xs q) (by decide)), lz := line_z xs, msz := fun l hl => ?_, row3 := fun row hr => ?_, a1 := ⟨k1, A1⟩, a2 := ⟨k2, A2⟩, h1 := I1.h6, h2 := I2.h6, hz2 := fun q h0 h2 => ?_, mn := fun m h0 h2 => ?_, mx := fun m h0 h2 => ?_, rural := fun row hr => ?_, conway := fun row hr other ho sd hs => ?_ }
  · rw [at_lns xs h0 (by omega), lineOf, List.dropLast_concat, like_eq, ← show os3 p = [3, 4, 5] by unfold os3; rw [if_pos (by omega)]]
    exact (isort_perm _ _).symm
  · have := ms_z (lns xs) (line_z xs) l [[]]
    have h3 : l.length ≤ 3 := by
      simp only [List.mem_cons, List.not_mem_nil, or_false] at hl
      rcases hl with rfl | rfl | rfl <;> decide
    have h4 : 4 ^ l.length ≤ 4 ^ 3 := Nat.pow_le_pow_right (by decide) h3
    simp only [List.length_cons, List.length_nil] at this
    omega
  · have R := Row.of_ms hr
    have rg : ∀ q ∈ row, -1 ≤ q ∧ q ≤ 5 := fun q hq => by
      rw [R.is] at hq
      simp only [List.mem_cons, List.not_mem_nil, or_false] at hq
      rcases hq with rfl | rfl | rfl
      · exact line_rg (by omega) (by omega) _ (R.mem 0 (by omega) (by omega))
      · exact line_rg (by omega) (by omega) _ (R.mem 1 (by omega) (by omega))
      · exact line_rg (by omega) (by omega) _ (R.mem 2 (by omega) (by omega))
    refine ⟨R.len, lay_small rg (by rw [R.len]; decide), R.mem, rg, fun m h0 h2 v hv => ?_⟩
    obtain ⟨a, _⟩ := (R.rival h0 h2).mp hv
    have g : 3 ≤ v ∧ v ≤ 5 := by have := a.1; omega
    refine ⟨by omega, g.2, (mem_line xs (by omega) g.2).mpr (.inr a.symm), (mem_line xs (by omega) g.2).mpr ?_⟩
    rw [← fun_hi g.1]
    exact (R.fits.ok v (by omega) g.2).imp id And.left
  · rcases I2.hd q (show On (!false) q from ⟨h0, h2⟩) with e | ⟨a, e, _⟩ <;> rw [e] <;> simp
  · refine ⟨rkN xs m (fin true s1.held m), (pick _ F1 m h0 h2).1, fun x hx => ?_, ?_⟩
    · obtain ⟨ν, N, rfl⟩ := each m h0 h2 x hx
      exact Int.ofNat_le.mpr (fin_best I1 f1 N (show On true m from ⟨h0, h2⟩))
    · rw [em, rowF_get _ h0 h2]; exact (pick _ F1 m h0 h2).2
  · refine ⟨rkN xs m (fin false s2.held m), (pick _ F2 m h0 h2).1, fun x hx => ?_, ?_⟩
    · obtain ⟨ν, N, rfl⟩ := each m h0 h2 x hx
      exact Int.ofNat_le.mpr (F2.worst (mkt xs) N false (fun p hp => fin_best I2 f2 N hp) (show On (!false) m from ⟨h0, h2⟩))
    · rw [ew, rowF_get _ h0 h2]; exact (pick _ F2 m h0 h2).2
  · have R := fm_row hr
    have N := fm_firm hr
    rw [em]
    refine ⟨?_, (rowF (fin true s1.held)).mergeSort (fun a b => decide (a ≤ b)), ?_, List.mergeSort_perm _ _, ?_⟩
    · have := alone_map N F1
      rwa [row_is R] at this
    · have := rural_perm F1 N
      rw [row_is R] at this
      exact (List.mergeSort_perm _ _).trans this
    · have := List.pairwise_mergeSort (le := fun a b : Int => decide (a ≤ b)) (by simp; omega) (by simp; omega) (rowF (fin true s1.held))
      exact this.imp (fun h => of_decide_eq_true h)
  · have M := fm_firm hr
    have N := fm_firm ho
    have hb : ∀ m : Int, 0 ≤ m → m ≤ 2 → bothAt xs row other m = [joinS (rkN xs) (funOf row) (funOf other) true m, joinS (rkN xs) (funOf row) (funOf other) false m] := fun m h0 h2 => by
      have := both_eq M N h0 h2
      rw [fun_lo h2, fun_lo h2] at this
      exact this
    refine ⟨fun m h0 h2 => by rw [hb m h0 h2]; rfl, ?_⟩
    have hmap : ∀ S : Bool, (([0, 1, 2] : List Int).map fun m => (bothAt xs row other m).getD sd.toNat 0) = rowF (joinS (rkN xs) (funOf row) (funOf other) S) → (([0, 1, 2] : List Int).map fun m => (bothAt xs row other m).getD sd.toNat 0) ∈ fmOf (lns xs) := fun S e => by
      rw [e]; exact firm_fm (M.join (mkt xs) N S)
    simp only [List.mem_cons, List.not_mem_nil, or_false] at hs
    rcases hs with rfl | rfl
    · refine hmap true ?_
      refine List.map_congr_left fun m hm => ?_
      simp only [List.mem_cons, List.not_mem_nil, or_false] at hm
      rw [hb m (by omega) (by omega)]; rfl
    · refine hmap false ?_
      refine List.map_congr_left fun m hm => ?_
      simp only [List.mem_cons, List.not_mem_nil, or_false] at hm
      rw [hb m (by omega) (by omega)]; rfl
end Mine
end

section
open PySem PySem.W PyProof.Rows PySem.SeqAt
set_option maxRecDepth 100000
namespace Mine

/-! ## The heap at the call -/
noncomputable def dataEs : Data → Array DictEntry
  | .dict es _ => es
  | _ => #[]
noncomputable def esOf (P : Params) : Array DictEntry := match (hd.heap_39 P).lookup 3 with
  | some o => dataEs o.data
  | none => #[]
theorem mg_is {P : Params} {h : Heap} {mg : Str → Option Value} (KX : (hd.heap_39 P).In h) (g : h.Ns mainGlobals mg) (x : Str) : mg x = nsFind (esOf P) x := by
  obtain ⟨o, es, ep, e1, e2, _, e3⟩ := g
  have hk : ∃ o', (hd.heap_39 P).lookup 3 = some o' := ⟨_, rfl⟩
  obtain ⟨o', hk⟩ := hk
  have e4 := KX 3 o' hk
  have e5 : o = o' := Option.some.inj (e1.symm.trans e4)
  rw [← e3 x]
  unfold esOf
  rw [hk]
  show _ = nsFind (dataEs o'.data) x
  rw [← e5, e2]; rfl
theorem gs_of {P : Params} {h : Heap} {mg : Str → Option Value} (KX : (hd.heap_39 P).In h) (g : h.Ns mainGlobals mg) : Gs mg where
  tc := (mg_is KX g _).trans (by kernel_rfl)
  mark := ⟨_, (mg_is KX g _).trans rfl⟩
  em := (mg_is KX g _).trans (by kernel_rfl)
  cram := (mg_is KX g _).trans (by kernel_rfl)
  split := (mg_is KX g _).trans (by kernel_rfl)
  person := (mg_is KX g _).trans (by kernel_rfl)
  wishes := (mg_is KX g _).trans (by kernel_rfl)
  line := (mg_is KX g _).trans (by kernel_rfl)
  firm := (mg_is KX g _).trans (by kernel_rfl)
  liked := (mg_is KX g _).trans (by kernel_rfl)
  best := (mg_is KX g _).trans (by kernel_rfl)
  asked := (mg_is KX g _).trans (by kernel_rfl)
  len := (mg_is KX g _).trans (by kernel_rfl)
  max := (mg_is KX g _).trans (by kernel_rfl)
  min := (mg_is KX g _).trans (by kernel_rfl)
  sum := (mg_is KX g _).trans (by kernel_rfl)
  range := (mg_is KX g _).trans (by kernel_rfl)
  sorted := (mg_is KX g _).trans (by kernel_rfl)
  list := (mg_is KX g _).trans (by kernel_rfl)
theorem law_at {P : Params} {h : Heap} {mg : Str → Option Value} (KX : (hd.heap_39 P).In h) (g : h.Ns mainGlobals mg) : mg (Str.ofString "law") = some (.ref 111) := (mg_is KX g _).trans (by kernel_rfl)
theorem old_of {P : Params} {h h' : Heap} (KX : (hd.heap_39 P).In h) (x : HExt h h') : OldK h h' := by
  have t1 : CodeHd h 93 89 := codeHd_of_K KX (by kernel_rfl)
  have t2 : CodeHd h 100 96 := codeHd_of_K KX (by kernel_rfl)
  refine ⟨fun b o e => ?_, fun b o e => x.dom e⟩
  rcases x b o e with e1 | ⟨hb, ps, more, rfl, e1⟩
  · exact .inl e1
  · refine .inr (.inl ⟨?_, rfl, ps, more, rfl, e1⟩)
    have : b = 96 ∨ b = 89 := by simpa [TABS] using hb
    rcases this with rfl | rfl
    · obtain ⟨o, vs, _, _, _, _, _, _, _, a1, a2, a3, a4, _⟩ := t2
      exact ⟨100, o, vs, a1, a2, a3, a4⟩
    · obtain ⟨o, vs, _, _, _, _, _, _, _, a1, a2, a3, a4, _⟩ := t1
      exact ⟨93, o, vs, a1, a2, a3, a4⟩
end Mine
end

section
open PySem PySem.W PyProof.Rows PySem.SeqAt
set_option maxRecDepth 100000
set_option maxHeartbeats 4000000
namespace Mine
theorem rda_ints {h : Heap} : ∀ {ns : List Int} {vs : List Value} {as : List Addr}, ReadsAll h vs (ns.map PyData.int) as → RdA h [] vs (ns.map PyData.int) := by
  intro ns
  induction ns with
  | nil => intro vs as r; cases r; exact .nil
  | cons n ns ih =>
    intro vs as r
    cases r with
    | cons r1 r2 =>
      cases r1
      exact .cons (Rd.int n _) (ih r2)
theorem in_lv {Γ : Ctx} {n : Nat} (hn : n < 70) (h : Γ.In callerA) : Γ.In (Lv n) :=
  ⟨h.1, Nat.le_trans h.2.1 (by show 1 + claimMargin ≤ 800 - n; unfold claimMargin; omega), nofun, nofun, Nat.le_trans h.2.2.2.2 (by show 4 ≤ 8000 - 100 * n; omega)⟩
end Mine
end

open PySem PySem.W PyProof.Rows PySem.SeqAt Mine

set_option maxRecDepth 100000 in
set_option maxHeartbeats 4000000 in

theorem PySem.Challenge.cw_pe0086_01_holds : PySem.Challenge.rw_pe0086_01.Holds :=
  Mine.hd (by
  k_fill
  intro w s₀ s₁ mg mb G Y fa o pm cd doc dV kV ho hd hcd hD hmg hg args vals as hpre hlay hrd hwl hlo
  have KX := km_in_of Y
  have hT8 := km_tabs_of Y
  refine Ground.open G ?_
  intro T B D TE TW
  wrow_args hpre hlay hrd hwl hlo
  clear hd hcd hD
  rename_i sc _ _ _ _ _ _ _ a vs as2 hL ra w1 r0 hI hr hc1 hc2
  have hf : fa = 111 := by
    have e : mg (Str.ofString "law") = some (.ref fa) := hmg
    rw [law_at KX T.g] at e
    injection e with e; injection e with e; exact e.symm
  subst hf
  obtain ⟨s1, s2, F⟩ := facts_of (xsOf sc) (sc.sum.fmod 59049)
  have hsz : sc.length ≤ 63 := by omega
  have GL : Gl (cx w mg mb) s₁.heap := {
    k := KX
    nt := by kernel_rfl
    g := T.g
    b := T.b
    bb := T.builtins
    nl := T.nolimit
    bm := T.bmain
    t1 := ⟨⟨_, hT8 89 (by simp), .inl rfl⟩⟩
    t2 := ⟨⟨_, hT8 96 (by simp), .inl rfl⟩⟩ }
  have hrd : Rd s₁.heap [] (.ref a) (.list (sc.map PyData.int)) := by
    have hw : ∃ vs', s₁.heap.get? a = some { cls := .type "list", data := .seq vs' } := by
      cases w1 with
      | list h _ => exact ⟨_, h⟩
    obtain ⟨vs', hw⟩ := hw
    obtain ⟨o', e1, _, n', e2⟩ := hL
    rw [hw] at e1
    cases e1
    injection e2 with e2 e3
    exact Rd.list ⟨_, hw⟩ (by rw [e2]; exact rda_ints ra) (by simp)
  have hfn := fn_law w mg mb (gs_of KX T.g) 0 (by omega) sc hsz s1 s2 F [] s₁ [.ref a] (fun v s' => GoodWG PySem.Challenge.rw_pe0086_01.row.claim (classAt s₀.heap) (ExcName.means s₀.heap) [WData.list (sc.map .int)] s₁ (.ok (.ret v)) s') (fun _ _ => False) GL nofun ⟨hrd, trivial⟩ (fun v s' x r => ?_)
  · exact fun Γ p hΓ => wpAny_mono hfn (fun _ _ h => h) (fun _ _ h => h.elim) Γ p (in_lv (by decide) hΓ)
  · obtain ⟨as', rb, _⟩ := r
    cases rb
    exact ⟨.inl ⟨_, .bool true, [], rfl, fun cls => rfl, .bool true, postW_of (by wrow_shape) (by wtm_val) (by decide), fun _ => ⟨List.nodup_nil, nofun⟩⟩, old_of KX x.hx, x.os, .of_eq (x.gens.trans hg)⟩)
