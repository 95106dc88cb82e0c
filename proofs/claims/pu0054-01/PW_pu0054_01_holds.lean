import PyProof.Rows.All
import Wide.All
import OpenK.AllK
import Wide.FinOn
import PySem.Challenge.RW_pu0054_01
open PySem PySem.W PyProof.Rows
set_option Elab.async false
set_option linter.unusedSimpArgs false
set_option linter.unusedVariables false
namespace Mine
set_option maxRecDepth 100000 in
set_option maxHeartbeats 8000000 in
open_top hd for PySem.Challenge.rw_pu0054_01
end Mine
namespace Mine

inductive D where
  | none
  | bool (b : Bool)
  | int (i : Int)
  | str (x : Str)
  | list (xs : List D)
  | tuple (xs : List D)
  | dict (kvs : List (Int × D))
  | mut (a : Addr) (xs : List D)
  | val (v : Value)

def D.isMut : D → Bool
  | .mut _ _ => true
  | _ => false
def D.isVal : D → Bool
  | .val _ => true
  | _ => false

/-- what is fixed: the program, the world, the written part of the heap, the two name tables, the tables of nested defs
    (code, table, place, name of the inner def) -/
structure Cx where
  prog : Program
  w : World
  K : Frag
  mg : Str → Option Value
  mb : Str → Option Value
  tabs : List (Addr × Addr × Pos × Str)

abbrev Cx.M (C : Cx) : Model := model C.prog C.w
abbrev Cx.tabP (C : Cx) : List Addr := C.tabs.map (·.2.1)

variable {C : Cx} {ok : Addr → Prop}

mutual
inductive Rep (C : Cx) (ok : Addr → Prop) (h : Heap) : D → Value → Prop
  | none : Rep C ok h .none .none
  | bool (b : Bool) : Rep C ok h (.bool b) (.bool b)
  | int (i : Int) (t : Tok) : Rep C ok h (.int i) (.int i t)
  | str (x : Str) (t : Tok) : Rep C ok h (.str x) (.str x t)
  | val (v : Value) : Rep C ok h (.val v) v
  | list {a : Addr} {vs : Array Value} {n : Nat} {xs : List D} (ha : ok a) (l : h.get? a = some { cls := .type "list", data := .seq vs n }) (r : RepL C ok h xs vs.toList) : Rep C ok h (.list xs) (.ref a)
  | tuple {a : Addr} {vs : Array Value} {n : Nat} {xs : List D} (ha : ok a) (l : h.get? a = some { cls := .type "tuple", data := .seq vs n }) (r : RepL C ok h xs vs.toList) : Rep C ok h (.tuple xs) (.ref a)
  | dict {a : Addr} {kvs : List (Int × D)} {kws : List (Int × Value)} (ha : ok a) (l : h.DictOf (intKind C.prog C.w) a kws) (ne : kws ≠ []) (r : RepD C ok h kvs kws) : Rep C ok h (.dict kvs) (.ref a)
inductive RepL (C : Cx) (ok : Addr → Prop) (h : Heap) : List D → List Value → Prop
  | nil : RepL C ok h [] []
  | cons {d : D} {v : Value} {ds : List D} {vs : List Value} (r : Rep C ok h d v) (rs : RepL C ok h ds vs) : RepL C ok h (d :: ds) (v :: vs)
inductive RepD (C : Cx) (ok : Addr → Prop) (h : Heap) : List (Int × D) → List (Int × Value) → Prop
  | nil : RepD C ok h [] []
  | cons {k : Int} {d : D} {v : Value} {ds : List (Int × D)} {vs : List (Int × Value)} (r : Rep C ok h d v) (rs : RepD C ok h ds vs) : RepD C ok h ((k, d) :: ds) ((k, v) :: vs)
end

def DataObj (o : Obj) : Prop := (∃ its n, o.data = .seq its n) ∨ ∃ es n, o.data = .dict es n ∧ ∃ e ∈ es, ∀ x t, e.key ≠ .str x t
def IterObj (o : Obj) : Prop := (∃ vs, o.data = .fields vs) ∧ o.cls ≠ .none
/-- all data is kept -/
def KR (ok : Addr → Prop) (h h' : Heap) : Prop := ∀ b o, ok b → h.get? b = some o → DataObj o → h'.get? b = some o
/-- all data, and all iterators and the like -/
def Dom (h h' : Heap) : Prop := ∀ a, h'.get? a = none → h.get? a = none
theorem Dom.refl (h : Heap) : Dom h h := fun _ e => e
theorem Dom.trans {h h' h'' : Heap} (x : Dom h h') (y : Dom h' h'') : Dom h h'' := fun a e => x a (y a e)
theorem Dom.of_keeps {h h' : Heap} (k : ∀ b o, h.get? b = some o → h'.get? b = some o) : Dom h h' := fun a e => by
  cases q : h.get? a with
  | none => rfl
  | some o => rw [k a o q] at e; cases e
def InstObj (o : Obj) : Prop := o.data = .plain ∨ ∃ es n, o.data = .dict es n
structure KD (L : Addr) (ok : Addr → Prop) (h h' : Heap) : Prop where
  k : ∀ b o, ok b → h.get? b = some o → DataObj o ∨ IterObj o ∨ (InstObj o ∧ b ≠ L) → h'.get? b = some o
  dom : Dom h h'
/-- data and iterators that stood in h₁ are kept -/
def KD1 (ok : Addr → Prop) (h₁ h h' : Heap) : Prop := ∀ b o o', ok b → h₁.get? b = some o' → h.get? b = some o → DataObj o ∨ IterObj o → h'.get? b = some o
theorem KD.to1 {L : Addr} {h₁ h h' : Heap} (x : KD L ok h h') : KD1 ok h₁ h h' := fun b o _ z _ e d => x.k b o z e (d.elim .inl fun z => .inr (.inl z))
theorem KD.kr {L : Addr} {h h' : Heap} (x : KD L ok h h') : KR ok h h' := fun b o z e d => x.k b o z e (.inl d)
abbrev every : Addr → Prop := fun _ => True
theorem KD.some {L : Addr} {h h' : Heap} (x : KD L every h h') : KD L ok h h' := ⟨fun b o _ e d => x.k b o trivial e d, x.dom⟩
theorem KR.some {h h' : Heap} (x : KR every h h') : KR ok h h' := fun b o _ e d => x b o trivial e d
theorem KR.less {ok' : Addr → Prop} {h h' : Heap} (x : KR ok h h') (y : ∀ a, ok' a → ok a) : KR ok' h h' := fun b o z e d => x b o (y b z) e d
theorem KD.less {L : Addr} {ok' : Addr → Prop} {h h' : Heap} (x : KD L ok h h') (y : ∀ a, ok' a → ok a) : KD L ok' h h' := ⟨fun b o z e d => x.k b o (y b z) e d, x.dom⟩

theorem dictOf_data {h : Heap} {a : Addr} {kws : List (Int × Value)} (l : h.DictOf (intKind C.prog C.w) a kws) (ne : kws ≠ []) : ∃ o, h.get? a = some o ∧ DataObj o := by
  obtain ⟨o, es, ep, ho, hx, hd, hk, hp, hn⟩ := l
  refine ⟨o, ho, .inr ⟨es, ep, hd, ?_⟩⟩
  have hl := hp.length
  have hpos : 0 < es.toList.length := by rw [hl]; exact List.length_pos_iff.mpr ne
  have hm : es.toList[0] ∈ es := Array.mem_toList_iff.mp (List.getElem_mem hpos)
  refine ⟨_, hm, fun x t e => ?_⟩
  obtain ⟨k, h1, h2⟩ := hk _ hm
  rw [e] at h1
  simp [intKind, Value.isInt] at h1

mutual
theorem Rep.mono {h h' : Heap} (x : KR ok h h') : ∀ {d : D} {v : Value}, Rep C ok h d v → Rep C ok h' d v
  | _, _, .none => .none
  | _, _, .bool b => .bool b
  | _, _, .int i t => .int i t
  | _, _, .str y t => .str y t
  | _, _, .val v => .val v
  | _, _, .list ha l r => .list ha (x _ _ ha l (.inl ⟨_, _, rfl⟩)) (RepL.mono x r)
  | _, _, .tuple ha l r => .tuple ha (x _ _ ha l (.inl ⟨_, _, rfl⟩)) (RepL.mono x r)
  | _, _, .dict ha l ne r => by
    refine .dict ha ?_ ne (RepD.mono x r)
    obtain ⟨o, e, hD⟩ := dictOf_data l ne
    obtain ⟨o', es, ep, ho, rest⟩ := l
    rw [e] at ho; cases ho
    exact ⟨_, es, ep, x _ _ ha e hD, rest⟩
theorem RepL.mono {h h' : Heap} (x : KR ok h h') : ∀ {ds : List D} {vs : List Value}, RepL C ok h ds vs → RepL C ok h' ds vs
  | _, _, .nil => .nil
  | _, _, .cons r rs => .cons (Rep.mono x r) (RepL.mono x rs)
theorem RepD.mono {h h' : Heap} (x : KR ok h h') : ∀ {ds : List (Int × D)} {vs : List (Int × Value)}, RepD C ok h ds vs → RepD C ok h' ds vs
  | _, _, .nil => .nil
  | _, _, .cons r rs => .cons (Rep.mono x r) (RepD.mono x rs)
end
/-- what a frame holds: data, or a list of its own that may change -/
def RepM (C : Cx) (ok : Addr → Prop) (lo : Addr) (h : Heap) (d : D) (v : Value) : Prop :=
  Rep C ok h d v ∨ ∃ a vs n xs, d = .mut a xs ∧ v = .ref a ∧ (¬ ok a ∧ lo < a) ∧ h.get? a = some { cls := .type "list", data := .seq vs n } ∧ RepL C ok h xs vs.toList
theorem Rep.notMut {h : Heap} {d : D} {v : Value} (r : Rep C ok h d v) : d.isMut = false := by cases r <;> rfl
theorem RepM.rep {h : Heap} {lo : Addr} {d : D} {v : Value} (r : RepM C ok lo h d v) (hd : d.isMut = false) : Rep C ok h d v := by
  rcases r with r | ⟨a, vs, n, xs, rfl, _⟩
  · exact r
  · cases hd
theorem RepM.keep {h h' : Heap} {lo : Addr} (x : KR every h h') {d : D} {v : Value} (r : RepM C ok lo h d v) : RepM C ok lo h' d v := by
  rcases r with r | ⟨a, vs, n, xs, h1, h2, h3, h4, h5⟩
  · exact .inl (r.mono x.some)
  · exact .inr ⟨a, vs, n, xs, h1, h2, h3, x _ _ trivial h4 (.inl ⟨_, _, rfl⟩), h5.mono x.some⟩
theorem Rep.isList {h : Heap} {a : Addr} {vs : Array Value} {n : Nat} (l : h.get? a = some { cls := .type "list", data := .seq vs n }) : h.IsList a vs := ⟨_, l, rfl, n, rfl⟩
theorem Rep.isTuple {h : Heap} {a : Addr} {vs : Array Value} {n : Nat} (l : h.get? a = some { cls := .type "tuple", data := .seq vs n }) : h.IsTuple a vs := ⟨_, l, rfl, n, rfl⟩
theorem RepL.length {h : Heap} : ∀ {ds : List D} {vs : List Value}, RepL C ok h ds vs → vs.length = ds.length
  | _, _, .nil => rfl
  | _, _, .cons _ rs => by simp [RepL.length rs]
theorem RepL.append {h : Heap} : ∀ {ds es : List D} {vs ws : List Value}, RepL C ok h ds vs → RepL C ok h es ws → RepL C ok h (ds ++ es) (vs ++ ws)
  | _, _, _, _, .nil, y => y
  | _, _, _, _, .cons r rs, y => .cons r (RepL.append rs y)
theorem RepL.get {h : Heap} : ∀ {ds : List D} {vs : List Value}, RepL C ok h ds vs → ∀ {i : Nat} {d : D}, ds[i]? = some d → ∃ v, vs[i]? = some v ∧ Rep C ok h d v
  | _, _, .nil, i, d, e => by simp at e
  | _, _, .cons r rs, 0, d, e => by simp at e; subst e; exact ⟨_, rfl, r⟩
  | _, _, .cons r rs, i + 1, d, e => by simpa using RepL.get rs (by simpa using e)
theorem RepL.take {h : Heap} : ∀ {ds : List D} {vs : List Value} (n : Nat), RepL C ok h ds vs → RepL C ok h (ds.take n) (vs.take n)
  | _, _, 0, _ => by simpa using RepL.nil
  | _, _, _ + 1, .nil => by simpa using RepL.nil
  | _, _, n + 1, .cons r rs => by simpa using RepL.cons r (RepL.take n rs)
theorem RepL.drop {h : Heap} : ∀ {ds : List D} {vs : List Value} (n : Nat), RepL C ok h ds vs → RepL C ok h (ds.drop n) (vs.drop n)
  | _, _, 0, x => by simpa using x
  | _, _, _ + 1, .nil => by simpa using RepL.nil
  | _, _, n + 1, .cons _ rs => by simpa using RepL.drop n rs
theorem RepL.reverse {h : Heap} : ∀ {ds : List D} {vs : List Value}, RepL C ok h ds vs → RepL C ok h ds.reverse vs.reverse
  | _, _, .nil => .nil
  | _, _, .cons r rs => by simpa using RepL.append (RepL.reverse rs) (.cons r .nil)

def TabOk (C : Cx) (h : Heap) (q : Addr × Addr × Pos × Str) : Prop :=
  ∃ ps, h.IsCode q.1 q.2.1 ps ∧ h.TableAt q.1 q.2.1 ps ∧
    (codeAmong q.2.2.1 ps.toList = none ∨ ∃ c', codeAmong q.2.2.1 ps.toList = some (.ref c') ∧ h.CodeRec (.ref c') q.2.2.2)

def NT (C : Cx) (b : Addr) (o : Obj) : Prop := b ∈ C.tabP → o.cls ≠ .none ∨ ∀ vs, o.data ≠ .fields vs

structure Ext (C : Cx) (h h' : Heap) : Prop where
  keep : ∀ b o, h.get? b = some o → NT C b o → h'.get? b = some o
  tab : ∀ b vs, h.get? b = some (tabObj vs) → ∃ more, h'.get? b = some (tabObj (vs ++ more))
  tab' : ∀ b o vs, h.get? b = some o → o.cls = .none → o.data = .fields vs → ∃ o', h'.get? b = some o'
  inv : (∀ q ∈ C.tabs, TabOk C h q) → ∀ q ∈ C.tabs, TabOk C h' q

theorem TabOk.keeps {h h' : Heap} {q : Addr × Addr × Pos × Str} (x : TabOk C h q) (k : ∀ b o, h.get? b = some o → h'.get? b = some o) : TabOk C h' q := by
  obtain ⟨ps, a, b, c⟩ := x
  refine ⟨ps, a.keeps k, b.keeps k, ?_⟩
  rcases c with c | ⟨c', e, r⟩
  · exact .inl c
  · exact .inr ⟨c', e, r.keeps k⟩

theorem Ext.refl (h : Heap) : Ext C h h := ⟨fun _ _ e _ => e, fun _ vs e => ⟨#[], by simpa using e⟩, fun _ o _ e _ _ => ⟨o, e⟩, fun x => x⟩
theorem Ext.trans {h h' h'' : Heap} (x : Ext C h h') (y : Ext C h' h'') : Ext C h h'' where
  keep := fun b o e n => y.keep b o (x.keep b o e n) n
  tab := fun b vs e => by
    obtain ⟨m1, e1⟩ := x.tab b vs e
    obtain ⟨m2, e2⟩ := y.tab b _ e1
    exact ⟨m1 ++ m2, by rw [e2, Array.append_assoc]⟩
  tab' := fun b o vs e hc hd => by
    by_cases hm : b ∈ C.tabP
    · obtain ⟨o1, e1⟩ := x.tab' b o vs e hc hd
      by_cases hn : o1.cls ≠ .none ∨ ∀ vs, o1.data ≠ .fields vs
      · exact ⟨o1, y.keep b o1 e1 fun _ => hn⟩
      · rw [not_or] at hn
        have h1 : o1.cls = .none := Decidable.byContradiction fun z => hn.1 z
        obtain ⟨vs1, h2⟩ := Classical.not_forall.mp hn.2
        exact y.tab' b o1 vs1 e1 h1 (Classical.byContradiction h2)
    · exact ⟨o, y.keep b o (x.keep b o e fun z => absurd z hm) fun z => absurd z hm⟩
  inv := fun z => y.inv (x.inv z)
theorem Ext.of_keeps {h h' : Heap} (k : ∀ b o, h.get? b = some o → h'.get? b = some o) : Ext C h h' where
  keep := fun b o e _ => k b o e
  tab := fun b vs e => ⟨#[], by simpa using k _ _ e⟩
  tab' := fun b o vs e _ _ => ⟨o, k _ _ e⟩
  inv := fun z q hq => (z q hq).keeps k
theorem Ext.push (h : Heap) (o : Obj) : Ext C h (h.push o) := .of_keeps (fun _ _ e => Heap.get?_push_of_some _ e)
theorem Ext.fresh {h₀ h : Heap} (x : Ext C h₀ h) {a : Addr} (e : h.get? a = none) : h₀.get? a = none := by
  cases q : h₀.get? a with
  | none => rfl
  | some o =>
    exfalso
    by_cases hn : o.cls ≠ .none ∨ ∀ vs, o.data ≠ .fields vs
    · rw [x.keep a o q fun _ => hn] at e; cases e
    · by_cases hm : a ∈ C.tabP
      · obtain ⟨c, d, dt, sl⟩ := o
        rw [not_or] at hn
        have h1 : c = .none := Decidable.byContradiction fun z => hn.1 z
        have h2 := hn.2
        cases dt with
        | fields vs =>
          subst h1
          have := x.tab' a _ vs q rfl rfl
          rw [e] at this
          obtain ⟨o', h'⟩ := this
          cases h'
        | _ => exact h2 (fun vs h => by cases h)
      · rw [x.keep a o q fun z => absurd z hm] at e; cases e
/-- every place that is not yet taken is allowed -/
def AlH (ok : Addr → Prop) (h : Heap) : Prop := ∀ a, h.get? a = none → ok a
theorem AlH.ext {h h' : Heap} (x : AlH ok h) (e : Ext C h h') : AlH ok h' := fun a ha => x a (e.fresh ha)
theorem AlH.dom {h h' : Heap} (x : AlH ok h) (e : Dom h h') : AlH ok h' := fun a ha => x a (e a ha)
structure Al (ok : Addr → Prop) (s : Shared) : Prop where
  h : AlH ok s.heap
  t : 1 ≤ s.toks
theorem Al.ext {s : Shared} {h' : Heap} {tk : Nat} (x : Al ok s) (e : Ext C s.heap h') (n : 1 ≤ tk) : Al ok { s with heap := h', toks := tk } := ⟨x.h.ext e, n⟩
theorem fresh_above (h : Heap) {a : Addr} (ha : h.objs.size ≤ a) : h.get? a = none := by
  cases q : h.get? a with
  | none => rfl
  | some o => exact absurd (Heap.lt_size q) (Nat.not_lt.mpr ha)
theorem fresh_push (h : Heap) : h.get? h.objs.size = none := by
  cases q : h.get? h.objs.size with
  | none => rfl
  | some o => exact absurd (Heap.lt_size q) (Nat.lt_irrefl _)

theorem Ext.dom {h h' : Heap} (x : Ext C h h') : Dom h h' := fun _ e => x.fresh e
theorem Ext.keep_cls {h h' : Heap} (x : Ext C h h') {b : Addr} {o : Obj} (e : h.get? b = some o) (hc : o.cls ≠ .none) : h'.get? b = some o := x.keep b o e fun _ => .inl hc
theorem Ext.keep_data {h h' : Heap} (x : Ext C h h') {b : Addr} {o : Obj} (e : h.get? b = some o) (hc : ∀ vs, o.data ≠ .fields vs) : h'.get? b = some o := x.keep b o e fun _ => .inr hc
theorem Ext.isList {h h' : Heap} (x : Ext C h h') {a : Addr} {vs : Array Value} (l : h.IsList a vs) : h'.IsList a vs := by
  obtain ⟨o, e, hc, r⟩ := l
  exact ⟨o, x.keep_cls e (by rw [hc]; simp), hc, r⟩
theorem Ext.isTuple {h h' : Heap} (x : Ext C h h') {a : Addr} {vs : Array Value} (l : h.IsTuple a vs) : h'.IsTuple a vs := by
  obtain ⟨o, e, hc, r⟩ := l
  exact ⟨o, x.keep_cls e (by rw [hc]; simp), hc, r⟩
theorem Ext.ns {h h' : Heap} (x : Ext C h h') {a : Addr} {m : Str → Option Value} (l : h.Ns a m) : h'.Ns a m := by
  obtain ⟨o, es, ep, e, hd, r⟩ := l
  exact ⟨o, es, ep, x.keep_data e (by rw [hd]; simp), hd, r⟩
theorem Ext.isCell {h h' : Heap} (x : Ext C h h') {a : Addr} {v : Option Value} (l : h.IsCell a v) : h'.IsCell a v := by
  obtain ⟨o, e, hd⟩ := l
  exact ⟨o, x.keep_data e (by rw [hd]; simp), hd⟩

theorem Ext.kd {L : Addr} {h h' : Heap} (x : Ext C h h') : KD L ok h h' := ⟨fun b o _ e hD => by
  rcases hD with (⟨its, n, hd⟩ | ⟨es, n, hd, _⟩) | ⟨_, hc⟩ | ⟨hd | ⟨es, n, hd⟩, _⟩
  · exact x.keep_data e fun vs hv => by rw [hd] at hv; cases hv
  · exact x.keep_data e fun vs hv => by rw [hd] at hv; cases hv
  · exact x.keep_cls e hc
  · exact x.keep_data e fun vs hv => by rw [hd] at hv; cases hv
  · exact x.keep_data e fun vs hv => (by rw [hd] at hv; cases hv), fun _ e => x.fresh e⟩
theorem Ext.kr {h h' : Heap} (x : Ext C h h') : KR ok h h' := (x.kd (L := 0)).kr
theorem Ext.kd1 {h₁ h h' : Heap} (x : Ext C h h') : KD1 ok h₁ h h' := (x.kd (L := 0)).to1
theorem KR.refl (h : Heap) : KR ok h h := fun _ _ _ e _ => e
theorem KR.trans {h h' h'' : Heap} (x : KR ok h h') (y : KR ok h' h'') : KR ok h h'' := fun b o z e d => y b o z (x b o z e d) d
theorem KD.refl {L : Addr} (h : Heap) : KD L ok h h := ⟨fun _ _ _ e _ => e, Dom.refl _⟩
theorem KD.trans {L : Addr} {h h' h'' : Heap} (x : KD L ok h h') (y : KD L ok h' h'') : KD L ok h h'' := ⟨fun b o z e d => y.k b o z (x.k b o z e d) d, x.dom.trans y.dom⟩
theorem Rep.ext {h h' : Heap} (x : Ext C h h') {d : D} {v : Value} (r : Rep C ok h d v) : Rep C ok h' d v := r.mono x.kr
theorem RepM.ext {h h' : Heap} {lo : Addr} (x : Ext C h h') {d : D} {v : Value} (r : RepM C ok lo h d v) : RepM C ok lo h' d v := r.keep x.kr
theorem RepL.ext {h h' : Heap} (x : Ext C h h') {ds : List D} {vs : List Value} (r : RepL C ok h ds vs) : RepL C ok h' ds vs := r.mono x.kr

theorem dom_but {h h' : Heap} {L : Addr} {o' : Obj} (hs : Heap.SameBut L h h') (h1 : h'.get? L = some o') : Dom h h' := fun a e => by
  by_cases ha : a = L
  · subst ha; rw [h1] at e; cases e
  · exact (hs.2 a ha).symm.trans e
theorem kd_ns {h h' : Heap} {L : Addr} {m m' : Str → Option Value} (hn : h.Ns L m) (hn' : h'.Ns L m') (hs : Heap.SameBut L h h') : KD L ok h h' := ⟨fun b o _ e hD => by
  by_cases hb : b = L
  · subst hb
    obtain ⟨o', es, ep, ho, hd, hk, _⟩ := hn
    rw [e] at ho; cases ho
    rcases hD with (⟨its, n, hd'⟩ | ⟨es', n, hd', e', he', hne⟩) | ⟨⟨vs, hd'⟩, _⟩ | ⟨_, hne⟩
    · rw [hd] at hd'; cases hd'
    rotate_left
    · rw [hd] at hd'; cases hd'
    · exact absurd rfl hne
    · rw [hd] at hd'; cases hd'
      obtain ⟨x, t, hx⟩ := hk e' he'
      exact absurd hx (hne x t)
  · exact (hs.2 b hb).trans e, let ⟨_, _, _, ho, _⟩ := hn'; dom_but hs ho⟩
theorem kd_cell {L : Addr} {h h' : Heap} {c : Addr} {v v' : Option Value} (hn : h.IsCell c v) (hn' : h'.IsCell c v') (hs : Heap.SameBut c h h') : KD L ok h h' := ⟨fun b o _ e hD => by
  by_cases hb : b = c
  · subst hb
    obtain ⟨o', ho, hd⟩ := hn
    rw [e] at ho; cases ho
    rcases hD with (⟨its, n, hd'⟩ | ⟨es', n, hd', _⟩) | ⟨⟨vs, hd'⟩, _⟩ | ⟨hd' | ⟨es', n, hd'⟩, _⟩ <;> rw [hd] at hd' <;> cases hd'
  · exact (hs.2 b hb).trans e, let ⟨_, ho, _⟩ := hn'; dom_but hs ho⟩
theorem ns_ne_cell {h : Heap} {L c : Addr} {m : Str → Option Value} {v : Option Value} (hn : h.Ns L m) (hc : h.IsCell c v) : c ≠ L := by
  rintro rfl
  obtain ⟨o', es, ep, ho, hd, _⟩ := hn
  obtain ⟨o, e, hd'⟩ := hc
  rw [e] at ho; cases ho
  rw [hd] at hd'; cases hd'

/-- a store into an own place that the base does not know: an object whose data are no fields -/
theorem Ext.store {h₀ h h' : Heap} {a : Addr} {o : Obj} (x : Ext C h₀ h) (ha : h₀.get? a = none) (ho : h.get? a = some o) (hd : ∀ vs, o.data ≠ .fields vs) (hs : Heap.SameBut a h h') : Ext C h₀ h' where
  keep := fun b o e n => (hs.2 b (fun z => by subst z; rw [ha] at e; cases e)).trans (x.keep b o e n)
  tab := fun b vs e => let ⟨m, r⟩ := x.tab b vs e; ⟨m, (hs.2 b (fun z => by subst z; rw [ha] at e; cases e)).trans r⟩
  tab' := fun b o vs e hc hd => let ⟨o', r⟩ := x.tab' b o vs e hc hd; ⟨o', (hs.2 b (fun z => by subst z; rw [ha] at e; cases e)).trans r⟩
  inv := fun z q hq => by
    obtain ⟨ps, hc, ht, r⟩ := x.inv z q hq
    have ne : ∀ b ob vs, h.get? b = some ob → ob.data = .fields vs → b ≠ a := fun b ob vs e hv hb => by
      subst hb; rw [e] at ho; cases ho; exact hd vs hv
    have k1 : q.1 ≠ a := by obtain ⟨o, vs, f, tf, fl, tg, b, n, tt, op, e1, e2, _⟩ := hc; exact ne _ _ _ e1 e2
    have k2 : q.2.1 ≠ a := ne _ _ _ ht.2 rfl
    refine ⟨ps, hc.sameBut hs k1 k2, ht.sameBut hs k1 k2, ?_⟩
    rcases r with r | ⟨c', e, c, oc, vs, t, e1, e2, e3, e4⟩
    · exact .inl r
    · exact .inr ⟨c', e, c, oc, vs, t, e1, (hs.2 _ (ne _ _ _ e2 e3)).trans e2, e3, e4⟩
theorem Ext.store_ns {h₀ h h' : Heap} {L : Addr} {m : Str → Option Value} (x : Ext C h₀ h) (hn : h.Ns L m) (ha : h₀.get? L = none) (hs : Heap.SameBut L h h') : Ext C h₀ h' := by
  obtain ⟨o, es, ep, ho, hd, _⟩ := hn
  exact x.store ha ho (by rw [hd]; simp) hs
theorem Ext.store_cell {h₀ h h' : Heap} {L : Addr} {v : Option Value} (x : Ext C h₀ h) (hn : h.IsCell L v) (ha : h₀.get? L = none) (hs : Heap.SameBut L h h') : Ext C h₀ h' := by
  obtain ⟨o, ho, hd⟩ := hn
  exact x.store ha ho (by rw [hd]; simp) hs
theorem AlH.new {h h' : Heap} (x : AlH ok h) (e : Ext C h h') : ok h'.objs.size := x _ (e.fresh (fresh_push h'))
theorem Al.new {s : Shared} {h' : Heap} (x : Al ok s) (e : Ext C s.heap h') : ok h'.objs.size := x.h.new e
mutual
theorem Rep.allow {ok' : Addr → Prop} {h : Heap} (x : ∀ a, ok a → ok' a) : ∀ {d : D} {v : Value}, Rep C ok h d v → Rep C ok' h d v
  | _, _, .none => .none
  | _, _, .bool b => .bool b
  | _, _, .int i t => .int i t
  | _, _, .str y t => .str y t
  | _, _, .val v => .val v
  | _, _, .list ha l r => .list (x _ ha) l (RepL.allow x r)
  | _, _, .tuple ha l r => .tuple (x _ ha) l (RepL.allow x r)
  | _, _, .dict ha l ne r => .dict (x _ ha) l ne (RepD.allow x r)
theorem RepL.allow {ok' : Addr → Prop} {h : Heap} (x : ∀ a, ok a → ok' a) : ∀ {ds : List D} {vs : List Value}, RepL C ok h ds vs → RepL C ok' h ds vs
  | _, _, .nil => .nil
  | _, _, .cons r rs => .cons (Rep.allow x r) (RepL.allow x rs)
theorem RepD.allow {ok' : Addr → Prop} {h : Heap} (x : ∀ a, ok a → ok' a) : ∀ {ds : List (Int × D)} {vs : List (Int × Value)}, RepD C ok h ds vs → RepD C ok' h ds vs
  | _, _, .nil => .nil
  | _, _, .cons r rs => .cons (Rep.allow x r) (RepD.allow x rs)
end
mutual
theorem Rep.restrict {ok' : Addr → Prop} {h : Heap} (x : ∀ a o, h.get? a = some o → ok a → ok' a) : ∀ {d : D} {v : Value}, Rep C ok h d v → Rep C ok' h d v
  | _, _, .none => .none
  | _, _, .bool b => .bool b
  | _, _, .int i t => .int i t
  | _, _, .str y t => .str y t
  | _, _, .val v => .val v
  | _, _, .list ha l r => .list (x _ _ l ha) l (RepL.restrict x r)
  | _, _, .tuple ha l r => .tuple (x _ _ l ha) l (RepL.restrict x r)
  | _, _, .dict ha l ne r => .dict (by obtain ⟨o, e, _⟩ := dictOf_data l ne; exact x _ _ e ha) l ne (RepD.restrict x r)
theorem RepL.restrict {ok' : Addr → Prop} {h : Heap} (x : ∀ a o, h.get? a = some o → ok a → ok' a) : ∀ {ds : List D} {vs : List Value}, RepL C ok h ds vs → RepL C ok' h ds vs
  | _, _, .nil => .nil
  | _, _, .cons r rs => .cons (Rep.restrict x r) (RepL.restrict x rs)
theorem RepD.restrict {ok' : Addr → Prop} {h : Heap} (x : ∀ a o, h.get? a = some o → ok a → ok' a) : ∀ {ds : List (Int × D)} {vs : List (Int × Value)}, RepD C ok h ds vs → RepD C ok' h ds vs
  | _, _, .nil => .nil
  | _, _, .cons r rs => .cons (Rep.restrict x r) (RepD.restrict x rs)
end
theorem RepM.restrict {ok' : Addr → Prop} {h : Heap} {lo : Addr} (x : ∀ a o, h.get? a = some o → ok a → ok' a) (y : ∀ a, ok' a → ok a) {d : D} {v : Value} (r : RepM C ok lo h d v) : RepM C ok' lo h d v := by
  rcases r with r | ⟨a, vs, n, xs, h1, h2, h3, h4, h5⟩
  · exact .inl (r.restrict x)
  · exact .inr ⟨a, vs, n, xs, h1, h2, ⟨fun z => h3.1 (y a z), h3.2⟩, h4, h5.restrict x⟩
/-- all data but at one place is kept -/
theorem dictOf_keep {h h' : Heap} {a : Addr} {kws : List (Int × Value)} (l : h.DictOf (intKind C.prog C.w) a kws) (k : ∀ o, h.get? a = some o → h'.get? a = some o) : h'.DictOf (intKind C.prog C.w) a kws := by
  obtain ⟨o, es, ep, ho, rest⟩ := l
  exact ⟨o, es, ep, k o ho, rest⟩
mutual
theorem Rep.but {h h' : Heap} (x : ∀ b o, ok b → h.get? b = some o → h'.get? b = some o) : ∀ {d : D} {v : Value}, Rep C ok h d v → Rep C ok h' d v
  | _, _, .none => .none
  | _, _, .bool b => .bool b
  | _, _, .int i t => .int i t
  | _, _, .str y t => .str y t
  | _, _, .val v => .val v
  | _, _, .list ha l r => .list ha (x _ _ ha l) (RepL.but x r)
  | _, _, .tuple ha l r => .tuple ha (x _ _ ha l) (RepL.but x r)
  | _, _, .dict ha l ne r => .dict ha (dictOf_keep l fun o e => x _ o ha e) ne (RepD.but x r)
theorem RepL.but {h h' : Heap} (x : ∀ b o, ok b → h.get? b = some o → h'.get? b = some o) : ∀ {ds : List D} {vs : List Value}, RepL C ok h ds vs → RepL C ok h' ds vs
  | _, _, .nil => .nil
  | _, _, .cons r rs => .cons (Rep.but x r) (RepL.but x rs)
theorem RepD.but {h h' : Heap} (x : ∀ b o, ok b → h.get? b = some o → h'.get? b = some o) : ∀ {ds : List (Int × D)} {vs : List (Int × Value)}, RepD C ok h ds vs → RepD C ok h' ds vs
  | _, _, .nil => .nil
  | _, _, .cons r rs => .cons (Rep.but x r) (RepD.but x rs)
end
end Mine
namespace Mine
variable {C : Cx} {ok : Addr → Prop}

structure G (C : Cx) (h : Heap) : Prop where
  frag : C.K.In h
  nt : noTabs C.K = true
  g : h.Ns mainGlobals C.mg
  b : h.Ns builtinsNs C.mb
  bb : ∀ x : Str, x ≠ "__name__" → C.mb x = bootBuiltins x
  nolimit : h.NoLimit
  bm : ∃ bm ob, C.mg "__builtins__" = some (.ref bm) ∧ bm ≠ builtinsNs ∧ h.get? bm = some ob ∧ ob.cls = .type "module" ∧ ob.dict = some builtinsNs ∧ ob.data = .plain
  tabs : ∀ q ∈ C.tabs, TabOk C h q

theorem nt_of {K : Frag} {a : Addr} {o : Obj} (hK : noTabs K = true) (e : K.lookup a = some o) : o.cls ≠ .none ∨ ∀ vs, o.data ≠ .fields vs := by
  have h2 := List.all_eq_true.mp hK (a, o) (mem_of_lookupK e)
  by_cases hc : o.cls = .none
  · refine .inr fun vs hv => ?_
    simp only [hc, hv] at h2
    cases h2
  · exact .inl hc

theorem G.ext {h h' : Heap} (x : G C h) (y : Ext C h h') : G C h' where
  frag := fun a o e => y.keep a o (x.frag a o e) fun _ => nt_of x.nt e
  nt := x.nt
  g := y.ns x.g
  b := y.ns x.b
  bb := x.bb
  nolimit := let ⟨mc, a, b⟩ := x.nolimit; ⟨mc, y.ns a, b⟩
  bm := let ⟨bm, ob, h1, h2, h3, h4, r⟩ := x.bm; ⟨bm, ob, h1, h2, y.keep_cls h3 (by rw [h4]; simp), h4, r⟩
  tabs := y.inv x.tabs

structure Room (A : Around) (k : Nat) : Prop where
  d : A.depth + k < recursionLimit
  u : A.units + 50 * k < 9000
  hd : A.handled = none

theorem Room.le {A : Around} {k k' : Nat} (r : Room A k) (h : k' ≤ k) : Room A k' := ⟨by have := r.d; omega, by have := r.u; omega, r.hd⟩
theorem Room.in1 {A : Around} {k : Nat} (r : Room A (k + 1)) : Room A.in1 k := ⟨by have := r.d; simp only [Around.in1_depth]; omega, by have := r.u; simp only [Around.in1_units]; omega, r.hd⟩
theorem Room.deeper {A : Around} {k : Nat} (r : Room A (k + 1)) (env : Env) : Room (A.deeper env) k := ⟨by have := r.d; show A.depth + 1 + k < _; omega, by have := r.u; simp only [Around.deeper_units]; omega, r.hd⟩
theorem Room.cl {A : Around} {k : Nat} (r : Room A k) : A.units + 100 < cLine := by have := r.u; have := cLine_is; omega

abbrev Store := List (Str × D)

structure FS (C : Cx) (ok : Addr → Prop) (env : Env) (σ : Store) (h : Heap) : Prop where
  fn : env.scope.kind = .function
  gl : env.globals = mainGlobals
  bl : env.builtins = builtinsNs
  ns : ∃ m, h.Ns env.locals m ∧ ∀ x d, σ.lookup x = some d → env.kindOf x = some .local → ∃ v, m x = some v ∧ RepM C ok env.locals h d v
  cell : ∀ x d, σ.lookup x = some d → env.kindOf x ≠ some .local → (env.kindOf x = some .cell ∨ env.kindOf x = some .free) ∧ ∃ c v, env.cells.lookup x = some c ∧ h.IsCell c (some v) ∧ RepM C ok env.locals h d v
  cells : ∀ x, env.kindOf x = some .cell ∨ env.kindOf x = some .free → ∃ c v, env.cells.lookup x = some c ∧ h.IsCell c v
  apart : env.cells.Pairwise fun x y => x.2 ≠ y.2

theorem FS.ext {env : Env} {σ : Store} {h h' : Heap} (x : FS C ok env σ h) (y : Ext C h h') : FS C ok env σ h' where
  fn := x.fn
  gl := x.gl
  bl := x.bl
  ns := let ⟨m, a, b⟩ := x.ns; ⟨m, y.ns a, fun n d e k => let ⟨v, e1, e2⟩ := b n d e k; ⟨v, e1, e2.ext y⟩⟩
  cell := fun n d e k => let ⟨a, c, v, e1, e2, e3⟩ := x.cell n d e k; ⟨a, c, v, e1, y.isCell e2, e3.ext y⟩
  cells := fun n k => let ⟨c, v, e1, e2⟩ := x.cells n k; ⟨c, v, e1, y.isCell e2⟩
  apart := x.apart
theorem FS.weaken {env : Env} {σ σ' : Store} {h : Heap} (x : FS C ok env σ h) (y : ∀ n d, σ'.lookup n = some d → σ.lookup n = some d) : FS C ok env σ' h where
  fn := x.fn
  gl := x.gl
  bl := x.bl
  ns := let ⟨m, a, b⟩ := x.ns; ⟨m, a, fun n d e k => b n d (y n d e) k⟩
  cell := fun n d e k => x.cell n d (y n d e) k
  cells := x.cells
  apart := x.apart

/-- what a value's evaluation hands on -/
abbrev Ret (C : Cx) (ok : Addr → Prop) (d : D) (Q : Value → Shared → Prop) (s : Shared) : Prop := ∀ v h' tk, Ext C s.heap h' → Rep C ok h' d v → Q v { s with heap := h', toks := tk }

def EvT (C : Cx) (k : Nat) (sc : Scope) (σ : Store) (e : Expr) (d : D) : Prop :=
  ∀ (ok : Addr → Prop) (env : Env) (A : Around) (s : Shared) (Q E : Value → Shared → Prop), Al ok s → env.scope = sc → Room A k → FS C ok env σ s.heap → G C s.heap → Ret C ok d Q s → wpAny C.M A (eval e env) Q E s

/-- a test: `isTrue e env (eval e env)` -/
def TsT (C : Cx) (k : Nat) (sc : Scope) (σ : Store) (e : Expr) (b : Bool) : Prop :=
  ∀ (ok : Addr → Prop) (env : Env) (A : Around) (s : Shared) (Q : Bool → Shared → Prop) (E : Value → Shared → Prop), Al ok s → env.scope = sc → Room A k → FS C ok env σ s.heap → G C s.heap →
    (∀ h' tk, Ext C s.heap h' → Q b { s with heap := h', toks := tk }) → wpAny C.M A (isTrue e env (eval e env)) Q E s

/-- an operation on one value, on two values -/
def Op1 (C : Cx) (f : Value → Sem Value) (a c : D) : Prop :=
  ∀ (ok : Addr → Prop) (A : Around) (s : Shared) (Q E : Value → Shared → Prop) (va : Value), Al ok s → A.handled = none → A.units + 100 < cLine → G C s.heap → Rep C ok s.heap a va → Ret C ok c Q s → wpAny C.M A (f va) Q E s
def Op2 (C : Cx) (f : Value → Value → Sem Value) (a b c : D) : Prop :=
  ∀ (ok : Addr → Prop) (A : Around) (s : Shared) (Q E : Value → Shared → Prop) (va vb : Value), Al ok s → A.handled = none → A.units + 100 < cLine → G C s.heap → Rep C ok s.heap a va → Rep C ok s.heap b vb → Ret C ok c Q s → wpAny C.M A (f va vb) Q E s

theorem EvT.le {k k' : Nat} {sc : Scope} {σ : Store} {e : Expr} {d : D} (x : EvT C k sc σ e d) (h : k ≤ k') : EvT C k' sc σ e d :=
  fun ok env A s Q E hal hsc r f g q => x ok env A s Q E hal hsc (r.le h) f g q


theorem EvT.use {k : Nat} {sc : Scope} {σ : Store} {e : Expr} {d : D} (x : EvT C k sc σ e d) (ok : Addr → Prop) (env : Env) (A : Around) (s : Shared) (Q E : Value → Shared → Prop) (hal : Al ok s) (hsc : env.scope = sc) (hA : Room A k) (f : FS C ok env σ s.heap) (g : G C s.heap)
    (q : ∀ v h' tk, 1 ≤ tk → Ext C s.heap h' → Rep C ok h' d v → Q v { s with heap := h', toks := tk }) : wpAny C.M A (eval e env) Q E s :=
  wpAny_with_toks hal.t (x ok env A s _ _ hal hsc hA f g fun v h' tk y r n => q v h' tk n y r)
theorem TsT.use {k : Nat} {sc : Scope} {σ : Store} {e : Expr} {b : Bool} (x : TsT C k sc σ e b) (ok : Addr → Prop) (env : Env) (A : Around) (s : Shared) (Q : Bool → Shared → Prop) (E : Value → Shared → Prop) (hal : Al ok s) (hsc : env.scope = sc) (hA : Room A k) (f : FS C ok env σ s.heap) (g : G C s.heap)
    (q : ∀ h' tk, 1 ≤ tk → Ext C s.heap h' → Q b { s with heap := h', toks := tk }) : wpAny C.M A (isTrue e env (eval e env)) Q E s :=
  wpAny_with_toks hal.t (x ok env A s _ _ hal hsc hA f g fun h' tk y n => q h' tk n y)
theorem Op1.use {f : Value → Sem Value} {a c : D} (x : Op1 C f a c) (ok : Addr → Prop) (A : Around) (s : Shared) (Q E : Value → Shared → Prop) (va : Value) (hal : Al ok s) (hh : A.handled = none) (hu : A.units + 100 < cLine) (g : G C s.heap) (ra : Rep C ok s.heap a va)
    (q : ∀ v h' tk, 1 ≤ tk → Ext C s.heap h' → Rep C ok h' c v → Q v { s with heap := h', toks := tk }) : wpAny C.M A (f va) Q E s :=
  wpAny_with_toks hal.t (x ok A s _ _ va hal hh hu g ra fun v h' tk y r n => q v h' tk n y r)
theorem Op2.use {f : Value → Value → Sem Value} {a b c : D} (x : Op2 C f a b c) (ok : Addr → Prop) (A : Around) (s : Shared) (Q E : Value → Shared → Prop) (va vb : Value) (hal : Al ok s) (hh : A.handled = none) (hu : A.units + 100 < cLine) (g : G C s.heap) (ra : Rep C ok s.heap a va) (rb : Rep C ok s.heap b vb)
    (q : ∀ v h' tk, 1 ≤ tk → Ext C s.heap h' → Rep C ok h' c v → Q v { s with heap := h', toks := tk }) : wpAny C.M A (f va vb) Q E s :=
  wpAny_with_toks hal.t (x ok A s _ _ va vb hal hh hu g ra rb fun v h' tk y r n => q v h' tk n y r)

section rules
variable {k : Nat} {sc : Scope} {σ : Store}

theorem ev_int {i : Int} {kk : Nat} {pos : Pos} : EvT C k sc σ (.Constant (.int i) kk pos) (.int i) :=
  fun _ _ _ s _ _ _ _ _ _ _ q => wpAny_Constant_int (q _ s.heap _ (.refl _) (.int _ _))
theorem ev_str {x : Str} {kk : Nat} {pos : Pos} : EvT C k sc σ (.Constant (.str x) kk pos) (.str x) :=
  fun _ _ _ s _ _ _ _ _ _ _ q => wpAny_Constant_str (q _ s.heap _ (.refl _) (.str _ _))
theorem ev_bool {b : Bool} {kk : Nat} {pos : Pos} : EvT C k sc σ (.Constant (.bool b) kk pos) (.bool b) :=
  fun _ _ _ s _ _ _ _ _ _ _ q => wpAny_Constant_bool (q _ s.heap s.toks (.refl _) (.bool _))

theorem ev_name {x : Str} {pos : Pos} {d : D} (hx : σ.lookup x = some d) (hd : (x == ("__debug__" : Str)) = false) (hc : (x == ("__classdict__" : Str)) = false) (hm : d.isMut = false := by rfl) : EvT C k sc σ (.Name x pos) d := by
  intro ok env A s Q E _ _ _ f _ q
  refine wpAny_Name ?_ hd
  by_cases hl : env.kindOf x = some .local
  · obtain ⟨m, hn, hm'⟩ := f.ns
    obtain ⟨v, hv, hr⟩ := hm' x d hx hl
    replace hr := hr.rep hm
    exact wpAny_loadName_local f.fn hl hn hv (q v s.heap s.toks (.refl _) hr)
  · obtain ⟨hk, c, v, hc', hv, hr⟩ := f.cell x d hx hl
    replace hr := hr.rep hm
    rcases hk with hk | hk
    · exact wpAny_loadName_cell f.fn hk hc' hv (q v s.heap s.toks (.refl _) hr)
    · exact wpAny_loadName_free f.fn hk hc' hv (q v s.heap s.toks (.refl _) hr) hc

theorem ev_binop {l r : Expr} {op : Operator} {pos : Pos} {a b c : D} (hl : EvT C k sc σ l a) (hr : EvT C k sc σ r b) (ho : Op2 C (binaryOp op) a b c) :
    EvT C k sc σ (.BinOp l op r pos) c := by
  intro ok env A s Q E hal hsc hA f g q
  refine wpAny_BinOp (hl.use ok env A s _ E hal hsc hA f g fun va h₁ t₁ n₁ x₁ r₁ => hr.use ok env A _ _ E (hal.ext x₁ n₁) hsc hA (f.ext x₁) (g.ext x₁) fun vb h₂ t₂ n₂ x₂ r₂ => ?_)
  exact ho.use ok A _ _ E va vb (hal.ext (x₁.trans x₂) n₂) hA.hd hA.cl (g.ext (x₁.trans x₂)) (r₁.ext x₂) r₂ fun v h₃ t₃ n₃ x₃ r₃ => q v h₃ t₃ ((x₁.trans x₂).trans x₃) r₃

theorem ev_unop {x : Expr} {op : UnaryOp} {pos : Pos} {a c : D} (hx : EvT C k sc σ x a) (ho : Op1 C (unaryOp op) a c) : EvT C k sc σ (.UnaryOp op x pos) c := by
  intro ok env A s Q E hal hsc hA f g q
  refine wpAny_UnaryOp (hx.use ok env A s _ E hal hsc hA f g fun va h₁ t₁ n₁ x₁ r₁ => ?_)
  exact ho.use ok A _ _ E va (hal.ext x₁ n₁) hA.hd hA.cl (g.ext x₁) r₁ fun v h₃ t₃ n₃ x₃ r₃ => q v h₃ t₃ (x₁.trans x₃) r₃

theorem ev_cmp {l r : Expr} {op : CmpOp} {pos : Pos} {a b c : D} (hl : EvT C k sc σ l a) (hr : EvT C k sc σ r b) (ho : Op2 C (compareOp op) a b c)
    (hm : behindInMarks op r = false) : EvT C k sc σ (.Compare l [op] [r] pos) c := by
  intro ok env A s Q E hal hsc hA f g q
  refine wpAny_Compare1 (hl.use ok env A s _ E hal hsc hA f g fun va h₁ t₁ n₁ x₁ r₁ => hr.use ok env A _ _ E (hal.ext x₁ n₁) hsc hA (f.ext x₁) (g.ext x₁) fun vb h₂ t₂ n₂ x₂ r₂ => ?_) hm
  exact ho.use ok A _ _ E va vb (hal.ext (x₁.trans x₂) n₂) hA.hd hA.cl (g.ext (x₁.trans x₂)) (r₁.ext x₂) r₂ fun v h₃ t₃ n₃ x₃ r₃ => q v h₃ t₃ ((x₁.trans x₂).trans x₃) r₃

theorem ts_cmp {l r : Expr} {op : CmpOp} {pos : Pos} {a b : D} {t : Bool} (hl : EvT C k sc σ l a) (hr : EvT C k sc σ r b) (ho : Op2 C (compareOp op) a b (.bool t))
    (hm : behindInMarks op r = false) : TsT C k sc σ (.Compare l [op] [r] pos) t := by
  intro ok env A s Q E hal hsc hA f g q
  refine wpAny_isTrue_Compare1 (hl.use ok env A s _ E hal hsc hA f g fun va h₁ t₁ n₁ x₁ r₁ => hr.use ok env A _ _ E (hal.ext x₁ n₁) hsc hA (f.ext x₁) (g.ext x₁) fun vb h₂ t₂ n₂ x₂ r₂ => ?_) hm
  refine ho.use ok A _ _ E va vb (hal.ext (x₁.trans x₂) n₂) hA.hd hA.cl (g.ext (x₁.trans x₂)) (r₁.ext x₂) r₂ fun v h₃ t₃ n₃ x₃ r₃ => ?_
  cases r₃
  exact wpAny_truthy_bool (q h₃ t₃ ((x₁.trans x₂).trans x₃))

theorem ev_ifexp_t {test body orelse : Expr} {pos : Pos} {d : D} (ht : TsT C k sc σ test true) (hb : EvT C k sc σ body d) : EvT C k sc σ (.IfExp test body orelse pos) d := by
  intro ok env A s Q E hal hsc hA f g q
  refine wpAny_IfExp (ht.use ok env A s _ E hal hsc hA f g fun h₁ t₁ n₁ x₁ => ?_)
  exact hb.use ok env A _ _ E (hal.ext x₁ n₁) hsc hA (f.ext x₁) (g.ext x₁) fun v h₂ t₂ n₂ x₂ r₂ => q v h₂ t₂ (x₁.trans x₂) r₂
theorem ev_ifexp_f {test body orelse : Expr} {pos : Pos} {d : D} (ht : TsT C k sc σ test false) (hb : EvT C k sc σ orelse d) : EvT C k sc σ (.IfExp test body orelse pos) d := by
  intro ok env A s Q E hal hsc hA f g q
  refine wpAny_IfExp (ht.use ok env A s _ E hal hsc hA f g fun h₁ t₁ n₁ x₁ => ?_)
  exact hb.use ok env A _ _ E (hal.ext x₁ n₁) hsc hA (f.ext x₁) (g.ext x₁) fun v h₂ t₂ n₂ x₂ r₂ => q v h₂ t₂ (x₁.trans x₂) r₂

/-- a list of expressions, one behind the other, as a display's items or a call's arguments -/
def EvsT (C : Cx) (k : Nat) (sc : Scope) (σ : Store) (es : List Expr) (ds : List D) : Prop :=
  ∀ (ok : Addr → Prop) (env : Env) (A : Around) (s : Shared) (Q : List Value → Shared → Prop) (E : Value → Shared → Prop) (pos : Pos), Al ok s → env.scope = sc → Room A k → FS C ok env σ s.heap → G C s.heap →
    (∀ vs h' tk, Ext C s.heap h' → RepL C ok h' ds vs → Q vs { s with heap := h', toks := tk }) → wpAny C.M A (spliced (backTo pos (starEach es env))) Q E s

theorem EvsT.use {es : List Expr} {ds : List D} (x : EvsT C k sc σ es ds) (ok : Addr → Prop) (env : Env) (A : Around) (s : Shared) (Q : List Value → Shared → Prop) (E : Value → Shared → Prop) (pos : Pos) (hal : Al ok s) (hsc : env.scope = sc) (hA : Room A k) (f : FS C ok env σ s.heap) (g : G C s.heap)
    (q : ∀ vs h' tk, 1 ≤ tk → Ext C s.heap h' → RepL C ok h' ds vs → Q vs { s with heap := h', toks := tk }) : wpAny C.M A (spliced (backTo pos (starEach es env))) Q E s :=
  wpAny_with_toks hal.t (x ok env A s _ _ pos hal hsc hA f g fun v h' tk y r n => q v h' tk n y r)
theorem evs_nil : EvsT C k sc σ [] [] := fun _ _ _ s _ _ _ _ _ _ _ _ q => wpAny_items_nil (q [] s.heap s.toks (.refl _) .nil)
theorem evs_cons {e : Expr} {es : List Expr} {d : D} {ds : List D} (he : EvT C k sc σ e d) (hes : EvsT C k sc σ es ds)
    (hs : ∀ env' : Env, starEach (e :: es) env' = (false, eval e env') :: starEach es env') : EvsT C k sc σ (e :: es) (d :: ds) := by
  intro ok env A s Q E pos hal hsc hA f g q
  rw [hs]
  show wpAny C.M A (spliced ((false, eval e env) :: backTo pos (starEach es env))) Q E s
  refine Calls.spliced_cons (he.use ok env A s _ E hal hsc hA f g fun v h₁ t₁ n₁ x₁ r₁ => ?_)
  exact hes.use ok env A _ _ E pos (hal.ext x₁ n₁) hsc hA (f.ext x₁) (g.ext x₁) fun vs h₂ t₂ n₂ x₂ r₂ => q (v :: vs) h₂ t₂ (x₁.trans x₂) (.cons (r₁.ext x₂) r₂)
end rules

theorem op_add_int {a b : Int} : Op2 C (binaryOp .Add) (.int a) (.int b) (.int (a + b)) := by
  intro ok A s Q E va vb _ _ _ _ ra rb q; cases ra; cases rb
  exact add_int (q _ s.heap _ (.refl _) (.int _ _))
theorem op_sub_int {a b : Int} : Op2 C (binaryOp .Sub) (.int a) (.int b) (.int (a - b)) := by
  intro ok A s Q E va vb _ _ _ _ ra rb q; cases ra; cases rb
  exact sub_int (q _ s.heap _ (.refl _) (.int _ _))
theorem op_mul_int {a b : Int} (h : IntMulOk a b) : Op2 C (binaryOp .Mult) (.int a) (.int b) (.int (a * b)) := by
  intro ok A s Q E va vb _ _ _ _ ra rb q; cases ra; cases rb
  exact mul_int (q _ s.heap _ (.refl _) (.int _ _)) h
theorem op_mod_int {a b : Int} (h : b ≠ 0) : Op2 C (binaryOp .Mod) (.int a) (.int b) (.int (a.fmod b)) := by
  intro ok A s Q E va vb _ _ _ _ ra rb q; cases ra; cases rb
  exact mod_int h (q _ s.heap _ (.refl _) (.int _ _))
theorem op_div_int {a b : Int} (h : b ≠ 0) (hp : Builtin.divisionGoesByPylong a b = false) : Op2 C (binaryOp .FloorDiv) (.int a) (.int b) (.int (a.fdiv b)) := by
  intro ok A s Q E va vb _ _ _ _ ra rb q; cases ra; cases rb
  exact floordiv_int h (q _ s.heap _ (.refl _) (.int _ _)) (.inl hp)
theorem op_shl_int {a n : Int} (h : 0 ≤ n) (hs : (Builtin.Int.intBits a : Int) + n ≤ 2 ^ 27) : Op2 C (binaryOp .LShift) (.int a) (.int n) (.int (a * 2 ^ n.toNat)) := by
  intro ok A s Q E va vb _ _ _ _ ra rb q; cases ra; cases rb
  exact lshift_int h hs (q _ s.heap _ (.refl _) (.int _ _))
theorem op_shr_int {a n : Int} (h : 0 ≤ n) : Op2 C (binaryOp .RShift) (.int a) (.int n) (.int (a.fdiv (2 ^ n.toNat))) := by
  intro ok A s Q E va vb _ _ _ _ ra rb q; cases ra; cases rb
  exact rshift_int h (q _ s.heap _ (.refl _) (.int _ _))
theorem op_xor_int {a b : Int} : Op2 C (binaryOp .BitXor) (.int a) (.int b) (.int (Builtin.bitXor a b)) := by
  intro ok A s Q E va vb _ _ _ _ ra rb q; cases ra; cases rb
  exact xor_int (q _ s.heap _ (.refl _) (.int _ _))
theorem op_neg_int {a : Int} : Op1 C (unaryOp .USub) (.int a) (.int (-a)) := by
  intro ok A s Q E va _ _ _ _ ra q; cases ra
  exact P.neg_int (q _ s.heap _ (.refl _) (.int _ _))
theorem op_eq_int {a b : Int} : Op2 C (compareOp .Eq) (.int a) (.int b) (.bool (a == b)) := by
  intro ok A s Q E va vb _ _ _ _ ra rb q; cases ra; cases rb
  exact eq_int (q _ s.heap s.toks (.refl _) (.bool _))
theorem op_ne_int {a b : Int} : Op2 C (compareOp .NotEq) (.int a) (.int b) (.bool (a != b)) := by
  intro ok A s Q E va vb _ _ _ _ ra rb q; cases ra; cases rb
  exact ne_int (q _ s.heap s.toks (.refl _) (.bool _))
theorem op_lt_int {a b : Int} : Op2 C (compareOp .Lt) (.int a) (.int b) (.bool (decide (a < b))) := by
  intro ok A s Q E va vb _ _ _ _ ra rb q; cases ra; cases rb
  exact lt_int (q _ s.heap s.toks (.refl _) (.bool _))
theorem op_le_int {a b : Int} : Op2 C (compareOp .LtE) (.int a) (.int b) (.bool (decide (a ≤ b))) := by
  intro ok A s Q E va vb _ _ _ _ ra rb q; cases ra; cases rb
  exact P.le_int (q _ s.heap s.toks (.refl _) (.bool _))
theorem op_ge_int {a b : Int} : Op2 C (compareOp .GtE) (.int a) (.int b) (.bool (decide (a ≥ b))) := by
  intro ok A s Q E va vb _ _ _ _ ra rb q; cases ra; cases rb
  exact P.ge_int (q _ s.heap s.toks (.refl _) (.bool _))
end Mine
namespace Mine
variable {C : Cx} {ok : Addr → Prop}

structure Fresh (N : Str → Prop) (env : Env) (h₀ : Heap) : Prop where
  loc : h₀.get? env.locals = none
  abv : ∀ a, env.locals < a → h₀.get? a = none
  cel : ∀ x c, N x → env.kindOf x = some .cell → env.cells.lookup x = some c → h₀.get? c = none

inductive Out where
  | next (σ : Store)
  | cont (σ : Store)
  | brk (σ : Store)
  | ret (d : D)

def OutT (C : Cx) (ok : Addr → Prop) (env : Env) (h : Heap) : Out → Flow → Prop
  | .next σ, f => f = .next ∧ FS C ok env σ h
  | .cont σ, f => f = .cont ∧ FS C ok env σ h
  | .brk σ, f => f = .brk ∧ FS C ok env σ h
  | .ret d, f => ∃ v, f = .ret v ∧ Rep C ok h d v

abbrev Post (C : Cx) (ok : Addr → Prop) (h₀ : Heap) (env : Env) (o : Out) (Q : Flow → Shared → Prop) (s : Shared) : Prop :=
  ∀ f h' tk, Ext C h₀ h' → KD env.locals ok s.heap h' → OutT C ok env h' o f → Q f { s with heap := h', toks := tk }

def ExT (C : Cx) (k : Nat) (sc : Scope) (σ : Store) (st : List Stmt) (o : Out) : Prop :=
  ∀ (ok : Addr → Prop) (env : Env) (A : Around) (s : Shared) (Q : Flow → Shared → Prop) (E : Value → Shared → Prop) (h₀ : Heap), AlH ok s.heap → 1 ≤ s.toks → env.scope = sc → Room A k → Fresh (fun _ => True) env h₀ → G C h₀ → Ext C h₀ s.heap → FS C ok env σ s.heap →
    Post C ok h₀ env o Q s → wpAny C.M A (execs st env) Q E s
def ExS (C : Cx) (k : Nat) (sc : Scope) (σ : Store) (st : Stmt) (o : Out) : Prop :=
  ∀ (ok : Addr → Prop) (env : Env) (A : Around) (s : Shared) (Q : Flow → Shared → Prop) (E : Value → Shared → Prop) (h₀ : Heap), AlH ok s.heap → 1 ≤ s.toks → env.scope = sc → Room A k → Fresh (fun _ => True) env h₀ → G C h₀ → Ext C h₀ s.heap → FS C ok env σ s.heap →
    Post C ok h₀ env o Q s → wpAny C.M A (exec st env) Q E s
def AsT (C : Cx) (N : Str → Prop) (sc : Scope) (σ : Store) (target : Expr) (d : D) (σ' : Store) : Prop :=
  ∀ (ok : Addr → Prop) (env : Env) (A : Around) (s : Shared) (Q : Unit → Shared → Prop) (E : Value → Shared → Prop) (h₀ : Heap) (v : Value), env.scope = sc → A.handled = none → Fresh N env h₀ → G C h₀ → Ext C h₀ s.heap → FS C ok env σ s.heap → Rep C ok s.heap d v →
    (∀ h' tk, Ext C h₀ h' → KD env.locals every s.heap h' → FS C ok env σ' h' → Q () { s with heap := h', toks := tk }) → wpAny C.M A (assign target env v) Q E s

section
variable {k : Nat} {N : Str → Prop} {sc : Scope} {σ : Store}

theorem lookup_cons_ne {x y : Str} {d : D} (h : y ≠ x) : ((x, d) :: σ).lookup y = σ.lookup y := by
  rw [List.lookup_cons, beq_eq_false_iff_ne.mpr h]
theorem lookup_cons_eq {x : Str} {d : D} : ((x, d) :: σ).lookup x = some d := by
  rw [List.lookup_cons, beq_self_eq_true]

/-- but for one place, a name table or a cell, the heap is as it was -/
def StoreAt (h h' : Heap) : Prop := ∃ a o, Heap.SameBut a h h' ∧ h.get? a = some o ∧ ((∃ es ep, o.data = .dict es ep) ∨ ∃ v, o.data = .cell v)
/-- the store of a name -/
theorem store_name {env : Env} {A : Around} {s : Shared} {Q : Unit → Shared → Prop} {E : Value → Shared → Prop} {h₀ : Heap} {v : Value} {x : Str} {d : D}
    (hx : env.kindOf x = some .local ∨ env.kindOf x = some .cell) (hN : N x) (hf : Fresh N env h₀) (e : Ext C h₀ s.heap) (f : FS C ok env σ s.heap) (r : Rep C ok s.heap d v)
    (q : ∀ h' tk, Ext C h₀ h' → KD env.locals every s.heap h' → FS C ok env ((x, d) :: σ) h' → (∀ L' m', L' ≠ env.locals → s.heap.Ns L' m' → h'.Ns L' m') → StoreAt s.heap h' → Q () { s with heap := h', toks := tk }) : wpAny C.M A (storeName env x v) Q E s := by
  obtain ⟨m, hn, hm⟩ := f.ns
  rcases hx with hx | hx
  · refine wpAny_storeName_local hx hn (fun h' hn' hs' => ?_) (by rw [f.fn]; rfl)
    have kd : KD env.locals every s.heap h' := kd_ns hn hn' hs'
    refine q h' _ (e.store_ns hn hf.loc hs') kd ⟨f.fn, f.gl, f.bl, ⟨_, hn', fun y dy ey ky => ?_⟩, fun y dy ey ky => ?_, fun y ky => ?_, f.apart⟩ (fun L' m' hne hn'' => hn''.sameBut hs' hne) (let ⟨o, es, ep, e1, e2, _⟩ := hn; ⟨_, o, hs', e1, .inl ⟨es, ep, e2⟩⟩)
    · by_cases hy : y = x
      · subst hy
        rw [lookup_cons_eq] at ey; cases ey
        exact ⟨v, by simp, (.inl (r.mono kd.kr.some))⟩
      · rw [lookup_cons_ne hy] at ey
        obtain ⟨w, e1, e2⟩ := hm y dy ey ky
        exact ⟨w, by simp [hy, e1], e2.keep kd.kr⟩
    · have hy : y ≠ x := by rintro rfl; exact ky hx
      rw [lookup_cons_ne hy] at ey
      obtain ⟨a, c, w, e1, e2, e3⟩ := f.cell y dy ey ky
      exact ⟨a, c, w, e1, e2.sameBut hs' (ns_ne_cell hn e2), e3.keep kd.kr⟩
    · obtain ⟨c, w, e1, e2⟩ := f.cells y ky
      exact ⟨c, w, e1, e2.sameBut hs' (ns_ne_cell hn e2)⟩
  · obtain ⟨c, v0, hc, hv0⟩ := f.cells x (.inl hx)
    refine wpAny_storeName_cell f.fn hx hc hv0 fun h' hc' hs' => ?_
    have kd : KD env.locals every s.heap h' := kd_cell hv0 hc' hs'
    have hnl : ¬ env.kindOf x = some .local := by rw [hx]; decide
    refine q h' s.toks (e.store_cell hv0 (hf.cel x c hN hx hc) hs') kd ⟨f.fn, f.gl, f.bl, ⟨m, hn.sameBut hs' (Ne.symm (ns_ne_cell hn hv0)), fun y dy ey ky => ?_⟩, fun y dy ey ky => ?_, fun y ky => ?_, f.apart⟩ (fun L' m' _ hn'' => hn''.sameBut hs' (Ne.symm (ns_ne_cell hn'' hv0))) (let ⟨o, e1, e2⟩ := hv0; ⟨_, o, hs', e1, .inr ⟨_, e2⟩⟩)
    · have hy : y ≠ x := by rintro rfl; exact hnl ky
      rw [lookup_cons_ne hy] at ey
      obtain ⟨w, e1, e2⟩ := hm y dy ey ky
      exact ⟨w, e1, e2.keep kd.kr⟩
    · by_cases hy : y = x
      · subst hy
        rw [lookup_cons_eq] at ey; cases ey
        exact ⟨.inl hx, c, v, hc, hc', (.inl (r.mono kd.kr.some))⟩
      · rw [lookup_cons_ne hy] at ey
        obtain ⟨a, c', w, e1, e2, e3⟩ := f.cell y dy ey ky
        exact ⟨a, c', w, e1, e2.sameBut hs' (fun e => hy (name_of_addr f.apart (mem_of_lookup e1) (e ▸ mem_of_lookup hc))), e3.keep kd.kr⟩
    · by_cases hy : y = x
      · subst hy
        exact ⟨c, some v, hc, hc'⟩
      · obtain ⟨c', w, e1, e2⟩ := f.cells y ky
        exact ⟨c', w, e1, e2.sameBut hs' (fun e => hy (name_of_addr f.apart (mem_of_lookup e1) (e ▸ mem_of_lookup hc)))⟩

theorem as_name {x : Str} {pos : Pos} {d : D} (hN : N x) (hx : sc.names.lookup x = some .local ∨ sc.names.lookup x = some .cell) : AsT C N sc σ (.Name x pos) d ((x, d) :: σ) :=
  fun ok env _ _ _ _ _ _ hsc _ hf _ e f r q => wpAny_assign_Name (store_name (by unfold Env.kindOf; rw [hsc]; exact hx) hN hf e f r fun h' tk a b c _ _ => q h' tk a b c)

/-- targets in a row -/
def AssT (C : Cx) (N : Str → Prop) (sc : Scope) (σ : Store) (ts : List Expr) (ds : List D) (σ' : Store) : Prop :=
  ∀ (ok : Addr → Prop) (env : Env) (A : Around) (s : Shared) (Q : Unit → Shared → Prop) (E : Value → Shared → Prop) (h₀ : Heap) (vs : List Value), env.scope = sc → A.handled = none → Fresh N env h₀ → G C h₀ → Ext C h₀ s.heap → FS C ok env σ s.heap → RepL C ok s.heap ds vs →
    (∀ h' tk, Ext C h₀ h' → KD env.locals every s.heap h' → FS C ok env σ' h' → Q () { s with heap := h', toks := tk }) → wpAny C.M A (assignInOrder ((assignEach ts env).map (·.2)) vs) Q E s
theorem ass_nil : AssT C N sc σ [] [] σ := by
  intro ok env A s Q E h₀ vs _ _ _ _ e f r q
  cases r
  exact wpAny_pure (q s.heap s.toks e (KD.refl _) f)
theorem ass_cons {x : Str} {pos : Pos} {ts : List Expr} {d : D} {ds : List D} {σ₁ σ' : Store} (h : AsT C N sc σ (.Name x pos) d σ₁) (hr : AssT C N sc σ₁ ts ds σ') : AssT C N sc σ (.Name x pos :: ts) (d :: ds) σ' := by
  intro ok env A s Q E h₀ vs hsc hh hf g e f r q
  cases r with
  | cons r rs =>
    show wpAny C.M A (do holding _ (assign (.Name x pos) env _); assignInOrder ((assignEach ts env).map (·.2)) _) Q E s
    refine wpAny_bind (wpAny_holding (h ok env A s _ E h₀ _ hsc hh hf g e f r fun h₁ t₁ e₁ k₁ f₁ => ?_))
    exact hr ok env A _ _ E h₀ _ hsc hh hf g e₁ f₁ (rs.mono k₁.kr.some) fun h₂ t₂ e₂ k₂ f₂ => q h₂ t₂ e₂ (k₁.trans k₂) f₂
theorem as_tuple {ts : List Expr} {kk} {pos : Pos} {ds : List D} {σ' : Store} (h : AssT C N sc σ ts ds σ') (hn : ∀ env, (assignEach ts env).length = ds.length) (hs : ∀ env, (assignEach ts env).findIdx? (·.1) = none) :
    AsT C N sc σ (.Tuple ts kk pos) (.tuple ds) σ' := by
  intro ok env A s Q E h₀ v hsc hh hf g e f r q
  cases r with
  | tuple ha l rl =>
    refine wpAny_assign_Tuple hh (Rep.isTuple l) (by rw [hn, ← rl.length]; simp) (hs env) fun h₁ x₁ => ?_
    have k₁ : Ext C s.heap h₁ := .of_keeps fun b o eb => x₁ b o (Nat.ne_of_lt (Heap.lt_size eb)) eb
    exact h ok env A { s with heap := h₁ } _ E h₀ _ hsc hh hf g (e.trans k₁) (f.ext k₁) (rl.ext k₁) fun h₂ t₂ e₂ k₂ f₂ => q h₂ t₂ e₂ (k₁.kd.trans k₂) f₂

theorem ExT.use {st : List Stmt} {o : Out} (x : ExT C k sc σ st o) (ok : Addr → Prop) (env : Env) (A : Around) (s : Shared) (Q : Flow → Shared → Prop) (E : Value → Shared → Prop) (h₀ : Heap) (hal : AlH ok s.heap) (hn : 1 ≤ s.toks) (hsc : env.scope = sc) (hA : Room A k) (hf : Fresh (fun _ => True) env h₀) (g : G C h₀) (e : Ext C h₀ s.heap) (f : FS C ok env σ s.heap)
    (q : ∀ f h' tk, 1 ≤ tk → Ext C h₀ h' → KD env.locals ok s.heap h' → OutT C ok env h' o f → Q f { s with heap := h', toks := tk }) : wpAny C.M A (execs st env) Q E s :=
  wpAny_with_toks hn (x ok env A s _ _ h₀ hal hn hsc hA hf g e f fun f h' tk a b c n => q f h' tk n a b c)
theorem ExS.use {st : Stmt} {o : Out} (x : ExS C k sc σ st o) (ok : Addr → Prop) (env : Env) (A : Around) (s : Shared) (Q : Flow → Shared → Prop) (E : Value → Shared → Prop) (h₀ : Heap) (hal : AlH ok s.heap) (hn : 1 ≤ s.toks) (hsc : env.scope = sc) (hA : Room A k) (hf : Fresh (fun _ => True) env h₀) (g : G C h₀) (e : Ext C h₀ s.heap) (f : FS C ok env σ s.heap)
    (q : ∀ f h' tk, 1 ≤ tk → Ext C h₀ h' → KD env.locals ok s.heap h' → OutT C ok env h' o f → Q f { s with heap := h', toks := tk }) : wpAny C.M A (exec st env) Q E s :=
  wpAny_with_toks hn (x ok env A s _ _ h₀ hal hn hsc hA hf g e f fun f h' tk a b c n => q f h' tk n a b c)
theorem AsT.use {target : Expr} {d : D} {σ' : Store} (x : AsT C N sc σ target d σ') (ok : Addr → Prop) (env : Env) (A : Around) (s : Shared) (Q : Unit → Shared → Prop) (E : Value → Shared → Prop) (h₀ : Heap) (v : Value) (hn : 1 ≤ s.toks) (hsc : env.scope = sc) (hh : A.handled = none) (hf : Fresh N env h₀) (g : G C h₀) (e : Ext C h₀ s.heap) (f : FS C ok env σ s.heap) (r : Rep C ok s.heap d v)
    (q : ∀ h' tk, 1 ≤ tk → Ext C h₀ h' → KD env.locals every s.heap h' → FS C ok env σ' h' → Q () { s with heap := h', toks := tk }) : wpAny C.M A (assign target env v) Q E s :=
  wpAny_with_toks hn (x ok env A s _ _ h₀ v hsc hh hf g e f r fun h' tk a b c n => q h' tk n a b c)

theorem exs_mono {st : Stmt} {o : Out} {k' : Nat} (h : ExS C k sc σ st o) (hk : k ≤ k') : ExS C k' sc σ st o := fun ok env A s Q E h₀ hal hn hsc r => h ok env A s Q E h₀ hal hn hsc (r.le hk)

theorem ex_nil : ExT C k sc σ [] (.next σ) := fun _ _ _ s _ _ _ _ _ _ _ _ _ e f q => wpAny_execs_nil (q .next s.heap s.toks e (KD.refl _) ⟨rfl, f⟩)
theorem ex_cons {st : Stmt} {rest : List Stmt} {σ₁ : Store} {o : Out} (h : ExS C k sc σ st (.next σ₁)) (hr : ExT C k sc σ₁ rest o) : ExT C k sc σ (st :: rest) o := by
  intro ok env A s Q E h₀ hal hn hsc hA hf g e f q
  refine wpAny_execs_cons (h.use ok env A s _ E h₀ hal hn hsc hA hf g e f fun fl h₁ t₁ n₁ e₁ k₁ o₁ => ?_)
  obtain ⟨rfl, f₁⟩ := o₁
  exact hr.use ok env A _ _ E h₀ (hal.dom k₁.dom) n₁ hsc hA hf g e₁ f₁ fun fl h₂ t₂ n₂ e₂ k₂ o₂ => q fl h₂ t₂ e₂ (k₁.trans k₂) o₂
theorem ex_cons_ret {st : Stmt} {rest : List Stmt} {d : D} (h : ExS C k sc σ st (.ret d)) : ExT C k sc σ (st :: rest) (.ret d) := by
  intro ok env A s Q E h₀ hal hn hsc hA hf g e f q
  refine wpAny_execs_cons (h.use ok env A s _ E h₀ hal hn hsc hA hf g e f fun fl h₁ t₁ n₁ e₁ k₁ o₁ => ?_)
  obtain ⟨v, rfl, r⟩ := o₁
  exact q _ h₁ t₁ e₁ k₁ ⟨v, rfl, r⟩
theorem ex_cons_brk {st : Stmt} {rest : List Stmt} {σ₁ : Store} (h : ExS C k sc σ st (.brk σ₁)) : ExT C k sc σ (st :: rest) (.brk σ₁) := by
  intro ok env A s Q E h₀ hal hn hsc hA hf g e f q
  refine wpAny_execs_cons (h.use ok env A s _ E h₀ hal hn hsc hA hf g e f fun fl h₁ t₁ n₁ e₁ k₁ o₁ => ?_)
  obtain ⟨rfl, f₁⟩ := o₁
  exact q _ h₁ t₁ e₁ k₁ ⟨rfl, f₁⟩

theorem ex_weaken {st : List Stmt} {σ₁ σ₂ : Store} (h : ExT C k sc σ st (.next σ₁)) (hw : ∀ n d, σ₂.lookup n = some d → σ₁.lookup n = some d) : ExT C k sc σ st (.next σ₂) :=
  fun ok env A s Q E h₀ hal hn hsc hA hf g e f q => h.use ok env A s Q E h₀ hal hn hsc hA hf g e f fun fl h₁ t₁ n₁ e₁ k₁ o₁ => q fl h₁ t₁ e₁ k₁ ⟨o₁.1, o₁.2.weaken hw⟩
theorem ex_pre {st : List Stmt} {σ₀ : Store} {o : Out} (h : ExT C k sc σ st o) (hw : ∀ n d, σ.lookup n = some d → σ₀.lookup n = some d) : ExT C k sc σ₀ st o :=
  fun ok env A s Q E h₀ hal hn hsc hA hf g e f q => h ok env A s Q E h₀ hal hn hsc hA hf g e (f.weaken hw) q

theorem exs_assign {x : Str} {p pos : Pos} {value : Expr} {d : D} (hv : EvT C k sc σ value d) (hx : sc.names.lookup x = some .local ∨ sc.names.lookup x = some .cell)
    (hs : ∀ env : Env, env.scope = sc → swapsWith value (some (.Name x p)) pos.line env = pure false) : ExS C k sc σ (.Assign [.Name x p] value pos) (.next ((x, d) :: σ)) := by
  intro ok env A s Q E h₀ hal hn hsc hA hf g e f q
  refine wpAny_Assign_Name ?_ (hs env hsc)
  refine hv.use ok env A s _ E ⟨hal, hn⟩ hsc hA f (g.ext e) fun v h₁ t₁ n₁ x₁ r₁ => ?_
  exact store_name (by unfold Env.kindOf; rw [hsc]; exact hx) trivial hf (e.trans x₁) (f.ext x₁) r₁ fun h₂ t₂ e₂ k₂ f₂ _ _ => q .next h₂ t₂ e₂ (x₁.kd.trans k₂.some) ⟨rfl, f₂⟩

theorem exs_if_t {test : Expr} {body orelse : List Stmt} {pos : Pos} {o : Out} (ht : TsT C k sc σ test true) (hb : ExT C k sc σ body o) : ExS C k sc σ (.If test body orelse pos) o := by
  intro ok env A s Q E h₀ hal hn hsc hA hf g e f q
  refine wpAny_If (ht.use ok env A s _ E ⟨hal, hn⟩ hsc hA f (g.ext e) fun h₁ t₁ n₁ x₁ => ?_)
  exact hb.use ok env A _ _ E h₀ (hal.dom x₁.dom) n₁ hsc hA hf g (e.trans x₁) (f.ext x₁) fun fl h₂ t₂ n₂ e₂ k₂ o₂ => q fl h₂ t₂ e₂ (x₁.kd.trans k₂) o₂
theorem exs_if_f {test : Expr} {body orelse : List Stmt} {pos : Pos} {o : Out} (ht : TsT C k sc σ test false) (hb : ExT C k sc σ orelse o) : ExS C k sc σ (.If test body orelse pos) o := by
  intro ok env A s Q E h₀ hal hn hsc hA hf g e f q
  refine wpAny_If (ht.use ok env A s _ E ⟨hal, hn⟩ hsc hA f (g.ext e) fun h₁ t₁ n₁ x₁ => ?_)
  exact hb.use ok env A _ _ E h₀ (hal.dom x₁.dom) n₁ hsc hA hf g (e.trans x₁) (f.ext x₁) fun fl h₂ t₂ n₂ e₂ k₂ o₂ => q fl h₂ t₂ e₂ (x₁.kd.trans k₂) o₂
theorem exs_ret {ex : Expr} {pos : Pos} {d : D} (hv : EvT C k sc σ ex d) : ExS C k sc σ (.Return (some ex) pos) (.ret d) := by
  intro ok env A s Q E h₀ hal hn hsc hA hf g e f q
  refine wpAny_Return_some (hv.use ok env A s _ E ⟨hal, hn⟩ hsc hA f (g.ext e) fun v h₁ t₁ n₁ x₁ r₁ => ?_)
  exact q _ h₁ t₁ (e.trans x₁) x₁.kd ⟨v, rfl, r₁⟩
theorem exs_brk {pos : Pos} : ExS C k sc σ (.Break pos) (.brk σ) :=
  fun _ _ _ s _ _ _ _ _ _ _ _ _ e f q => wpAny_Break (q .brk s.heap s.toks e (KD.refl _) ⟨rfl, f⟩)
end
end Mine
namespace Mine
variable {C : Cx} {ok : Addr → Prop}

def ownedIter (n : String) : Bool := ["enumerate", "zip", "dict_itemiterator", "dict_reverseitemiterator", "odict_iterator", "itertools.zip_longest", "itertools.pairwise"].contains n

def ItObj (h : Heap) (I : Addr) : Prop :=
  ∃ o n vs, h.get? I = some o ∧ o.cls = .type n ∧ o.data = .fields vs ∧ vs.size ≤ 8 ∧ (∀ q t, vs[1]? ≠ some (.str q t)) ∧ ownedIter n = false

/-- the walk over the data ds by the iterator I, from the heap h₁ on -/
structure ItW (C : Cx) (ok : Addr → Prop) (A : Around) (I : Addr) (ds : List D) (St : Nat → Heap → Prop) (h₁ : Heap) : Prop where
  st : St 0 h₁
  item : ∀ (ok' : Addr → Prop) i d (s : Shared) (Q : Option Value → Shared → Prop) (E : Value → Shared → Prop), (∀ a o, h₁.get? a = some o → ok a → ok' a) → ds[i]? = some d → KR ok' h₁ s.heap → St i s.heap →
    (∀ v h' tk, Rep C ok' h' d v → St (i + 1) h' → (∀ b o, b ≠ I → s.heap.get? b = some o → h'.get? b = some o) → Q (some v) { s with heap := h', toks := tk }) → wpAny C.M A (pyNext (.ref I)) Q E s
  done : ∀ (s : Shared) (Q : Option Value → Shared → Prop) (E : Value → Shared → Prop), St ds.length s.heap →
    (∀ h' tk, (∀ b o, b ≠ I → s.heap.get? b = some o → h'.get? b = some o) → Q none { s with heap := h', toks := tk }) → wpAny C.M A (pyNext (.ref I)) Q E s
  self : ∀ i (s : Shared) (Q : Value → Shared → Prop) (E : Value → Shared → Prop), St i s.heap → Q (.ref I) s → wpAny C.M A (pyIter (.ref I)) Q E s
  kd : ∀ i h h', St i h → KD1 ok h₁ h h' → St i h'
  obj : ∀ i h, St i h → ItObj h I

theorem ItObj.notData {h : Heap} {I : Addr} (x : ItObj h I) {o : Obj} (e : h.get? I = some o) : ¬ DataObj o := by
  obtain ⟨o', n, vs, e', hc, hd, _⟩ := x
  rw [e] at e'; cases e'
  rintro (⟨its, n, hd'⟩ | ⟨es, n, hd', _⟩) <;> rw [hd] at hd' <;> cases hd'
theorem kr_iter {h h' : Heap} {I : Addr} (x : ItObj h I) (k : ∀ b o, b ≠ I → h.get? b = some o → h'.get? b = some o) : KR ok h h' := fun b o _ e hD => by
  by_cases hb : b = I
  · subst hb; exact absurd hD (x.notData e)
  · exact k b o hb e
theorem dom_iter {h h' : Heap} {I : Addr} (x : ItObj h' I) (k : ∀ b o, b ≠ I → h.get? b = some o → h'.get? b = some o) : Dom h h' := fun a e => by
  by_cases hb : a = I
  · subst hb
    obtain ⟨o', _, _, e', _⟩ := x
    rw [e'] at e; cases e
  · cases q : h.get? a with
    | none => rfl
    | some o => rw [k a o hb q] at e; cases e
theorem ns_iter {h h' : Heap} {I L : Addr} {m : Str → Option Value} (x : ItObj h I) (k : ∀ b o, b ≠ I → h.get? b = some o → h'.get? b = some o) (hn : h.Ns L m) : h'.Ns L m := by
  obtain ⟨o, es, ep, e, hd, r⟩ := hn
  refine ⟨o, es, ep, k L o ?_ e, hd, r⟩
  rintro rfl
  obtain ⟨o', n, vs, e', hc, hd', _⟩ := x
  rw [e] at e'; cases e'
  rw [hd] at hd'; cases hd'
theorem cell_iter {h h' : Heap} {I c : Addr} {v : Option Value} (x : ItObj h I) (k : ∀ b o, b ≠ I → h.get? b = some o → h'.get? b = some o) (hn : h.IsCell c v) : h'.IsCell c v := by
  obtain ⟨o, e, hd⟩ := hn
  refine ⟨o, k c o ?_ e, hd⟩
  rintro rfl
  obtain ⟨o', n, vs, e', hc, hd', _⟩ := x
  rw [e] at e'; cases e'
  rw [hd] at hd'; cases hd'
theorem FS.iter {env : Env} {σ : Store} {h h' : Heap} {I : Addr} (f : FS C ok env σ h) (x : ItObj h I) (k : ∀ b o, b ≠ I → h.get? b = some o → h'.get? b = some o) : FS C ok env σ h' where
  fn := f.fn
  gl := f.gl
  bl := f.bl
  ns := let ⟨m, a, b⟩ := f.ns; ⟨m, ns_iter x k a, fun n d e kk => let ⟨v, e1, e2⟩ := b n d e kk; ⟨v, e1, e2.keep (kr_iter x k)⟩⟩
  cell := fun n d e kk => let ⟨a, c, v, e1, e2, e3⟩ := f.cell n d e kk; ⟨a, c, v, e1, cell_iter x k e2, e3.keep (kr_iter x k)⟩
  cells := fun n kk => let ⟨c, v, e1, e2⟩ := f.cells n kk; ⟨c, v, e1, cell_iter x k e2⟩
  apart := f.apart
theorem Ext.iter {h₀ h h' : Heap} {I : Addr} (e : Ext C h₀ h) (hI : h₀.get? I = none) (x : ItObj h I) (k : ∀ b o, b ≠ I → h.get? b = some o → h'.get? b = some o) : Ext C h₀ h' := by
  have ne : ∀ b o, h₀.get? b = some o → b ≠ I := fun b o eb hb => by subst hb; rw [hI] at eb; cases eb
  refine ⟨fun b o eb n => k b o (ne b o eb) (e.keep b o eb n), fun b vs eb => let ⟨m, r⟩ := e.tab b vs eb; ⟨m, k b _ (ne b _ eb) r⟩,
    fun b o vs eb hc hd => let ⟨o', r⟩ := e.tab' b o vs eb hc hd; ⟨o', k b _ (ne b _ eb) r⟩, fun z q hq => ?_⟩
  obtain ⟨ps, hc, ht, r⟩ := e.inv z q hq
  obtain ⟨oI, n, vsI, eI, cI, dI, sI, strI, _⟩ := x
  have neI : ∀ b ob vs, h.get? b = some ob → ob.data = .fields vs → (vs.size > 8 ∨ (∃ q t, vs[1]? = some (.str q t)) ∨ ob.cls = .none) → b ≠ I := fun b ob vs eb hv hz hb => by
    subst hb; rw [eb] at eI; cases eI
    rw [hv] at dI; cases dI
    rcases hz with hz | ⟨q, t, hz⟩ | hz
    · omega
    · exact strI q t hz
    · rw [hz] at cI; cases cI
  have hc' : h'.IsCode q.1 q.2.1 ps := by
    obtain ⟨o, vs, f, tf, fl, tg, b, n', tt, op, e1, e2, e3, e4, e5, e6, e7, e8, e9, e10, e11⟩ := hc
    refine ⟨o, vs, f, tf, fl, tg, b, n', tt, op, k _ _ ?_ e1, e2, e3, e4, e5, e6, e7, k _ _ ?_ e8, e9, e10, e11⟩
    · refine neI _ _ _ e1 e2 (.inl ?_)
      by_cases hz : vs.size > 8
      · exact hz
      · exfalso
        rw [Array.getD_eq_getD_getElem?, Array.getElem?_eq_none (by omega)] at e3
        cases e3
    · exact neI _ _ _ ht.2 rfl (.inr (.inr rfl))
  have ht' : h'.TableAt q.1 q.2.1 ps := by
    obtain ⟨⟨o, vs, e1, e2, e3, e4⟩, e5⟩ := ht
    refine ⟨⟨o, vs, k _ _ ?_ e1, e2, e3, e4⟩, k _ _ (neI _ _ _ e5 rfl (.inr (.inr rfl))) e5⟩
    refine neI _ _ _ e1 e3 (.inl ?_)
    by_cases hz : vs.size > 8
    · exact hz
    · exfalso
      rw [Array.getElem?_eq_none (by omega)] at e4
      cases e4
  refine ⟨ps, hc', ht', ?_⟩
  rcases r with r | ⟨c', ec, c, oc, vs, t, e1, e2, e3, e4⟩
  · exact .inl r
  · exact .inr ⟨c', ec, c, oc, vs, t, e1, k _ _ (neI _ _ _ e2 e3 (.inr (.inl ⟨_, _, e4⟩))) e2, e3, e4⟩

theorem own_go {A : Around} {s : Shared} {Q : Unit → Shared → Prop} {E : Value → Shared → Prop} {target : Expr} {I : Addr} {v : Value} (x : ItObj s.heap I) (q : Q () s) : wpAny C.M A (letOwnedTupleGo target (.ref I) v) Q E s := by
  obtain ⟨o, n, vs, e, hc, hd, _, _, hn⟩ := x
  have key : ∀ a, wpAny C.M A (do
      let o ← load I
      match o.cls, o.data with
      | .type n, .fields vs =>
        if ["enumerate", "zip", "dict_itemiterator", "dict_reverseitemiterator", "odict_iterator", "itertools.zip_longest", "itertools.pairwise"].contains n && vs[0]? == some (rawInt a) then
          rule "for.unpacks-the-owned-tuple"
          updateField I 0 .none
      | _, _ => pure ()) Q E s := fun a => by
    refine wpAny_bind (wpAny_load e ?_)
    rw [hc, hd]
    have : (["enumerate", "zip", "dict_itemiterator", "dict_reverseitemiterator", "odict_iterator", "itertools.zip_longest", "itertools.pairwise"].contains n && vs[0]? == some (rawInt a)) = false := by
      have : ["enumerate", "zip", "dict_itemiterator", "dict_reverseitemiterator", "odict_iterator", "itertools.zip_longest", "itertools.pairwise"].contains n = false := hn
      rw [this]; rfl
    simp only [this, Bool.false_eq_true, if_false]
    exact wpAny_pure q
  unfold letOwnedTupleGo
  cases target <;> try exact wpAny_pure q
  all_goals cases v <;> first | exact wpAny_pure q | exact key _

/-- an iterable's walk: the expression is evaluated, its iterator taken -/
def ItT (C : Cx) (k : Nat) (sc : Scope) (σ : Store) (iter : Expr) (ds : List D) : Prop :=
  ∀ (ok : Addr → Prop) (env : Env) (A : Around) (s : Shared) (Q E : Value → Shared → Prop), Al ok s → env.scope = sc → Room A k → FS C ok env σ s.heap → G C s.heap →
    (∀ I St h' tk, Ext C s.heap h' → s.heap.get? I = none → ItW C ok A I ds St h' → Q (.ref I) { s with heap := h', toks := tk }) →
    wpAny C.M A (eval iter env) (fun x s₁ => wpAny C.M A (pyIter x) Q E s₁) E s

theorem ItT.use {k : Nat} {sc : Scope} {σ : Store} {iter : Expr} {ds : List D} (x : ItT C k sc σ iter ds) (ok : Addr → Prop) (env : Env) (A : Around) (s : Shared) (Q E : Value → Shared → Prop) (hal : Al ok s) (hsc : env.scope = sc) (hA : Room A k) (f : FS C ok env σ s.heap) (g : G C s.heap)
    (q : ∀ I St h' tk, 1 ≤ tk → Ext C s.heap h' → s.heap.get? I = none → ItW C ok A I ds St h' → Q (.ref I) { s with heap := h', toks := tk }) :
    wpAny C.M A (eval iter env) (fun x s₁ => wpAny C.M A (pyIter x) Q E s₁) E s := by
  have := x ok env A s (fun v s' => 1 ≤ s'.toks → Q v s') (fun v s' => 1 ≤ s'.toks → E v s') hal hsc hA f g fun I St h' tk a b c n => q I St h' tk n a b c
  refine wpAny_with_toks hal.t (wpAny_mono this (fun v s₁ h₁ n₁ => ?_) fun _ _ h => h)
  exact wpAny_with_toks n₁ h₁

section
variable {k : Nat} {sc : Scope} {σ : Store}

/-- a for loop: `n` turns that go on, from store `S i` to `S (i + 1)`; then the data are at their end -/
theorem exs_for {target iter : Expr} {body : List Stmt} {pos : Pos} {ds : List D} (S : Nat → Store) (T : Nat → Store) (hi : ItT C k sc σ iter ds) (h0 : S 0 = σ)
    (ha : ∀ i d, ds[i]? = some d → AsT C (fun _ => True) sc (S i) target d (T i))
    (hb : ∀ i d, ds[i]? = some d → ExT C k sc (T i) body (.next (S (i + 1))))
    (hs : ∀ env x, foldedSetIterable iter env x = pure x) : ExS C k sc σ (.For target iter body [] pos) (.next (S ds.length)) := by
  intro ok env A s Q E h₀ hal hn hsc hA hf g e f q
  refine wpAny_For ?_ (hs env)
  refine hi.use ok env A s _ E ⟨hal, hn⟩ hsc hA f (g.ext e) fun I St h₁ t₁ n₁ x₁ hI W => ?_
  refine codeAny_forLoop_any (fun n s' => ∃ i h' tk, s' = { s with heap := h', toks := tk } ∧ 1 ≤ tk ∧ i ≤ ds.length ∧ n = ds.length + 1 - i ∧ Ext C h₀ h' ∧ KD env.locals ok s.heap h' ∧ KR ok h₁ h' ∧ Dom h₁ h' ∧ St i h' ∧ FS C ok env (S i) h') ?_ (ds.length + 1)
    ⟨0, h₁, t₁, rfl, n₁, Nat.zero_le _, rfl, e.trans x₁, x₁.kd, KR.refl _, Dom.refl _, W.st, h0 ▸ f.ext x₁⟩
  rintro n s' ⟨i, H, tk, rfl, nH, hle, rfl, eH, kH, rH, dmH, stH, fH⟩
  have hI₀ : h₀.get? I = none := e.fresh hI
  have kdI : ∀ h', (∀ b o, b ≠ I → H.get? b = some o → h'.get? b = some o) → KD env.locals ok s.heap h' := fun h' kk => ⟨fun b o z eb hD => kk b o (fun hb => by subst hb; rw [hI] at eb; cases eb) (kH.k b o z eb hD), fun a ea => by
    cases q : s.heap.get? a with
    | none => rfl
    | some o =>
      have h1 : a ≠ I := fun hb => by subst hb; rw [hI] at q; cases q
      cases q2 : H.get? a with
      | none => rw [kH.dom a q2] at q; cases q
      | some o2 => rw [kk a o2 h1 q2] at ea; cases ea⟩
  by_cases hlt : i < ds.length
  · have hd : ds[i]? = some ds[i] := by simp [hlt]
    refine wpAny_with_toks (s := { s with heap := H, toks := tk }) nH (W.item ok i _ _ _ _ (fun _ _ _ z => z) hd rH stH fun v h₂ t₂ r₂ st₂ k₂ n₂ => ?_)
    have oH := W.obj _ _ stH
    have e₂ := eH.iter hI₀ oH k₂
    have dm₂ : Dom h₁ h₂ := dmH.trans (dom_iter (W.obj _ _ st₂) k₂)
    refine own_go (W.obj _ _ st₂) ?_
    refine (ha i _ hd).use ok env A _ _ _ h₀ v n₂ hsc hA.hd hf g e₂ (fH.iter oH k₂) r₂ fun h₃ t₃ n₃ e₃ k₃ f₃ => ?_
    refine (hb i _ hd).use ok env A _ _ _ h₀ (hal.dom (x₁.dom.trans (dm₂.trans k₃.dom))) n₃ hsc hA hf g e₃ f₃ fun fl h₄ t₄ n₄ e₄ k₄ o₄ => ?_
    obtain ⟨rfl, f₄⟩ := o₄
    exact ⟨ds.length + 1 - (i + 1), by omega, i + 1, h₄, t₄, rfl, n₄, hlt, rfl, e₄, ((kdI h₂ k₂).trans k₃.some).trans k₄, ((rH.trans (kr_iter oH k₂)).trans k₃.kr.some).trans k₄.kr, (dm₂.trans k₃.dom).trans k₄.dom, W.kd _ _ _ (W.kd _ _ _ st₂ k₃.some.to1) k₄.to1, f₄⟩
  · have hin : i = ds.length := by omega
    subst hin
    refine W.done _ _ _ stH fun h₂ t₂ k₂ => wpAny_execs_nil ?_
    have oH := W.obj _ _ stH
    exact q _ h₂ t₂ (eH.iter hI₀ oH k₂) (kdI h₂ k₂) ⟨rfl, fH.iter oH k₂⟩

/-- a for loop that leaves by return in turn j -/
theorem exs_for_ret {target iter : Expr} {body : List Stmt} {pos : Pos} {ds : List D} (S : Nat → Store) (T : Nat → Store) (j : Nat) {dj r : D} (hi : ItT C k sc σ iter ds) (h0 : S 0 = σ) (hj : ds[j]? = some dj)
    (ha : ∀ i d, i ≤ j → ds[i]? = some d → AsT C (fun _ => True) sc (S i) target d (T i))
    (hb : ∀ i d, i < j → ds[i]? = some d → ExT C k sc (T i) body (.next (S (i + 1))))
    (hr : ExT C k sc (T j) body (.ret r))
    (hs : ∀ env x, foldedSetIterable iter env x = pure x) : ExS C k sc σ (.For target iter body [] pos) (.ret r) := by
  intro ok env A s Q E h₀ hal hn hsc hA hf g e f q
  refine wpAny_For ?_ (hs env)
  refine hi.use ok env A s _ E ⟨hal, hn⟩ hsc hA f (g.ext e) fun I St h₁ t₁ n₁ x₁ hI W => ?_
  refine codeAny_forLoop_any (fun n s' => ∃ i h' tk, s' = { s with heap := h', toks := tk } ∧ 1 ≤ tk ∧ i ≤ j ∧ n = ds.length + 1 - i ∧ Ext C h₀ h' ∧ KD env.locals ok s.heap h' ∧ KR ok h₁ h' ∧ Dom h₁ h' ∧ St i h' ∧ FS C ok env (S i) h') ?_ (ds.length + 1)
    ⟨0, h₁, t₁, rfl, n₁, Nat.zero_le _, rfl, e.trans x₁, x₁.kd, KR.refl _, Dom.refl _, W.st, h0 ▸ f.ext x₁⟩
  rintro n s' ⟨i, H, tk, rfl, nH, hle, rfl, eH, kH, rH, dmH, stH, fH⟩
  have hjl : j < ds.length := (List.getElem?_eq_some_iff.mp hj).1
  have hI₀ : h₀.get? I = none := e.fresh hI
  have kdI : ∀ h', (∀ b o, b ≠ I → H.get? b = some o → h'.get? b = some o) → KD env.locals ok s.heap h' := fun h' kk => ⟨fun b o z eb hD => kk b o (fun hb => by subst hb; rw [hI] at eb; cases eb) (kH.k b o z eb hD), fun a ea => by
    cases q : s.heap.get? a with
    | none => rfl
    | some o =>
      have h1 : a ≠ I := fun hb => by subst hb; rw [hI] at q; cases q
      cases q2 : H.get? a with
      | none => rw [kH.dom a q2] at q; cases q
      | some o2 => rw [kk a o2 h1 q2] at ea; cases ea⟩
  have hlt : i < ds.length := by omega
  have hd : ds[i]? = some ds[i] := by simp [hlt]
  refine wpAny_with_toks (s := { s with heap := H, toks := tk }) nH (W.item ok i _ _ _ _ (fun _ _ _ z => z) hd rH stH fun v h₂ t₂ r₂ st₂ k₂ n₂ => ?_)
  have oH := W.obj _ _ stH
  have e₂ := eH.iter hI₀ oH k₂
  have dm₂ : Dom h₁ h₂ := dmH.trans (dom_iter (W.obj _ _ st₂) k₂)
  refine own_go (W.obj _ _ st₂) ?_
  refine (ha i _ hle hd).use ok env A _ _ _ h₀ v n₂ hsc hA.hd hf g e₂ (fH.iter oH k₂) r₂ fun h₃ t₃ n₃ e₃ k₃ f₃ => ?_
  by_cases hij : i < j
  · refine (hb i _ hij hd).use ok env A _ _ _ h₀ (hal.dom (x₁.dom.trans (dm₂.trans k₃.dom))) n₃ hsc hA hf g e₃ f₃ fun fl h₄ t₄ n₄ e₄ k₄ o₄ => ?_
    obtain ⟨rfl, f₄⟩ := o₄
    exact ⟨ds.length + 1 - (i + 1), by omega, i + 1, h₄, t₄, rfl, n₄, hij, rfl, e₄, ((kdI h₂ k₂).trans k₃.some).trans k₄, ((rH.trans (kr_iter oH k₂)).trans k₃.kr.some).trans k₄.kr, (dm₂.trans k₃.dom).trans k₄.dom, W.kd _ _ _ (W.kd _ _ _ st₂ k₃.some.to1) k₄.to1, f₄⟩
  · have : i = j := by omega
    subst this
    refine hr ok env A _ _ _ h₀ (hal.dom (x₁.dom.trans (dm₂.trans k₃.dom))) n₃ hsc hA hf g e₃ f₃ fun fl h₄ t₄ e₄ k₄ o₄ => ?_
    obtain ⟨v', rfl, r₄⟩ := o₄
    exact q _ h₄ t₄ e₄ (((kdI h₂ k₂).trans k₃.some).trans k₄) ⟨v', rfl, r₄⟩

/-- a for loop that leaves by break in turn j -/
theorem exs_for_brk {target iter : Expr} {body : List Stmt} {pos : Pos} {ds : List D} (S : Nat → Store) (T : Nat → Store) (j : Nat) {dj : D} {σ' : Store} (hi : ItT C k sc σ iter ds) (h0 : S 0 = σ) (hj : ds[j]? = some dj)
    (ha : ∀ i d, i ≤ j → ds[i]? = some d → AsT C (fun _ => True) sc (S i) target d (T i))
    (hb : ∀ i d, i < j → ds[i]? = some d → ExT C k sc (T i) body (.next (S (i + 1))))
    (hr : ExT C k sc (T j) body (.brk σ'))
    (hs : ∀ env x, foldedSetIterable iter env x = pure x) : ExS C k sc σ (.For target iter body [] pos) (.next σ') := by
  intro ok env A s Q E h₀ hal hn hsc hA hf g e f q
  refine wpAny_For ?_ (hs env)
  refine hi.use ok env A s _ E ⟨hal, hn⟩ hsc hA f (g.ext e) fun I St h₁ t₁ n₁ x₁ hI W => ?_
  refine codeAny_forLoop_any (fun n s' => ∃ i h' tk, s' = { s with heap := h', toks := tk } ∧ 1 ≤ tk ∧ i ≤ j ∧ n = ds.length + 1 - i ∧ Ext C h₀ h' ∧ KD env.locals ok s.heap h' ∧ KR ok h₁ h' ∧ Dom h₁ h' ∧ St i h' ∧ FS C ok env (S i) h') ?_ (ds.length + 1)
    ⟨0, h₁, t₁, rfl, n₁, Nat.zero_le _, rfl, e.trans x₁, x₁.kd, KR.refl _, Dom.refl _, W.st, h0 ▸ f.ext x₁⟩
  rintro n s' ⟨i, H, tk, rfl, nH, hle, rfl, eH, kH, rH, dmH, stH, fH⟩
  have hjl : j < ds.length := (List.getElem?_eq_some_iff.mp hj).1
  have hI₀ : h₀.get? I = none := e.fresh hI
  have kdI : ∀ h', (∀ b o, b ≠ I → H.get? b = some o → h'.get? b = some o) → KD env.locals ok s.heap h' := fun h' kk => ⟨fun b o z eb hD => kk b o (fun hb => by subst hb; rw [hI] at eb; cases eb) (kH.k b o z eb hD), fun a ea => by
    cases q : s.heap.get? a with
    | none => rfl
    | some o =>
      have h1 : a ≠ I := fun hb => by subst hb; rw [hI] at q; cases q
      cases q2 : H.get? a with
      | none => rw [kH.dom a q2] at q; cases q
      | some o2 => rw [kk a o2 h1 q2] at ea; cases ea⟩
  have hlt : i < ds.length := by omega
  have hd : ds[i]? = some ds[i] := by simp [hlt]
  refine wpAny_with_toks (s := { s with heap := H, toks := tk }) nH (W.item ok i _ _ _ _ (fun _ _ _ z => z) hd rH stH fun v h₂ t₂ r₂ st₂ k₂ n₂ => ?_)
  have oH := W.obj _ _ stH
  have e₂ := eH.iter hI₀ oH k₂
  have dm₂ : Dom h₁ h₂ := dmH.trans (dom_iter (W.obj _ _ st₂) k₂)
  refine own_go (W.obj _ _ st₂) ?_
  refine (ha i _ hle hd).use ok env A _ _ _ h₀ v n₂ hsc hA.hd hf g e₂ (fH.iter oH k₂) r₂ fun h₃ t₃ n₃ e₃ k₃ f₃ => ?_
  by_cases hij : i < j
  · refine (hb i _ hij hd).use ok env A _ _ _ h₀ (hal.dom (x₁.dom.trans (dm₂.trans k₃.dom))) n₃ hsc hA hf g e₃ f₃ fun fl h₄ t₄ n₄ e₄ k₄ o₄ => ?_
    obtain ⟨rfl, f₄⟩ := o₄
    exact ⟨ds.length + 1 - (i + 1), by omega, i + 1, h₄, t₄, rfl, n₄, hij, rfl, e₄, ((kdI h₂ k₂).trans k₃.some).trans k₄, ((rH.trans (kr_iter oH k₂)).trans k₃.kr.some).trans k₄.kr, (dm₂.trans k₃.dom).trans k₄.dom, W.kd _ _ _ (W.kd _ _ _ st₂ k₃.some.to1) k₄.to1, f₄⟩
  · have : i = j := by omega
    subst this
    refine hr ok env A _ _ _ h₀ (hal.dom (x₁.dom.trans (dm₂.trans k₃.dom))) n₃ hsc hA hf g e₃ f₃ fun fl h₄ t₄ e₄ k₄ o₄ => ?_
    obtain ⟨rfl, f₄⟩ := o₄
    exact q _ h₄ t₄ e₄ (((kdI h₂ k₂).trans k₃.some).trans k₄) ⟨rfl, f₄⟩
end
end Mine
namespace Mine
variable {C : Cx} {ok : Addr → Prop}

/-- a call of the value f upon the data ds -/
def CT (C : Cx) (k : Nat) (f : Value) (ds : List D) (d : D) : Prop :=
  ∀ (ok : Addr → Prop) (A : Around) (s : Shared) (Q E : Value → Shared → Prop) (vs : List Value), Al ok s → Room A k → G C s.heap → RepL C ok s.heap ds vs → Ret C ok d Q s → wpAny C.M A (call f vs) Q E s

theorem CT.le {k k' : Nat} {f : Value} {ds : List D} {d : D} (x : CT C k f ds d) (h : k ≤ k') : CT C k' f ds d := fun ok A s Q E vs hal r => x ok A s Q E vs hal (r.le h)

theorem CT.use {k : Nat} {f : Value} {ds : List D} {d : D} (x : CT C k f ds d) (ok : Addr → Prop) (A : Around) (s : Shared) (Q E : Value → Shared → Prop) (vs : List Value) (hal : Al ok s) (hA : Room A k) (g : G C s.heap) (r : RepL C ok s.heap ds vs)
    (q : ∀ v h' tk, 1 ≤ tk → Ext C s.heap h' → Rep C ok h' d v → Q v { s with heap := h', toks := tk }) : wpAny C.M A (call f vs) Q E s :=
  wpAny_with_toks hal.t (x ok A s _ _ vs hal hA g r fun v h' tk y r n => q v h' tk n y r)

theorem mg_none {K : Frag} {h : Heap} {mg : Str → Option Value} {n : Str} (X : K.In h) (G : h.Ns mainGlobals mg) (e : nsIn K mainGlobals n = some none) : mg n = none := by
  obtain ⟨o, es, ep, ho, hd, hk, hf⟩ := G
  unfold nsIn at e
  split at e
  · rename_i es' ep' sl hl
    have := X _ _ hl
    rw [ho] at this; cases this
    cases hd
    rw [← hf]
    unfold nsFind findBy
    split at e
    · cases e
    · rename_i hnone
      rw [← Array.find?_toList, hnone]; rfl
  · cases e

section
variable {k : Nat} {sc : Scope} {σ : Store}

theorem args_plain {A : Around} {s : Shared} {E : Value → Shared → Prop} {env : Env} {f : Value} {e : Expr} {es : List Expr} {ds : List D} {pos : Pos} {Q : Args → Shared → Prop}
    (hal : Al ok s) (hsc : env.scope = sc) (hA : Room A k) (fs : FS C ok env σ s.heap) (g : G C s.heap) (h : EvsT C k sc σ (e :: es) ds)
    (hs : ∀ env : Env, starEach (e :: es) env = (false, eval e env) :: starEach es env)
    (q : ∀ vs h' tk, 1 ≤ tk → Ext C s.heap h' → RepL C ok h' ds vs → Q ⟨vs, []⟩ { s with heap := h', toks := tk }) : wpAny C.M A (evalArgs f true (backTo pos (starEach (e :: es) env)) []) Q E s := by
  have := h.use ok env A s (fun vs s' => Q ⟨vs, []⟩ s') E pos hal hsc hA fs g q
  rw [hs] at this ⊢
  exact Calls.evalArgs_plain this

theorem any_false : ∀ (es : List Expr) (env : Env) (pos : Pos), (∀ env : Env, (starEach es env).any (·.1) = false) → (backTo pos (starEach es env)).any (·.1) = false := by
  intro es env pos h
  have := h env
  unfold backTo
  rw [List.any_map]
  simpa using this

theorem name_global {A : Around} {s : Shared} {E : Value → Shared → Prop} {env : Env} {x : Str} {p : Pos} {v : Value} {Q : Value → Shared → Prop}
    (hsc : env.scope = sc) (fs : FS C ok env σ s.heap) (g : G C s.heap) (hx : sc.names.lookup x = some .globalImplicit) (hd : (x == ("__debug__" : Str)) = false)
    (hv : C.mg x = some v ∨ (C.mg x = none ∧ C.mb x = some v)) (q : Q v s) : wpAny C.M A (eval (.Name x p) env) Q E s := by
  refine Calls.Name_function_global fs.fn (by unfold Env.kindOf; rw [hsc]; exact hx) ?_ hd
  rcases hv with hv | ⟨hm, hv⟩
  · exact Calls.loadGlobal_global (fs.gl ▸ g.g) hv q
  · exact Calls.loadGlobal_builtin (fs.gl ▸ g.g) hm (fs.bl ▸ g.b) hv q

theorem ev_call_builtin {x : Str} {p pos : Pos} {e : Expr} {es : List Expr} {ds : List D} {d : D} {id : String} (hx : sc.names.lookup x = some .globalImplicit) (hd : (x == ("__debug__" : Str)) = false)
    (hmg : nsIn C.K mainGlobals x = some none) (hnn : x ≠ "__name__") (hmb : bootBuiltins x = some (.builtin id)) (ha : EvsT C k sc σ (e :: es) ds) (hc : CT C k (.builtin id) ds d)
    (hs : ∀ env : Env, starEach (e :: es) env = (false, eval e env) :: starEach es env) (hp : ∀ env : Env, (starEach (e :: es) env).any (·.1) = false) :
    EvT C k sc σ (.Call (.Name x p) (e :: es) [] pos) d := by
  intro ok env A s Q E hal hsc hA f g q
  refine wpAny_Call_NameR (name_global hsc f g hx hd (.inr ⟨mg_none g.frag g.g hmg, (g.bb x hnn).trans hmb⟩) ?_)
  refine Calls.callWith_builtin (any_false _ _ _ hp) (args_plain hal hsc hA f g ha hs fun vs h₁ t₁ n₁ x₁ r₁ => ?_)
  exact hc.use ok A _ _ E vs (hal.ext x₁ n₁) hA (g.ext x₁) r₁ fun v h₂ t₂ n₂ x₂ r₂ => q v h₂ t₂ (x₁.trans x₂) r₂

theorem ev_call_type {x : Str} {p pos : Pos} {e : Expr} {es : List Expr} {ds : List D} {d : D} {T : String} (hx : sc.names.lookup x = some .globalImplicit) (hd : (x == ("__debug__" : Str)) = false)
    (hmg : nsIn C.K mainGlobals x = some none) (hnn : x ≠ "__name__") (hmb : bootBuiltins x = some (.type T)) (ha : EvsT C k sc σ (e :: es) ds) (hc : CT C k (.type T) ds d)
    (hs : ∀ env : Env, starEach (e :: es) env = (false, eval e env) :: starEach es env) (hp : ∀ env : Env, (starEach (e :: es) env).any (·.1) = false) :
    EvT C k sc σ (.Call (.Name x p) (e :: es) [] pos) d := by
  intro ok env A s Q E hal hsc hA f g q
  refine wpAny_Call_NameR (name_global hsc f g hx hd (.inr ⟨mg_none g.frag g.g hmg, (g.bb x hnn).trans hmb⟩) ?_)
  refine PySem.callWith_type (any_false _ _ _ hp) (args_plain hal hsc hA f g ha hs fun vs h₁ t₁ n₁ x₁ r₁ => ?_)
  exact hc.use ok A _ _ E vs (hal.ext x₁ n₁) hA (g.ext x₁) r₁ fun v h₂ t₂ n₂ x₂ r₂ => q v h₂ t₂ (x₁.trans x₂) r₂

theorem ev_call_fun {x : Str} {p pos : Pos} {e : Expr} {es : List Expr} {ds : List D} {d : D} {a : Addr} {o : Obj} {fd : FuncData} (hx : sc.names.lookup x = some .globalImplicit) (hd : (x == ("__debug__" : Str)) = false)
    (hmg : nsIn C.K mainGlobals x = some (some (.ref a))) (ho : C.K.lookup a = some o) (hfd : o.data = .func fd) (ha : EvsT C k sc σ (e :: es) ds) (hc : CT C k (.ref a) ds d)
    (hs : ∀ env : Env, starEach (e :: es) env = (false, eval e env) :: starEach es env) :
    EvT C k sc σ (.Call (.Name x p) (e :: es) [] pos) d := by
  intro ok env A s Q E hal hsc hA f g q
  refine wpAny_Call_NameR (name_global hsc f g hx hd (.inl (mg_of g.frag g.g hmg)) ?_)
  refine Calls.callWith_function (o := o) (fd := fd) (args_plain hal hsc hA f g ha hs fun vs h₁ t₁ n₁ x₁ r₁ => ⟨⟨(g.ext x₁).frag a o ho, hfd⟩, ?_⟩)
  exact hc.use ok A _ _ E vs (hal.ext x₁ n₁) hA (g.ext x₁) r₁ fun v h₂ t₂ n₂ x₂ r₂ => q v h₂ t₂ (x₁.trans x₂) r₂

/-- the type of data -/
def D.ty : D → String
  | .none => "NoneType"
  | .bool _ => "bool"
  | .int _ => "int"
  | .str _ => "str"
  | .list _ => "list"
  | .tuple _ => "tuple"
  | .dict _ => "dict"
  | .mut _ _ => "list"
  | .val _ => ""
theorem Rep.typeIs {s : Shared} {d : D} {v : Value} (r : Rep C ok s.heap d v) (hv : d.isVal = false) : s.TypeIs v d.ty := by
  cases r with
  | none => rfl
  | bool b => rfl
  | int i t => rfl
  | str x t => rfl
  | list ha l _ => exact ⟨_, l, rfl⟩
  | tuple ha l _ => exact ⟨_, l, rfl⟩
  | dict ha l _ _ => obtain ⟨o, es, ep, ho, hc, _⟩ := l; exact ⟨o, ho, hc.1⟩
  | val v => cases hv
theorem Rep.noDict {s : Shared} {d : D} {v : Value} (r : Rep C ok s.heap d v) (hv : d.isVal = false) : ∀ a, v = .ref a → ∃ ob, s.heap.get? a = some ob ∧ ob.dict = Option.none := by
  intro a e
  cases r with
  | none => cases e
  | bool b => cases e
  | int i t => cases e
  | str x t => cases e
  | list ha l _ => cases e; exact ⟨_, l, rfl⟩
  | tuple ha l _ => cases e; exact ⟨_, l, rfl⟩
  | dict ha l _ _ => cases e; obtain ⟨o, es, ep, ho, hc, _⟩ := l; exact ⟨o, ho, hc.2.1⟩
  | val v => cases hv

theorem ev_meth {o : Expr} {name : Str} {apos pos : Pos} {e : Expr} {es : List Expr} {od : D} {ds : List D} {d : D} {id : String}
    (ho : EvT C k sc σ o od) (ha : EvsT C k sc σ (e :: es) ds) (pa : PlainAttrs od.ty) (slot : Slot od.ty name id) (hty : typeOf (.builtin id) = pure (.type "method_descriptor"))
    (hc : CT C k (.builtin id) (od :: ds) d)
    (hbase : ∀ env : Env, attributeBase o name env (eval o env) = eval o env)
    (hfew : ∀ env : Env, ((backTo pos (starEach (e :: es) env)).all (fun x => !x.1) && (backToKw pos (keywordEach [] env)).all (fun x => x.1.isSome)
      && decide ((e :: es).length + ([] : List Keyword).length + (if ([] : List Keyword).isEmpty then 0 else 1) < 30)) = true)
    (hline : (apos.endLine == pos.line) = true)
    (hs : ∀ env : Env, starEach (e :: es) env = (false, eval e env) :: starEach es env) (hp : ∀ env : Env, (starEach (e :: es) env).any (·.1) = false) (hv : od.isVal = false := by rfl) :
    EvT C k sc σ (.Call (.Attribute o name apos) (e :: es) [] pos) d := by
  intro ok env A s Q E hal hsc hA f g q
  refine wpAny_Call_method (hbase env) (hfew env) hline pa slot hty (ho.use ok env A s _ E hal hsc hA f g fun ov h₁ t₁ n₁ x₁ r₁ => ⟨r₁.typeIs hv, r₁.noDict hv, ?_⟩)
  refine Calls.callWith_builtin (any_false _ _ _ hp) (args_plain (hal.ext x₁ n₁) hsc hA (f.ext x₁) (g.ext x₁) ha hs fun vs h₂ t₂ n₂ x₂ r₂ => ?_)
  exact hc.use ok A _ _ E (ov :: vs) (hal.ext (x₁.trans x₂) n₂) hA (g.ext (x₁.trans x₂)) (.cons (r₁.ext x₂) r₂) fun v h₃ t₃ n₃ x₃ r₃ => q v h₃ t₃ ((x₁.trans x₂).trans x₃) r₃

theorem ev_meth0 {o : Expr} {name : Str} {apos pos : Pos} {od : D} {d : D} {id : String}
    (ho : EvT C k sc σ o od) (pa : PlainAttrs od.ty) (slot : Slot od.ty name id) (hty : typeOf (.builtin id) = pure (.type "method_descriptor"))
    (hc : CT C k (.builtin id) [od] d)
    (hbase : ∀ env : Env, attributeBase o name env (eval o env) = eval o env)
    (hline : (apos.endLine == pos.line) = true) (hv : od.isVal = false := by rfl) : EvT C k sc σ (.Call (.Attribute o name apos) [] [] pos) d := by
  intro ok env A s Q E hal hsc hA f g q
  refine wpAny_Call_method (hbase env) rfl hline pa slot hty (ho.use ok env A s _ E hal hsc hA f g fun ov h₁ t₁ n₁ x₁ r₁ => ⟨r₁.typeIs hv, r₁.noDict hv, ?_⟩)
  refine Calls.callWith_builtin rfl (PySem.evalArgs_none ?_)
  exact hc.use ok A _ _ E [ov] (hal.ext x₁ n₁) hA (g.ext x₁) (.cons r₁ .nil) fun v h₃ t₃ n₃ x₃ r₃ => q v h₃ t₃ (x₁.trans x₃) r₃

theorem ev_list {es : List Expr} {pos : Pos} {ds : List D} (h : EvsT C k sc σ es ds) (hn : ds.length ≤ 1000) : EvT C k sc σ (.List es pos) (.list ds) := by
  intro ok env A s Q E hal hsc hA f g q
  refine wpAny_List_spliced (h.use ok env A s _ E pos hal hsc hA f g fun vs h₁ t₁ n₁ x₁ r₁ => ⟨?_, ?_⟩)
  · rw [r₁.length]; exact Nat.le_trans hn (by decide)
  · exact q _ _ t₁ (x₁.trans (.push _ _)) (.list (hal.new x₁) (Heap.get?_push_size _ rfl) (by simpa using r₁.ext (.push _ _)))
theorem ev_tuple {es : List Expr} {kk : Nat} {pos : Pos} {ds : List D} (h : EvsT C k sc σ es ds) (hn : 1 ≤ ds.length ∧ ds.length ≤ 1000) : EvT C k sc σ (.Tuple es kk pos) (.tuple ds) := by
  intro ok env A s Q E hal hsc hA f g q
  show wpAny C.M A (do standAt pos; newTuple (← spliced (backTo pos (starEach es env)))) Q E s
  refine wpAny_bind (wpAny_standAt (wpAny_bind (h.use ok env A s _ E pos hal hsc hA f g fun vs h₁ t₁ n₁ x₁ r₁ => ?_)))
  have hl := r₁.length
  unfold newTuple
  refine wpAny_newObj_type ?_ (by show vs.toArray.size ≤ sizeLine; rw [List.size_toArray, hl]; exact Nat.le_trans hn.2 (by decide))
  exact q _ _ t₁ (x₁.trans (.push _ _)) (.tuple (hal.new x₁) (Heap.get?_push_size _ rfl) (by simpa using r₁.ext (.push _ _)))

/-- x[i], i no slice -/
theorem ev_sub {value slice : Expr} {pos : Pos} {a b c : D} {id : String} (hv : EvT C k sc σ value a) (hi : EvT C k sc σ slice b) (hl : typeLookup (.type a.ty) "__getitem__" = pure (some (.builtin id)))
    (hg : Op2 C getItem a b c) (hs : ∀ o i, subscripted slice false o i = operate [o, i] (getItem o i)) (hvl : a.isVal = false := by rfl) : EvT C k sc σ (.Subscript value slice pos) c := by
  intro ok env A s Q E hal hsc hA f g q
  rw [eval_Subscript]
  refine wpAny_bind (hv.use ok env A s _ E hal hsc hA f g fun o h₁ t₁ n₁ x₁ r₁ => wpAny_bind (wpAny_holding (hi.use ok env A _ _ E (hal.ext x₁ n₁) hsc hA (f.ext x₁) (g.ext x₁) fun i h₂ t₂ n₂ x₂ r₂ => wpAny_bind (wpAny_standAt ?_))))
  have r₁' := r₁.ext x₂
  have hT := Rep.typeIs (s := { s with heap := h₂, toks := t₂ }) r₁' hvl
  refine wpAny_bind ?_
  rw [getitemInPython_of_ne hT.not_modules]
  refine wpAny_bind (wpAny_specialOf hT hl (wpAny_pure ?_))
  rw [hs]
  refine wpAny_bind (wpAny_operating ?_)
  refine hg.use ok A _ _ E o i (hal.ext (x₁.trans x₂) n₂) hA.hd hA.cl (g.ext (x₁.trans x₂)) r₁' r₂ fun v h₃ t₃ n₃ x₃ r₃ => ?_
  exact wpAny_bind (wpAny_letTemporaryGo (wpAny_pure (q v h₃ t₃ ((x₁.trans x₂).trans x₃) r₃)))
end
end Mine
namespace Mine
variable {C : Cx} {ok : Addr → Prop}

theorem bindL_keep {kindOf : Str → Option NameKind} {x : Str} : ∀ (r : List (Str × Value)) (m : Str → Option Value), x ∉ r.map (·.1) → bindL kindOf r m x = m x := by
  intro r
  induction r with
  | nil => intro m _; rfl
  | cons p r ih =>
    intro m hx
    simp only [List.map_cons, List.mem_cons, not_or] at hx
    unfold bindL
    rw [ih _ hx.2]
    split
    · simp [hx.1]
    · rfl
theorem bindC_keep {kindOf : Str → Option NameKind} {x : Str} : ∀ (r : List (Str × Value)) (m : Str → Option Value), x ∉ r.map (·.1) → bindC kindOf r m x = m x := by
  intro r
  induction r with
  | nil => intro m _; rfl
  | cons p r ih =>
    intro m hx
    simp only [List.map_cons, List.mem_cons, not_or] at hx
    unfold bindC
    rw [ih _ hx.2]
    split
    · rfl
    · simp [hx.1]
theorem bindL_get {kindOf : Str → Option NameKind} {x : Str} {v : Value} : ∀ {binds : List (Str × Value)} {m : Str → Option Value}, (binds.map (·.1)).Nodup → (x, v) ∈ binds → kindOf x = some .local → bindL kindOf binds m x = some v
  | (n, u) :: r, m, hn, hm, hk => by
    have hn' := List.nodup_cons.mp hn
    unfold bindL
    rcases List.mem_cons.mp hm with e | hm
    · obtain ⟨rfl, rfl⟩ := Prod.mk.inj e
      rw [if_pos hk, bindL_keep r _ hn'.1]; simp
    · exact bindL_get hn'.2 hm hk
theorem bindC_get {kindOf : Str → Option NameKind} {x : Str} {v : Value} : ∀ {binds : List (Str × Value)} {m : Str → Option Value}, (binds.map (·.1)).Nodup → (x, v) ∈ binds → kindOf x ≠ some .local → bindC kindOf binds m x = some v
  | (n, u) :: r, m, hn, hm, hk => by
    have hn' := List.nodup_cons.mp hn
    unfold bindC
    rcases List.mem_cons.mp hm with e | hm
    · obtain ⟨rfl, rfl⟩ := Prod.mk.inj e
      rw [if_neg hk, bindC_keep r _ hn'.1]; simp
    · exact bindC_get hn'.2 hm hk
theorem cellsFrom_some {x : Str} : ∀ {names : List (Str × NameKind)} {n : Nat} {acc : List (Str × Addr)}, ((acc.lookup x).isSome = true ∨ names.lookup x = some .cell) → ((cellsFrom n names acc).lookup x).isSome = true
  | [], n, acc, h => by
    rcases h with h | h
    · exact h
    · simp at h
  | (y, kd) :: r, n, acc, h => by
    unfold cellsFrom
    cases hx : x == y with
    | true =>
      rcases h with h | h
      · split
        · exact cellsFrom_some (.inl (by rw [List.lookup_cons, hx]; rfl))
        · exact cellsFrom_some (.inl h)
      · rw [List.lookup_cons, hx] at h; cases h
        exact cellsFrom_some (.inl (by rw [List.lookup_cons, hx]; rfl))
    | false =>
      rw [List.lookup_cons, hx] at h
      split
      · refine cellsFrom_some ?_
        rcases h with h | h
        · exact .inl (by rw [List.lookup_cons, hx]; exact h)
        · exact .inr h
      · exact cellsFrom_some h

theorem zip_rep {h : Heap} : ∀ {names : List Str} {ds : List D} {vs : List Value}, RepL C ok h ds vs → ∀ {x : Str} {d : D}, (names.zip ds).lookup x = some d → ∃ v, (x, v) ∈ names.zip vs ∧ Rep C ok h d v
  | [], _, _, _, x, d, e => by simp at e
  | n :: ns, _, _, .nil, x, d, e => by simp at e
  | n :: ns, _, _, .cons r rs, x, d, e => by
    rw [List.zip_cons_cons, List.lookup_cons] at e
    cases hx : x == n with
    | true =>
      rw [hx] at e; cases e
      rw [beq_iff_eq.mp hx]
      exact ⟨_, List.mem_cons_self, r⟩
    | false =>
      rw [hx] at e
      obtain ⟨v, hm, hr⟩ := zip_rep rs e
      exact ⟨v, List.mem_cons_of_mem _ hm, hr⟩
theorem zip_names : ∀ {names : List Str} {vs : List Value}, names.length = vs.length → (names.zip vs).map (·.1) = names
  | [], _, _ => by simp
  | n :: ns, [], h => by simp at h
  | n :: ns, v :: vs, h => by simp [zip_names (names := ns) (vs := vs) (by simpa using h)]

theorem coderec_of {h : Heap} (g : G C h) {fd : FuncData} (hc : ∃ c oc vs t, fd.code = .ref c ∧ C.K.lookup c = some oc ∧ oc.data = .fields vs ∧ vs[1]? = some (.str fd.qualname t)) : h.CodeRec fd.code fd.qualname := by
  obtain ⟨c, oc, vs, t, e1, e2, e3, e4⟩ := hc
  exact ⟨c, oc, vs, t, e1, g.frag _ _ e2, e3, e4⟩

/-- statements in one environment -/
def ExE (C : Cx) (k : Nat) (P : Env → Prop) (σ : Store) (st : List Stmt) (o : Out) : Prop :=
  ∀ (ok : Addr → Prop) (env : Env) (A : Around) (s : Shared) (Q : Flow → Shared → Prop) (E : Value → Shared → Prop) (h₀ : Heap), AlH ok s.heap → 1 ≤ s.toks → P env → Room A k → Fresh (fun _ => True) env h₀ → G C h₀ → Ext C h₀ s.heap → FS C ok env σ s.heap →
    Post C ok h₀ env o Q s → wpAny C.M A (execs st env) Q E s
/-- a def of the text, its params plain, no closure: a call is its body's run -/
theorem ct_fun_env {k : Nat} {a : Addr} {o : Obj} {fd : FuncData} {body : List Stmt} {names : List Str} {ds : List D} {d : D}
    (ho : C.K.lookup a = some o) (hd : o.data = .func fd) (hcode : ∃ c oc vs t, fd.code = .ref c ∧ C.K.lookup c = some oc ∧ oc.data = .fields vs ∧ vs[1]? = some (.str fd.qualname t))
    (hbody : fd.body = .stmts body) (hclo : fd.closure = []) (hgl : fd.globals = mainGlobals) (hbl : fd.builtins = builtinsNs) (hco : fd.scope.isCoroutine = false) (hgen : fd.scope.isGenerator = false) (hk : fd.scope.kind = .function)
    (hfree : ∀ x ∈ fd.scope.names, x.2 ≠ .free) (hnd : names.Nodup) (hlen : names.length = ds.length)
    (hkind : ∀ x ∈ names, fd.scope.names.lookup x = some .local ∨ fd.scope.names.lookup x = some .cell)
    (hbind : ∀ vs : List Value, vs.length = names.length → bindArgs fd ⟨vs, []⟩ = pure (names.zip vs))
    (h : ∀ L, ExE C k (fun env => env = callEnvC fd L a) (names.zip ds) body (.ret d)) : CT C (k + 1) (.ref a) ds d := by
  intro ok A s Q E vs hal hA g r q
  have hl := r.length
  refine wpAny_call ?_
  have hnv : names.length = vs.length := by omega
  refine codeAny_call_function (by have := hA.d; omega) (g.frag _ _ ho) hd hco hgen hbody (coderec_of g hcode) ?_
  rw [hbind vs (by omega), hclo]
  refine wpAny_pure (wpAny_with_toks hal.t (wpAny_newFunctionEnv_cells hk ?_ fun env he s₁ x n₁ => ?_))
  · intro x hx
    have hxn : x.1 ∈ names := by
      have := List.mem_map_of_mem (f := (·.1)) hx
      rwa [zip_names hnv] at this
    rcases hkind _ hxn with h1 | h1
    · exact .inl h1
    · exact .inr ⟨h1, cellsFrom_some (.inr h1)⟩
  subst he
  refine ⟨g.nolimit.keeps x.toInCall.keep, codeAny_func ?_⟩
  obtain ⟨h₁, t₁, rfl⟩ := x.toInCall.same
  have e₁ : Ext C s.heap h₁ := .of_keeps x.toInCall.keep
  have hsz : s.heap.get? s.heap.objs.size = none := fresh_push _
  refine h _ ok (callEnvC fd s.heap.objs.size a) _ _ _ _ s.heap (hal.h.ext e₁) n₁ rfl (hA.deeper _) ⟨hsz, fun b hb => fresh_above _ (Nat.le_of_lt hb), ?_⟩ g e₁ ⟨hk, hgl, hbl, ⟨_, x.toInCall.ns, fun n dn en kn => ?_⟩, fun n dn en kn => ?_, fun n kn => ?_, x.apart⟩ ?_
  · intro n c _ _ hc
    cases q : s.heap.get? c with
    | none => rfl
    | some o' =>
      have h1 := x.above n c (mem_of_lookup hc)
      have h2 := Heap.lt_size q
      have h3 : s.heap.objs.size < c := h1
      exact absurd h2 (Nat.not_lt.mpr (Nat.le_of_lt h3))
  · obtain ⟨v, hv, hr⟩ := zip_rep r en
    exact ⟨v, bindL_get (by rw [zip_names hnv]; exact hnd) hv kn, .inl (hr.ext e₁)⟩
  · obtain ⟨v, hv, hr⟩ := zip_rep r en
    have hxn : n ∈ names := by
      have := List.mem_map_of_mem (f := (·.1)) hv
      rwa [zip_names hnv] at this
    have hcell : fd.scope.names.lookup n = some .cell := (hkind n hxn).resolve_left kn
    obtain ⟨c, hc⟩ := Option.isSome_iff_exists.mp (cellsFrom_some (n := s.heap.objs.size + 1) (acc := []) (.inr hcell))
    have : h₁.IsCell c (bindC (callEnvC fd s.heap.objs.size a).kindOf (names.zip vs) (fun _ => none) n) := x.cell n c hc
    rw [bindC_get (by rw [zip_names hnv]; exact hnd) hv kn] at this
    exact ⟨.inl hcell, c, v, hc, this, .inl (hr.ext e₁)⟩
  · rcases kn with kn | kn
    · obtain ⟨c, hc⟩ := Option.isSome_iff_exists.mp (cellsFrom_some (n := s.heap.objs.size + 1) (acc := []) (.inr kn))
      exact ⟨c, _, hc, x.cell n c hc⟩
    · exact absurd rfl (hfree (n, .free) (mem_of_lookup kn))
  · intro f h₂ t₂ e₂ k₂ o₂
    obtain ⟨v, rfl, hr⟩ := o₂
    exact q v h₂ t₂ e₂ hr
/-- a def of the text, its params plain, no closure: a call is its body's run -/
theorem ct_fun {k : Nat} {a : Addr} {o : Obj} {fd : FuncData} {body : List Stmt} {names : List Str} {ds : List D} {d : D}
    (ho : C.K.lookup a = some o) (hd : o.data = .func fd) (hcode : ∃ c oc vs t, fd.code = .ref c ∧ C.K.lookup c = some oc ∧ oc.data = .fields vs ∧ vs[1]? = some (.str fd.qualname t))
    (hbody : fd.body = .stmts body) (hclo : fd.closure = []) (hgl : fd.globals = mainGlobals) (hbl : fd.builtins = builtinsNs) (hco : fd.scope.isCoroutine = false) (hgen : fd.scope.isGenerator = false) (hk : fd.scope.kind = .function)
    (hfree : ∀ x ∈ fd.scope.names, x.2 ≠ .free) (hnd : names.Nodup) (hlen : names.length = ds.length)
    (hkind : ∀ x ∈ names, fd.scope.names.lookup x = some .local ∨ fd.scope.names.lookup x = some .cell)
    (hbind : ∀ vs : List Value, vs.length = names.length → bindArgs fd ⟨vs, []⟩ = pure (names.zip vs))
    (h : ExT C k fd.scope (names.zip ds) body (.ret d)) : CT C (k + 1) (.ref a) ds d :=
  ct_fun_env ho hd hcode hbody hclo hgl hbl hco hgen hk hfree hnd hlen hkind hbind fun L ok env A s Q E h₀ h1 h2 h3 => h ok env A s Q E h₀ h1 h2 (by subst h3; rfl)
end Mine
namespace Mine
variable {C : Cx} {ok : Addr → Prop}

def relabelS (scope sc : Scope) : Scope :=
  { scope with names := scope.names.map fun (n, k) => if (k == .free && sc.kind == .function && sc.names.lookup n == some .cell) then (n, .cell) else (n, k) }
theorem relabel_eq {scope sc : Scope} {env : Env} (h : env.scope = sc) : relabel scope env = relabelS scope sc := by subst h; rfl

theorem lookup_mapK {f : Str → NameKind → NameKind} {x : Str} : ∀ (names : List (Str × NameKind)), (names.map fun p => (p.1, f p.1 p.2)).lookup x = (names.lookup x).map (f x)
  | [] => rfl
  | (n, k) :: r => by
    rw [List.map_cons, List.lookup_cons, List.lookup_cons]
    cases hx : x == n with
    | true => have e := beq_iff_eq.mp hx; subst e; rfl
    | false => exact lookup_mapK r
def reK (sc : Scope) (n : Str) (k : NameKind) : NameKind := if (k == .free && sc.kind == .function && sc.names.lookup n == some .cell) then .cell else k
theorem lookup_relabelS {scope sc : Scope} {x : Str} : (relabelS scope sc).names.lookup x = (scope.names.lookup x).map (reK sc x) := by
  rw [← lookup_mapK]
  unfold relabelS
  dsimp only
  congr 1
  apply List.map_congr_left
  intro p _
  obtain ⟨n, k⟩ := p
  dsimp only [reK]
  split <;> rfl

def closFrom (cells : List (Str × Addr)) : List (Str × NameKind) → List (Str × Addr) → List (Str × Addr)
  | [], acc => acc
  | (n, k) :: r, acc => if k == .free then closFrom cells r ((n, (cells.lookup n).getD 0) :: acc) else closFrom cells r acc

theorem clos_loop {env : Env} : ∀ (names : List (Str × NameKind)) (acc : List (Str × Addr)), (∀ x ∈ names, x.2 = .free → (env.cells.lookup x.1).isSome = true) →
    (forIn names acc fun (p : Str × NameKind) (cs : List (Str × Addr)) => if p.2 == NameKind.free then (do let a ← cellOf env p.1; pure (ForInStep.yield ((p.1, a) :: cs))) else pure (ForInStep.yield cs)) = (pure (closFrom env.cells names acc) : Sem _)
  | [], acc, _ => rfl
  | (n, k) :: r, acc, h => by
    rw [List.forIn_cons]
    have hr : ∀ x ∈ r, x.2 = .free → (env.cells.lookup x.1).isSome = true := fun x hx => h x (List.mem_cons_of_mem _ hx)
    unfold closFrom
    cases hk : k == NameKind.free with
    | true =>
      have hs := h (n, k) List.mem_cons_self (beq_iff_eq.mp hk)
      obtain ⟨a, ha⟩ := Option.isSome_iff_exists.mp hs
      have hc : cellOf env n = pure a := by unfold cellOf; rw [show env.cells.lookup n = some a from ha]
      simp only [if_true]
      rw [hc, show env.cells.lookup n = some a from ha]
      exact clos_loop r _ hr
    | false =>
      simp only [Bool.false_eq_true, if_false]
      exact clos_loop r _ hr
theorem closureFor_eq {scope : Scope} {env : Env} (h : ∀ x ∈ scope.names, x.2 = .free → (env.cells.lookup x.1).isSome = true) : closureFor scope env = pure (closFrom env.cells scope.names []) := by
  unfold closureFor
  simp only [clos_loop (env := env) scope.names [] h]
  rfl
theorem cellsFrom_facts : ∀ (names : List (Str × NameKind)) (h : Heap) (acc : List (Str × Addr)), (∀ p ∈ acc, p.2 < h.objs.size) → (acc.Pairwise fun x y => x.2 ≠ y.2) →
    ((cellsFrom h.objs.size names acc).Pairwise fun x y => x.2 ≠ y.2) ∧ ∀ p ∈ cellsFrom h.objs.size names acc, p ∈ acc ∨ (h.objs.size ≤ p.2 ∧ (pushCells h names).IsCell p.2 none ∧ (p.1, NameKind.cell) ∈ names)
  | [], h, acc, _, hp => ⟨hp, fun p hm => .inl hm⟩
  | (n, k) :: r, h, acc, hb, hp => by
    unfold cellsFrom pushCells
    split
    · rename_i hk
      have hk' := beq_iff_eq.mp hk
      have ih := cellsFrom_facts r (h.push { cls := .type "cell", data := .cell none }) ((n, h.objs.size) :: acc)
        (fun p hm => by
          rw [Heap.size_push]
          rcases List.mem_cons.mp hm with e | hm
          · rw [e]; exact Nat.lt_succ_self _
          · exact Nat.lt_succ_of_lt (hb p hm))
        (List.pairwise_cons.mpr ⟨fun y hy e => by have := hb y hy; rw [← e] at this; exact Nat.lt_irrefl _ this, hp⟩)
      rw [Heap.size_push] at ih
      refine ⟨ih.1, fun p hm => ?_⟩
      rcases ih.2 p hm with h1 | ⟨h1, h2, h3⟩
      · rcases List.mem_cons.mp h1 with e | h1
        · refine .inr ⟨by rw [e]; exact Nat.le_refl _, ?_, ?_⟩
          · rw [e]
            exact ⟨_, pushCells_keeps _ _ _ _ (Heap.get?_push_size _ rfl), rfl⟩
          · rw [e, hk']; exact List.mem_cons_self
        · exact .inl h1
      · exact .inr ⟨Nat.le_of_succ_le h1, h2, List.mem_cons_of_mem _ h3⟩
    · have ih := cellsFrom_facts r h acc hb hp
      refine ⟨ih.1, fun p hm => ?_⟩
      rcases ih.2 p hm with h1 | ⟨h1, h2, h3⟩
      · exact .inl h1
      · exact .inr ⟨h1, h2, List.mem_cons_of_mem _ h3⟩

theorem closFrom_names {cells : List (Str × Addr)} : ∀ (names : List (Str × NameKind)) (acc : List (Str × Addr)),
    (closFrom cells names acc).map (·.1) = ((names.filter fun p => p.2 == .free).map (·.1)).reverse ++ acc.map (·.1)
  | [], acc => rfl
  | (n, k) :: r, acc => by
    unfold closFrom
    cases hk : k == NameKind.free with
    | true => simp only [if_true]; rw [closFrom_names r]; simp [hk]
    | false => simp only [Bool.false_eq_true, if_false]; rw [closFrom_names r]; simp [hk]
theorem closFrom_mem {cells : List (Str × Addr)} {p : Str × Addr} : ∀ {names : List (Str × NameKind)} {acc : List (Str × Addr)}, p ∈ closFrom cells names acc → p ∈ acc ∨ ((p.1, NameKind.free) ∈ names ∧ p.2 = (cells.lookup p.1).getD 0)
  | [], acc, h => .inl h
  | (n, k) :: r, acc, h => by
    unfold closFrom at h
    split at h
    · rename_i hk
      have hk' := beq_iff_eq.mp hk
      rcases closFrom_mem h with h | ⟨h1, h2⟩
      · rcases List.mem_cons.mp h with e | h
        · exact .inr ⟨by rw [e, hk']; exact List.mem_cons_self, by rw [e]⟩
        · exact .inl h
      · exact .inr ⟨List.mem_cons_of_mem _ h1, h2⟩
    · rcases closFrom_mem h with h | ⟨h1, h2⟩
      · exact .inl h
      · exact .inr ⟨List.mem_cons_of_mem _ h1, h2⟩
theorem lookup_some_of_mem {α : Type} {x : Str} : ∀ {l : List (Str × α)}, x ∈ l.map (·.1) → ∃ c, l.lookup x = some c
  | (n, a) :: r, h => by
    rw [List.lookup_cons]
    cases hx : x == n with
    | true => exact ⟨a, rfl⟩
    | false =>
      refine lookup_some_of_mem (l := r) ?_
      simp only [List.map_cons, List.mem_cons] at h
      exact h.resolve_left (by intro e; subst e; simp at hx)
theorem mem_free {x : Str} {names : List (Str × NameKind)} (h : (x, NameKind.free) ∈ names) : x ∈ (names.filter fun p => p.2 == .free).map (·.1) :=
  List.mem_map.mpr ⟨(x, NameKind.free), List.mem_filter.mpr ⟨h, rfl⟩, rfl⟩
theorem mem_kind_unique {names : List (Str × NameKind)} (hnd : (names.map (·.1)).Nodup) {x : Str} {a b : NameKind} (h1 : (x, a) ∈ names) (h2 : (x, b) ∈ names) : a = b := by
  induction names with
  | nil => cases h1
  | cons p r ih =>
    have hn := List.nodup_cons.mp hnd
    rcases List.mem_cons.mp h1 with e1 | h1 <;> rcases List.mem_cons.mp h2 with e2 | h2
    · rw [← e1] at e2; exact (Prod.mk.inj e2).2.symm
    · exact absurd (List.mem_map_of_mem (f := (·.1)) h2) (by rw [show x = p.1 from congrArg (·.1) e1]; exact hn.1)
    · exact absurd (List.mem_map_of_mem (f := (·.1)) h1) (by rw [show x = p.1 from congrArg (·.1) e2]; exact hn.1)
    · exact ih hn.2 h1 h2
theorem apart_of_names {cells : List (Str × Addr)} (ha : cells.Pairwise fun x y => x.2 ≠ y.2) : ∀ {l : List (Str × Addr)}, (l.map (·.1)).Nodup → (∀ p ∈ l, cells.lookup p.1 = some p.2) → l.Pairwise fun x y => x.2 ≠ y.2
  | [], _, _ => .nil
  | p :: r, hn, hc => by
    have hn' := List.nodup_cons.mp hn
    refine List.pairwise_cons.mpr ⟨fun y hy e => ?_, apart_of_names ha hn'.2 fun q hq => hc q (List.mem_cons_of_mem _ hq)⟩
    have h1 := mem_of_lookup (hc p List.mem_cons_self)
    have h2 := mem_of_lookup (hc y (List.mem_cons_of_mem _ hy))
    rw [e] at h1
    have := name_of_addr ha h1 h2
    exact hn'.1 (by show p.1 ∈ _; rw [this]; exact List.mem_map_of_mem (f := (·.1)) hy)

/-- the block of a comprehension -/
def cenvOf (scope : Scope) (env : Env) (L : Addr) : Env :=
  { scope := relabel scope env, locals := L, globals := env.globals, cells := cellsFrom (L + 1) scope.names (closFrom env.cells scope.names []), qual := env.qual, func := none, code := env.code, frame := env.frame, builtins := env.builtins }

theorem wpAny_compEnv {M : Model} {A : Around} {E : Value → Shared → Prop} {s : Shared} {scope : Scope} {env : Env} {Q : Env → Shared → Prop} {cl : List (Str × Addr)}
    (h : ∀ cenv : Env, ({ cenv with scope := relabel scope env } : Env) = { cenvOf scope env s.heap.objs.size with cells := cellsFrom (s.heap.objs.size + 1) scope.names cl } → cenv.locals = s.heap.objs.size →
      Q cenv { s with heap := pushCells (s.heap.push { cls := .type "dict", data := .dict #[] }) scope.names }) :
    wpAny M A (newFunctionEnv scope env.globals cl [] env.qual none .none (some env)) Q E s := by
  simp only [newFunctionEnv, Option.isSome_some, if_true]
  refine wpAny_bind (wpAny_alloc ?_)
  refine wpAny_bind (wpAny_layCells _ (fun name kind cells => by cases hkc : kind == NameKind.cell <;> simp [hkc]) _ _ _ _ ?_)
  rw [show ({ s with heap := s.heap.push { cls := .type "dict", data := .dict #[] } } : Shared).heap.objs.size = s.heap.objs.size + 1 from Heap.size_push ..]
  exact wpAny_bind (wpAny_pure (wpAny_pure (h _ rfl rfl)))

structure CompOk (scope sc : Scope) : Prop where
  kind : scope.kind = .function
  skind : sc.kind = .function
  nd : (scope.names.map (·.1)).Nodup
  free : ∀ x ∈ scope.names, x.2 = .free → sc.names.lookup x.1 = some .cell ∨ sc.names.lookup x.1 = some .free

theorem CompOk.look {scope sc : Scope} (c : CompOk scope sc) {x : Str} {k : NameKind} (h : (x, k) ∈ scope.names) : scope.names.lookup x = some k := by
  obtain ⟨k', hk'⟩ := lookup_some_of_mem (List.mem_map_of_mem (f := (·.1)) h)
  rw [hk', mem_kind_unique c.nd h (mem_of_lookup hk')]

theorem clos_cells {scope sc : Scope} {env : Env} {σ : Store} {h : Heap} (c : CompOk scope sc) (hsc : env.scope = sc) (f : FS C ok env σ h) : ∀ x ∈ scope.names, x.2 = .free → ∃ a v, env.cells.lookup x.1 = some a ∧ h.IsCell a v := by
  intro x hx hk
  exact f.cells x.1 (by unfold Env.kindOf; rw [hsc]; exact c.free x hx hk)
theorem clos_pairs {scope sc : Scope} {env : Env} {σ : Store} {h : Heap} (c : CompOk scope sc) (hsc : env.scope = sc) (f : FS C ok env σ h) : ∀ p ∈ closFrom env.cells scope.names [], (p.1, NameKind.free) ∈ scope.names ∧ env.cells.lookup p.1 = some p.2 ∧ p.2 < h.objs.size := by
  intro p hp
  rcases closFrom_mem hp with h1 | ⟨h1, h2⟩
  · cases h1
  · obtain ⟨a, v, e1, e2⟩ := clos_cells c hsc f (p.1, .free) h1 rfl
    rw [show env.cells.lookup p.1 = some a from e1] at h2
    simp only [Option.getD_some] at h2
    exact ⟨h1, by rw [h2]; exact e1, by rw [h2]; exact e2.lt⟩
theorem clos_apart {scope sc : Scope} {env : Env} {σ : Store} {h : Heap} (c : CompOk scope sc) (hsc : env.scope = sc) (f : FS C ok env σ h) : (closFrom env.cells scope.names []).Pairwise fun x y => x.2 ≠ y.2 := by
  refine apart_of_names f.apart ?_ fun p hp => (clos_pairs c hsc f p hp).2.1
  rw [closFrom_names]
  simp only [List.map_nil, List.append_nil]
  refine List.pairwise_reverse.mpr (List.Pairwise.imp (fun h => Ne.symm h) ?_)
  exact List.Nodup.sublist (List.Sublist.map (fun p : Str × NameKind => p.1) List.filter_sublist) c.nd

/-- the frame of a comprehension, out of the frame around it -/
theorem fs_comp {scope sc : Scope} {env : Env} {σ σc : Store} {hs h₁ H H2 : Heap} {m : Str → Option Value} {ok' : Addr → Prop} (c : CompOk scope sc) (hsc : env.scope = sc) (f : FS C ok env σ hs) (f₁ : FS C ok env σ h₁) (e : Ext C hs H)
    (hle : h₁.objs.size ≤ H2.objs.size) (hn : H.Ns H2.objs.size m)
    (hown : ∀ x c, (cenvOf scope env H2.objs.size).cells.lookup x = some c → H2.objs.size < c → ∃ v, H.IsCell c v)
    (hσ : ∀ x d, σc.lookup x = some d → scope.names.lookup x = some .free ∧ σ.lookup x = some d ∧ d.isMut = false)
    (hok : ∀ a o, hs.get? a = some o → ok a → ok' a) : FS C ok' (cenvOf scope env H2.objs.size) σc H := by
  have hcp := clos_pairs c hsc f₁
  have facts := cellsFrom_facts scope.names (H2.push { cls := .type "dict", data := .dict #[] }) (closFrom env.cells scope.names [])
    (fun p hp => by rw [Heap.size_push]; exact Nat.lt_succ_of_lt (Nat.lt_of_lt_of_le (hcp p hp).2.2 hle)) (clos_apart c hsc f₁)
  rw [Heap.size_push] at facts
  have hkind : ∀ x, (cenvOf scope env H2.objs.size).kindOf x = (scope.names.lookup x).map (reK sc x) := fun x => by
    show (relabel scope env).names.lookup x = _
    rw [relabel_eq hsc, lookup_relabelS]
  refine ⟨by show (relabel scope env).kind = _; rw [relabel_eq hsc]; exact c.kind, f.gl, f.bl, ⟨m, hn, fun x d ex kx => ?_⟩, fun x d ex kx => ?_, fun x kx => ?_, facts.1⟩
  · obtain ⟨h1, h2, h2m⟩ := hσ x d ex
    rw [hkind, h1] at kx
    simp only [Option.map_some, reK] at kx
    split at kx <;> cases kx
  · obtain ⟨h1, h2, h2m⟩ := hσ x d ex
    have hm : (x, NameKind.free) ∈ scope.names := mem_of_lookup h1
    have hck := c.free _ hm rfl
    have hnl : env.kindOf x ≠ some .local := by unfold Env.kindOf; rw [hsc]; rcases hck with q | q <;> rw [q] <;> decide
    obtain ⟨_, c0, v, e1, e2, e3⟩ := f.cell x d h2 hnl
    refine ⟨?_, c0, v, ?_, e.isCell e2, .inl (((e3.rep h2m).restrict hok).ext e)⟩
    · rw [hkind, h1]
      simp only [Option.map_some, reK]
      split
      · exact .inl rfl
      · exact .inr rfl
    · have hs1 : ((closFrom env.cells scope.names []).lookup x).isSome = true := by
        obtain ⟨q, hq⟩ := lookup_some_of_mem (l := closFrom env.cells scope.names []) (x := x) (by
          rw [closFrom_names]; simp only [List.map_nil, List.append_nil, List.mem_reverse]
          exact mem_free hm)
        rw [hq]; rfl
      obtain ⟨q, hq⟩ := Option.isSome_iff_exists.mp (cellsFrom_some (names := scope.names) (n := H2.objs.size + 1) (.inl hs1))
      have hq' : (cenvOf scope env H2.objs.size).cells.lookup x = some q := hq
      rcases facts.2 _ (mem_of_lookup hq) with h3 | ⟨_, _, h3⟩
      · have := (hcp _ h3).2.1
        rw [show env.cells.lookup x = some c0 from e1] at this
        cases this
        exact hq'
      · exact absurd (mem_kind_unique c.nd hm h3) (by decide)
  · rw [hkind] at kx
    have hk2 : scope.names.lookup x = some .cell ∨ scope.names.lookup x = some .free := by
      cases hq : scope.names.lookup x with
      | none => rw [hq] at kx; rcases kx with kx | kx <;> cases kx
      | some kd =>
        rw [hq] at kx
        cases kd <;> simp [reK] at kx <;> simp
    have hsome : ((cenvOf scope env H2.objs.size).cells.lookup x).isSome = true := by
      rcases hk2 with hk2 | hk2
      · exact cellsFrom_some (.inr hk2)
      · refine cellsFrom_some (.inl ?_)
        obtain ⟨q, hq⟩ := lookup_some_of_mem (l := closFrom env.cells scope.names []) (x := x) (by
          rw [closFrom_names]; simp only [List.map_nil, List.append_nil, List.mem_reverse]
          exact mem_free (mem_of_lookup hk2))
        rw [hq]; rfl
    obtain ⟨q, hq⟩ := Option.isSome_iff_exists.mp hsome
    rcases facts.2 _ (mem_of_lookup hq) with h3 | ⟨h4, _, h3⟩
    · obtain ⟨h5, h6, h7⟩ := hcp _ h3
      obtain ⟨a, v, e1, e2⟩ := clos_cells c hsc f _ h5 rfl
      rw [h6] at e1; cases e1
      exact ⟨_, v, hq, e.isCell e2⟩
    · obtain ⟨v, hv⟩ := hown _ _ hq h4
      exact ⟨_, v, hq, hv⟩
end Mine
namespace Mine
variable {C : Cx} {ok : Addr → Prop}

/-- own cells of the block -/
theorem own_kind {scope sc : Scope} {env : Env} {σ : Store} {hs H2 : Heap} (c : CompOk scope sc) (hsc : env.scope = sc) (f : FS C ok env σ hs) (hle : hs.objs.size ≤ H2.objs.size) {x : Str} {a : Addr}
    (hl : (cenvOf scope env H2.objs.size).cells.lookup x = some a) : ((x, NameKind.free) ∈ scope.names ∧ env.cells.lookup x = some a ∧ a < hs.objs.size) ∨ ((x, NameKind.cell) ∈ scope.names ∧ H2.objs.size < a) := by
  have hcp := clos_pairs c hsc f
  have facts := cellsFrom_facts scope.names (H2.push { cls := .type "dict", data := .dict #[] }) (closFrom env.cells scope.names [])
    (fun p hp => by rw [Heap.size_push]; exact Nat.lt_succ_of_lt (Nat.lt_of_lt_of_le (hcp p hp).2.2 hle)) (clos_apart c hsc f)
  rw [Heap.size_push] at facts
  rcases facts.2 _ (mem_of_lookup hl) with h | ⟨h1, _, h3⟩
  · obtain ⟨h1, h2, h3⟩ := hcp _ h
    exact .inl ⟨h1, h2, h3⟩
  · exact .inr ⟨h3, h1⟩
theorem own_of_fs {scope sc : Scope} {env : Env} {σ σ' : Store} {hs H H2 : Heap} {ok' : Addr → Prop} (c : CompOk scope sc) (hsc : env.scope = sc) (f : FS C ok env σ hs) (hle : hs.objs.size ≤ H2.objs.size)
    (f' : FS C ok' (cenvOf scope env H2.objs.size) σ' H) : ∀ x a, (cenvOf scope env H2.objs.size).cells.lookup x = some a → H2.objs.size < a → ∃ v, H.IsCell a v := by
  intro x a hl hlt
  rcases own_kind c hsc f hle hl with ⟨_, _, h3⟩ | ⟨h1, _⟩
  · exact absurd hlt (Nat.not_lt.mpr (Nat.le_of_lt (Nat.lt_of_lt_of_le h3 hle)))
  · have hk : (cenvOf scope env H2.objs.size).kindOf x = some .cell := by
      show (relabel scope env).names.lookup x = _
      rw [relabel_eq hsc, lookup_relabelS, c.look h1]; rfl
    obtain ⟨a', v, e1, e2⟩ := f'.cells x (.inl hk)
    rw [hl] at e1; cases e1
    exact ⟨v, e2⟩

/-- tests of a comprehension -/
def TssT (C : Cx) (k : Nat) (sc : Scope) (σ : Store) (ifs : List Expr) (b : Bool) : Prop :=
  ∀ (ok : Addr → Prop) (env : Env) (A : Around) (s : Shared) (Q : Bool → Shared → Prop) (E : Value → Shared → Prop), Al ok s → env.scope = sc → Room A k → FS C ok env σ s.heap → G C s.heap →
    (∀ h' tk, Ext C s.heap h' → Q b { s with heap := h', toks := tk }) →
    wpAny C.M A (forIn ifs true fun c r => if r = true then do let ok ← isTrue c env (eval c env); pure (ForInStep.yield ok) else pure (ForInStep.yield r)) Q E s
theorem TssT.use {k : Nat} {sc : Scope} {σ : Store} {ifs : List Expr} {b : Bool} (x : TssT C k sc σ ifs b) (ok : Addr → Prop) (env : Env) (A : Around) (s : Shared) (Q : Bool → Shared → Prop) (E : Value → Shared → Prop) (hal : Al ok s) (hsc : env.scope = sc) (hA : Room A k) (f : FS C ok env σ s.heap) (g : G C s.heap)
    (q : ∀ h' tk, 1 ≤ tk → Ext C s.heap h' → Q b { s with heap := h', toks := tk }) :
    wpAny C.M A (forIn ifs true fun c r => if r = true then do let ok ← isTrue c env (eval c env); pure (ForInStep.yield ok) else pure (ForInStep.yield r)) Q E s :=
  wpAny_with_toks hal.t (x ok env A s _ _ hal hsc hA f g fun h' tk y n => q h' tk n y)
theorem tss_nil {k : Nat} {sc : Scope} {σ : Store} : TssT C k sc σ [] true := fun _ _ _ s _ _ _ _ _ _ _ q => wpAny_tests_nil (q s.heap s.toks (.refl _))
theorem tss_one {k : Nat} {sc : Scope} {σ : Store} {c : Expr} {b : Bool} (h : TsT C k sc σ c b) : TssT C k sc σ [c] b := fun ok env A s Q E hal hsc hA f g q => wpAny_tests_one (h ok env A s Q E hal hsc hA f g q)

section
variable {k : Nat} {sc scope : Scope} {σ σc : Store}

theorem comp_loop {target iter elt : Expr} {ifs : List Expr} {pos : Pos} {ds : List D} {T : D → Store} {tst : D → Bool} {fe : D → D} {env : Env} {A : Around} {s : Shared} {R : Result → Shared → Prop} {I : Addr} {St : Nat → Heap → Prop} {h₁ : Heap} {t₁ : Nat}
    (c : CompOk scope sc) (hσ : ∀ x d, σc.lookup x = some d → scope.names.lookup x = some .free ∧ σ.lookup x = some d ∧ d.isMut = false)
    (ha : ∀ d ∈ ds, AsT C (fun x => scope.names.lookup x ≠ some .free) (relabelS scope sc) σc target d (T d))
    (ht : ∀ d ∈ ds, TssT C k (relabelS scope sc) (T d) ifs (tst d))
    (he : ∀ d ∈ ds, tst d = true → EvT C k (relabelS scope sc) (T d) elt (fe d)) (hlen : ds.length ≤ 1000)
    (hal : Al ok s) (hsc : env.scope = sc) (hA : Room A k) (f : FS C ok env σ s.heap) (g : G C s.heap)
    (n₁ : 1 ≤ t₁) (x₁ : Ext C s.heap h₁) (hI : s.heap.get? I = none) (W : ItW C ok A I ds St h₁)
    (hR : ∀ h' tk m vs n, Ext C s.heap h' → h'.Ns (h₁.objs.size + 1) m → h'.get? h₁.objs.size = some { cls := .type "list", data := .seq vs n } → RepL C (fun a => ok a ∧ a ≠ h₁.objs.size) h' ((ds.filter tst).map fe) vs.toList →
      R (.ok .next) { s with heap := h', toks := tk }) :
    codeAny C.M A (.compLoop (.ListComp elt [⟨target, iter, ifs, 0⟩] scope pos) 0 (.ref I) (.ref h₁.objs.size) (cenvOf scope env (h₁.objs.size + 1))) R
      { s with heap := pushCells ((h₁.push { cls := .type "list", data := .seq ([] : List Value).toArray }).push { cls := .type "dict", data := .dict #[] }) scope.names, toks := t₁ } := by
  generalize hH2 : h₁.push { cls := .type "list", data := .seq ([] : List Value).toArray } = H2
  have hL : h₁.objs.size + 1 = H2.objs.size := by rw [← hH2, Heap.size_push]
  generalize hD : h₁.objs.size = D at hL hR ⊢
  rw [hL] at hR ⊢
  have hle : h₁.objs.size ≤ H2.objs.size := by omega
  have f₁ := f.ext x₁
  have hok1 : ∀ a o, h₁.get? a = some o → ok a → ok a ∧ a ≠ D := fun a o e h => ⟨h, fun q => by have := Heap.lt_size e; rw [q, ← hD] at this; exact Nat.lt_irrefl _ this⟩
  have hD1 : h₁.get? D = none := by rw [← hD]; exact fresh_push _
  have hDs : s.heap.get? D = none := x₁.fresh hD1
  have hok : ∀ a o, s.heap.get? a = some o → ok a → ok a ∧ a ≠ D := fun a o e h => ⟨h, fun q => by rw [q, hDs] at e; cases e⟩
  have hfr : ∀ a, h₁.objs.size ≤ a → s.heap.get? a = none := fun a ha => x₁.fresh (by
    cases q : h₁.get? a with
    | none => rfl
    | some o => exact absurd (Heap.lt_size q) (Nat.not_lt.mpr ha))
  have hLs : s.heap.get? H2.objs.size = none := hfr _ hle
  have k0 : ∀ b o, h₁.get? b = some o → (pushCells (H2.push { cls := .type "dict", data := .dict #[] }) scope.names).get? b = some o := fun b o e =>
    pushCells_keeps _ _ _ _ (Heap.get?_push_of_some _ (hH2 ▸ Heap.get?_push_of_some _ e))
  have hDo : (pushCells (H2.push { cls := .type "dict", data := .dict #[] }) scope.names).get? D = some { cls := .type "list", data := .seq #[] } :=
    pushCells_keeps _ _ _ _ (Heap.get?_push_of_some _ (hH2 ▸ hD ▸ Heap.get?_push_size _ rfl))
  have fr : Fresh (fun x => scope.names.lookup x ≠ some .free) (cenvOf scope env H2.objs.size) s.heap := ⟨hLs, fun a ha => hfr a (Nat.le_trans hle (Nat.le_of_lt ha)), fun x a hN _ hl => by
    rcases own_kind c hsc f₁ hle hl with ⟨h1, _, _⟩ | ⟨_, h2⟩
    · exact absurd (c.look h1) hN
    · exact hfr _ (by omega)⟩
  have hsc' : (cenvOf scope env H2.objs.size).scope = relabelS scope sc := relabel_eq hsc
  refine codeAny_loop rfl (fun n s' => ∃ i h' tk m vs nn, s' = { s with heap := h', toks := tk } ∧ 1 ≤ tk ∧ i ≤ ds.length ∧ n = ds.length + 1 - i ∧ Ext C s.heap h' ∧ KR every h₁ h' ∧ St i h' ∧ h'.Ns H2.objs.size m ∧
      (∀ x a, (cenvOf scope env H2.objs.size).cells.lookup x = some a → H2.objs.size < a → ∃ v, h'.IsCell a v) ∧ h'.get? D = some { cls := .type "list", data := .seq vs nn } ∧
      RepL C (fun a => ok a ∧ a ≠ D) h' (((ds.take i).filter tst).map fe) vs.toList) ?_ (ds.length + 1) ?_
  rotate_left
  · refine ⟨0, _, t₁, fun _ => none, #[], 0, rfl, n₁, Nat.zero_le _, rfl, x₁.trans (.of_keeps k0), fun b o _ e _ => k0 b o e, W.kd _ _ _ W.st (fun b o _ _ _ e _ => k0 b o e), ?_, ?_, hDo, by simpa using RepL.nil⟩
    · exact (Heap.Ns.new H2 (.type "dict")).keeps (pushCells_keeps _ _)
    · intro x a hl hlt
      have hcp := clos_pairs c hsc f₁
      have facts := cellsFrom_facts scope.names (H2.push { cls := .type "dict", data := .dict #[] }) (closFrom env.cells scope.names [])
        (fun p hp => by rw [Heap.size_push]; exact Nat.lt_succ_of_lt (Nat.lt_of_lt_of_le (hcp p hp).2.2 hle)) (clos_apart c hsc f₁)
      rw [Heap.size_push] at facts
      rcases facts.2 _ (mem_of_lookup hl) with h | ⟨_, h2, _⟩
      · have := (hcp _ h).2.2
        exact absurd hlt (Nat.not_lt.mpr (Nat.le_of_lt (Nat.lt_of_lt_of_le this hle)))
      · exact ⟨_, h2⟩
  rintro n s' ⟨i, H, tk, m, vs, nn, rfl, tH, hil, rfl, eH, rH, stH, nH, oH, dH, lH⟩
  show wpAny _ A ((compTurn (.ListComp elt [⟨target, iter, ifs, 0⟩] scope pos) 0 (.ref I) (.ref D) (cenvOf scope env H2.objs.size)).onRaise (fun x => do noteFrame x (cenvOf scope env H2.objs.size); theTreesLotGoes x)) _ _ _
  refine wpAny_noted ?_
  rw [compTurn_list]
  refine wpAny_bind (wpAny_standAt (wpAny_bind ?_))
  have iH := W.obj _ _ stH
  have hDI : D ≠ I := by
    rintro rfl
    exact iH.notData dH (.inl ⟨_, _, rfl⟩)
  by_cases hlt : i < ds.length
  · have hd : ds[i]? = some ds[i] := by simp [hlt]
    have hmem : ds[i] ∈ ds := List.getElem_mem hlt
    refine wpAny_with_toks (s := { s with heap := H, toks := tk }) tH (W.item (fun a => ok a ∧ a ≠ D) i _ _ _ _ hok1 hd rH.some stH fun v h₂ t₂ r₂ st₂ k₂ n₂ => ?_)
    have e₂ := eH.iter hI iH k₂
    have kr₂ : KR every H h₂ := kr_iter iH k₂
    have f₂ : FS C (fun a => ok a ∧ a ≠ D) (cenvOf scope env H2.objs.size) σc h₂ := fs_comp c hsc f f₁ e₂ hle (ns_iter iH k₂ nH) (fun x a hl hlt' => let ⟨v, hv⟩ := oH x a hl hlt'; ⟨v, cell_iter iH k₂ hv⟩) hσ hok
    refine wpAny_bind (own_go (W.obj _ _ st₂) (wpAny_bind ?_))
    refine (ha _ hmem).use _ (cenvOf scope env H2.objs.size) A _ _ _ s.heap v n₂ hsc' hA.hd fr g e₂ f₂ r₂ fun h₃ t₃ n₃ e₃ k₃ f₃ => ?_
    have dH₂ : h₂.get? D = some { cls := .type "list", data := .seq vs nn } := k₂ D _ hDI dH
    have dH₃ : h₃.get? D = some { cls := .type "list", data := .seq vs nn } := k₃.k D _ trivial dH₂ (.inl (.inl ⟨_, _, rfl⟩))
    have al₃ : AlH (fun a => ok a ∧ a ≠ D) h₃ := fun a hn => ⟨hal.h.ext e₃ a hn, fun q => by rw [q, dH₃] at hn; cases hn⟩
    refine wpAny_bind ((ht _ hmem).use _ (cenvOf scope env H2.objs.size) A _ _ _ ⟨al₃, n₃⟩ hsc' hA f₃ (g.ext e₃) fun h₄ t₄ q₄ x₄ => ?_)
    have lH₄ : RepL C (fun a => ok a ∧ a ≠ D) h₄ (((ds.take i).filter tst).map fe) vs.toList := ((lH.mono kr₂.some).mono k₃.kr.some).ext x₄
    have st₄ : St (i + 1) h₄ := W.kd _ _ _ (W.kd _ _ _ st₂ k₃.some.to1) x₄.kd1
    have kr₄ : KR every h₁ h₄ := ((rH.trans kr₂).trans k₃.kr).trans x₄.kr
    have dH₄ : h₄.get? D = some { cls := .type "list", data := .seq vs nn } := x₄.keep_cls dH₃ (by simp)
    have f₄ := f₃.ext x₄
    obtain ⟨m₄, n₄, _⟩ := f₄.ns
    have htake : (ds.take (i + 1)).filter tst = (ds.take i).filter tst ++ (if tst ds[i] then [ds[i]] else []) := by
      rw [List.take_add_one, hd, List.filter_append]
      simp only [Option.toList_some, List.filter_cons, List.filter_nil]
    cases hb : tst ds[i] with
    | false =>
      refine wpAny_pure ⟨rfl, ds.length + 1 - (i + 1), by omega, i + 1, h₄, t₄, m₄, vs, nn, rfl, q₄, hlt, rfl, e₃.trans x₄, kr₄, st₄, n₄, own_of_fs c hsc f₁ hle f₄, dH₄, ?_⟩
      rw [htake, hb]; simpa using lH₄
    | true =>
      have al₄ := al₃.ext x₄
      simp only [if_true]
      refine wpAny_bind (wpAny_bind ((he _ hmem hb).use _ (cenvOf scope env H2.objs.size) A _ _ _ ⟨al₄, q₄⟩ hsc' hA f₄ (g.ext (e₃.trans x₄)) fun y h₅ t₅ q₅ x₅ r₅ => ?_))
      have dH₅ : h₅.get? D = some { cls := .type "list", data := .seq vs nn } := x₅.keep_cls dH₄ (by simp)
      have hvl : vs.size ≤ sizeLine := by
        have e1 := lH₄.length
        have e2 : ((ds.take i).filter tst).length ≤ (ds.take i).length := List.length_filter_le _ _
        have e3 : (ds.take i).length ≤ i := by rw [List.length_take]; exact Nat.min_le_left ..
        rw [List.length_map, Array.length_toList] at e1
        refine Nat.le_trans ?_ (show 1000 ≤ sizeLine by decide)
        omega
      refine wpAny_bind (wpAny_list_append_plain (s := { s with heap := h₅, toks := t₅ }) (l := D) (items := vs) (hsz := hvl) ⟨nn, dH₅⟩ fun h₆ pl₆ sb₆ => ?_)
      obtain ⟨n₆, d₆⟩ := pl₆
      have f₅ := f₄.ext x₅
      obtain ⟨m₅, n₅, _⟩ := f₅.ns
      have hDL : H2.objs.size ≠ D := by omega
      have e₆ : Ext C s.heap h₆ := ((e₃.trans x₄).trans x₅).store hDs dH₅ (by simp) sb₆
      refine wpAny_pure (wpAny_pure ⟨rfl, ds.length + 1 - (i + 1), by omega, i + 1, h₆, t₅, m₅, vs.push y, n₆, rfl, q₅, hlt, rfl, e₆, ?_, ?_, n₅.sameBut sb₆ hDL, ?_, d₆, ?_⟩)
      · intro b o _ eb hDa
        exact (sb₆.2 b (fun q => by rw [q, hD1] at eb; cases eb)).trans ((x₅.kr (ok := every)) b o trivial (kr₄ b o trivial eb hDa) hDa)
      · exact W.kd _ _ _ (W.kd _ _ _ st₄ x₅.kd1) fun b o o' _ eb' eb _ => (sb₆.2 b (fun q => by rw [q, hD1] at eb'; cases eb')).trans eb
      · intro x a hl hlt'
        obtain ⟨v', hv'⟩ := own_of_fs c hsc f₁ hle f₅ x a hl hlt'
        refine ⟨v', hv'.sameBut sb₆ ?_⟩
        rintro rfl
        obtain ⟨o, ho, hd'⟩ := hv'
        rw [dH₅] at ho; cases ho; cases hd'
      · rw [htake, hb]
        simp only [if_true, List.map_append, List.map_cons, List.map_nil, Array.toList_push]
        refine RepL.append ((lH₄.ext x₅).but fun b o hb' eb => (sb₆.2 b hb'.2).trans eb) (.cons (r₅.but fun b o hb' eb => (sb₆.2 b hb'.2).trans eb) .nil)
  · have hin : i = ds.length := by omega
    subst hin
    refine W.done _ _ _ stH fun h₂ t₂ k₂ => wpAny_pure ?_
    refine hR h₂ t₂ m vs nn (eH.iter hI iH k₂) (ns_iter iH k₂ nH) (k₂ D _ hDI dH) ?_
    rw [List.take_length] at lH
    exact lH.mono (kr_iter iH k₂)
end
end Mine
namespace Mine
variable {C : Cx} {ok : Addr → Prop}
section
variable {k : Nat} {sc scope : Scope} {σ σc : Store}

/-- what a comprehension asks: its scope, its walk, its target, tests and element -/
structure CompT (C : Cx) (k : Nat) (sc : Scope) (σ : Store) (target iter elt : Expr) (ifs : List Expr) (scope : Scope) (rs : List D) : Prop where
  c : CompOk scope sc
  names : ∀ x ∈ scope.names, x.2 = .local → scope.names.lookup x.1 = some .local
  hs : ∀ env x, foldedSetIterable iter env x = pure x
  go : ∃ (ds : List D) (σc : Store) (T : D → Store) (tst : D → Bool) (fe : D → D), ItT C k sc σ iter ds ∧ (∀ x d, σc.lookup x = some d → scope.names.lookup x = some .free ∧ σ.lookup x = some d ∧ d.isMut = false) ∧
    (∀ d ∈ ds, AsT C (fun x => scope.names.lookup x ≠ some .free) (relabelS scope sc) σc target d (T d)) ∧ (∀ d ∈ ds, TssT C k (relabelS scope sc) (T d) ifs (tst d)) ∧
    (∀ d ∈ ds, tst d = true → EvT C k (relabelS scope sc) (T d) elt (fe d)) ∧ ds.length ≤ 1000 ∧ rs = (ds.filter tst).map fe

theorem comp_run {target iter elt : Expr} {ifs : List Expr} {pos p2 : Pos} {rs : List D} {env : Env} {A : Around} {s : Shared} {Q E : Value → Shared → Prop} {use : Option (Value → Sem Unit)} (X : CompT C k sc σ target iter elt ifs scope rs)
    (hal : Al ok s) (hsc : env.scope = sc) (hA : Room A k) (f : FS C ok env σ s.heap) (g : G C s.heap)
    (q : ∀ D L h' tk m vs n, D ≠ L → s.heap.get? L = none → s.heap.get? D = none → Ext C s.heap h' → h'.Ns L m → h'.get? D = some { cls := .type "list", data := .seq vs n } → ok D → RepL C (fun a => ok a ∧ a ≠ D) h' rs vs.toList →
      compPost C.M A E use Q (.ref D) L (.ok .next) { s with heap := h', toks := tk }) :
    wpAny C.M A (comprehension (.ListComp elt [⟨target, iter, ifs, 0⟩] scope pos) scope env p2 (newList []) false (eval iter env) use) Q E s := by
  obtain ⟨ds, σc, T, tst, fe, hi, hσ, ha, ht, he, hlen, rfl⟩ := X.go
  have hclos : closureFor scope env = pure (closFrom env.cells scope.names []) := closureFor_eq fun x hx hk => by
    obtain ⟨a, v, e1, _⟩ := clos_cells X.c hsc f x hx hk
    rw [e1]; rfl
  refine wpAny_comprehension_free rfl (X.hs env) hclos X.c.kind X.names ?_
  refine hi.use ok env A s _ E hal hsc hA f g fun I St h₁ t₁ n₁ x₁ hI W => ?_
  refine wpAny_newObj_type (wpAny_compEnv fun cenv ec el => ?_)
  have hL : (h₁.push { cls := .type "list", data := .seq ([] : List Value).toArray }).objs.size = h₁.objs.size + 1 := Heap.size_push ..
  have hDn : s.heap.get? h₁.objs.size = none := x₁.fresh (fresh_push _)
  have hLn : s.heap.get? (h₁.objs.size + 1) = none := x₁.fresh (by
    cases z : h₁.get? (h₁.objs.size + 1) with
    | none => rfl
    | some o => exact absurd (Heap.lt_size z) (Nat.not_lt.mpr (Nat.le_succ _)))
  have ec' : ({ cenv with scope := relabel scope env } : Env) = cenvOf scope env (h₁.objs.size + 1) := by
    rw [ec]; dsimp only at el ⊢; rw [hL]; rfl
  rw [ec']
  have el' : cenv.locals = h₁.objs.size + 1 := by rw [el]; exact hL
  rw [el']
  have loop := comp_loop (pos := pos) (iter := iter) (R := compPost C.M A E use Q (.ref h₁.objs.size) (h₁.objs.size + 1)) (t₁ := t₁) X.c hσ ha ht he hlen hal hsc hA f g n₁ x₁ hI W
    fun h' tk m vs n e' n' d' l' => q _ _ h' tk m vs n (Nat.ne_of_lt (Nat.lt_succ_self _)) hLn hDn e' n' d' (hal.new x₁) l'
  refine codeAny_compStart_list loop ?_
  refine W.self 0 _ _ _ ?_ loop
  exact W.kd _ _ _ W.st fun b o _ _ _ e _ => pushCells_keeps _ _ _ _ (Heap.get?_push_of_some _ (Heap.get?_push_of_some _ e))

theorem kr_ns {h h' : Heap} {L : Addr} {m : Str → Option Value} (hn : h.Ns L m) (hs : Heap.SameBut L h h') : KR ok h h' := fun b o _ e hD => by
  by_cases hb : b = L
  · subst hb
    obtain ⟨o', es, ep, ho, hd, hk, _⟩ := hn
    rw [e] at ho; cases ho
    rcases hD with ⟨its, n, hd'⟩ | ⟨es', n, hd', e', he', hne⟩
    · rw [hd] at hd'; cases hd'
    · rw [hd] at hd'; cases hd'
      obtain ⟨x, t, hx⟩ := hk e' he'
      exact absurd hx (hne x t)
  · exact (hs.2 b hb).trans e
theorem ev_listcomp {target iter elt : Expr} {ifs : List Expr} {pos : Pos} {rs : List D} (X : CompT C k sc σ target iter elt ifs scope rs) :
    EvT C k sc σ (.ListComp elt [⟨target, iter, ifs, 0⟩] scope pos) (.list rs) := by
  intro ok env A s Q E hal hsc hA f g q
  rw [eval_ListComp]
  refine comp_run X hal hsc hA f g fun D L h' tk m vs n hDL hLn hDn e hn hd hok l => ?_
  refine ⟨m, hn, fun h'' sb => ?_⟩
  have kd : KR every h' h'' := kr_ns hn sb
  exact q _ h'' tk (e.store_ns hn hLn sb) (.list hok (kd D _ trivial hd (.inl ⟨_, _, rfl⟩)) ((l.allow fun a z => z.1).mono kd.some))

theorem exs_assign_comp {target iter elt : Expr} {ifs : List Expr} {pos : Pos} {rs : List D} {x : Str} {p spos : Pos} (X : CompT C k sc σ target iter elt ifs scope rs) (hx : sc.names.lookup x = some .local ∨ sc.names.lookup x = some .cell)
    (hs : ∀ env : Env, env.scope = sc → swapsWith (.ListComp elt [⟨target, iter, ifs, 0⟩] scope pos) (some (.Name x p)) spos.line env = pure true) :
    ExS C k sc σ (.Assign [.Name x p] (.ListComp elt [⟨target, iter, ifs, 0⟩] scope pos) spos) (.next ((x, .list rs) :: σ)) := by
  intro ok env A s Q E h₀ hal hnn hsc hA hf g e f q
  rw [exec_Assign_Name_used _ _ _ _ (hs env hsc)]
  refine wpAny_bind (wpAny_standAt (wpAny_bind ?_))
  show wpAny _ A (do let _ ← comprehension (.ListComp elt [⟨target, iter, ifs, 0⟩] scope pos) scope env _ (newList []) false (eval iter env) (some (assign (.Name x p) env))) _ _ s
  refine wpAny_bind (comp_run (Q := fun _ s' => wpAny C.M A (pure ()) _ _ s') X ⟨hal, hnn⟩ hsc hA f (g.ext e) fun D L h' tk m vs n hDL hLn hDn e' hn hd hok l => ?_)
  have r : Rep C ok h' (.list rs) (.ref D) := .list hok hd (l.allow fun a z => z.1)
  have hL₀ := e.fresh hLn
  have hne : L ≠ env.locals := by
    rintro rfl
    obtain ⟨m0, ⟨o, es, ep, ho, _⟩, _⟩ := f.ns
    rw [hLn] at ho; cases ho
  refine wpAny_assign_Name (store_name (C := C) (N := fun _ => True) (h₀ := h₀) (by unfold Env.kindOf; rw [hsc]; exact hx) trivial hf (e.trans e') (f.ext e') r fun h₃ t₃ e₃ k₃ f₃ n₃ _ => ?_)
  refine ⟨m, n₃ L m hne hn, fun h₄ sb => ?_⟩
  have kd : KR every h₃ h₄ := kr_ns (n₃ L m hne hn) sb
  have kD : KD env.locals ok s.heap h₄ := by
    have k13 : KD env.locals ok s.heap h₃ := e'.kd.trans k₃.some
    refine ⟨fun b o z eb hD => (sb.2 b (fun hb => by subst hb; rw [hLn] at eb; cases eb)).trans (k13.k b o z eb hD), fun a ea => ?_⟩
    by_cases ha : a = L
    · subst ha; exact hLn
    · exact k13.dom a ((sb.2 a ha).symm.trans ea)
  obtain ⟨m5, n5, r5⟩ := f₃.ns
  refine wpAny_pure (wpAny_pure (q _ h₄ _ (e₃.store_ns (n₃ L m hne hn) hL₀ sb) kD ⟨rfl, f₃.fn, f₃.gl, f₃.bl, ⟨m5, n5.sameBut sb (Ne.symm hne), fun y dy ey ky => let ⟨v, h1, h2⟩ := r5 y dy ey ky; ⟨v, h1, h2.keep kd⟩⟩, fun y dy ey ky => ?_, fun y ky => ?_, f₃.apart⟩))
  · obtain ⟨a, c, w, e1, e2, e3⟩ := f₃.cell y dy ey ky
    exact ⟨a, c, w, e1, e2.sameBut sb (ns_ne_cell (n₃ L m hne hn) e2), e3.keep kd⟩
  · obtain ⟨c, w, e1, e2⟩ := f₃.cells y ky
    exact ⟨c, w, e1, e2.sameBut sb (ns_ne_cell (n₃ L m hne hn) e2)⟩
end
end Mine
namespace Mine
variable {C : Cx} {ok : Addr → Prop}

abbrev dInts (ns : List Int) : List D := ns.map D.int
abbrev dStrs (xs : List Str) : List D := xs.map D.str
theorem RepL.ints {h : Heap} : ∀ {ns : List Int} {vs : List Value}, RepL C ok h (dInts ns) vs → IntsAre vs ns
  | [], _, .nil => .nil
  | n :: ns, _, .cons r rs => by cases r; exact .cons _ _ (RepL.ints rs)
theorem repL_ints {h : Heap} : ∀ {ns : List Int} {vs : List Value}, IntsAre vs ns → RepL C ok h (dInts ns) vs
  | _, _, .nil => .nil
  | _, _, .cons n t r => .cons (.int n t) (repL_ints r)
theorem RepL.strs {h : Heap} : ∀ {xs : List Str} {vs : List Value}, RepL C ok h (dStrs xs) vs → ∃ l : List (Str × Tok), vs = strValues l ∧ l.map (·.1) = xs
  | [], _, .nil => ⟨[], rfl, rfl⟩
  | x :: xs, _, .cons r rs => by
    cases r with
    | str _ t =>
      obtain ⟨l, e1, e2⟩ := RepL.strs rs
      exact ⟨(x, t) :: l, by rw [e1]; rfl, by rw [← e2]; rfl⟩
theorem repL_strs {h : Heap} : ∀ (l : List (Str × Tok)), RepL C ok h (dStrs (l.map (·.1))) (strValues l)
  | [] => .nil
  | (x, t) :: l => .cons (.str x t) (repL_strs l)
theorem RepL.one {h : Heap} {d : D} {vs : List Value} (r : RepL C ok h [d] vs) : ∃ v, vs = [v] ∧ Rep C ok h d v := by
  cases r with
  | cons r rs => cases rs; exact ⟨_, rfl, r⟩
theorem RepL.two {h : Heap} {d e : D} {vs : List Value} (r : RepL C ok h [d, e] vs) : ∃ v w, vs = [v, w] ∧ Rep C ok h d v ∧ Rep C ok h e w := by
  cases r with
  | cons r rs => obtain ⟨w, rfl, r'⟩ := RepL.one rs; exact ⟨_, _, rfl, r, r'⟩
theorem RepL.three {h : Heap} {d e f : D} {vs : List Value} (r : RepL C ok h [d, e, f] vs) : ∃ v w x, vs = [v, w, x] ∧ Rep C ok h d v ∧ Rep C ok h e w ∧ Rep C ok h f x := by
  cases r with
  | cons r rs => obtain ⟨w, x, rfl, r', r''⟩ := RepL.two rs; exact ⟨_, _, _, rfl, r, r', r''⟩
theorem Rep.asInt {h : Heap} {i : Int} {v : Value} (r : Rep C ok h (.int i) v) : ∃ t, v = .int i t := by cases r; exact ⟨_, rfl⟩
theorem Rep.asStr {h : Heap} {i : Str} {v : Value} (r : Rep C ok h (.str i) v) : ∃ t, v = .str i t := by cases r; exact ⟨_, rfl⟩
theorem Rep.asList {h : Heap} {xs : List D} {v : Value} (r : Rep C ok h (.list xs) v) : ∃ a vs n, v = .ref a ∧ ok a ∧ h.get? a = some { cls := .type "list", data := .seq vs n } ∧ RepL C ok h xs vs.toList := by
  cases r with
  | list ha l rl => exact ⟨_, _, _, rfl, ha, l, rl⟩
theorem Rep.asTuple {h : Heap} {xs : List D} {v : Value} (r : Rep C ok h (.tuple xs) v) : ∃ a vs n, v = .ref a ∧ ok a ∧ h.get? a = some { cls := .type "tuple", data := .seq vs n } ∧ RepL C ok h xs vs.toList := by
  cases r with
  | tuple ha l rl => exact ⟨_, _, _, rfl, ha, l, rl⟩
theorem isList' {h : Heap} {a : Addr} {vs : Array Value} {n : Nat} (l : h.get? a = some { cls := .type "list", data := .seq vs n }) : h.IsList a vs.toList.toArray := ⟨_, l, rfl, n, by simp⟩
theorem isTuple' {h : Heap} {a : Addr} {vs : Array Value} {n : Nat} (l : h.get? a = some { cls := .type "tuple", data := .seq vs n }) : h.IsTuple a vs.toList.toArray := ⟨_, l, rfl, n, by simp⟩

theorem ct_len {k : Nat} {xs : List D} (hn : xs.length ≤ 1000000) : CT C k (.builtin "len") [.list xs] (.int xs.length) := by
  intro ok A s Q E vs hal hA g r q
  obtain ⟨v, rfl, r1⟩ := r.one
  obtain ⟨a, vs, n, rfl, ha, l, rl⟩ := r1.asList
  have e := rl.length
  rw [Array.length_toList] at e
  refine Calls.call_len_list (Rep.isList l) (by rw [e]; omega) ?_
  rw [e]
  exact q _ s.heap _ (.refl _) (.int _ _)

theorem ct_sum {k : Nat} {ns : List Int} : CT C k (.builtin "sum") [.list (dInts ns)] (.int ns.sum) := by
  intro ok A s Q E vs hal hA g r q
  obtain ⟨v, rfl, r1⟩ := r.one
  obtain ⟨a, vs, n, rfl, ha, l, rl⟩ := r1.asList
  have hi := rl.ints
  obtain ⟨xs, e⟩ := hi.allInts.items
  have hl := isList' l
  rw [e] at hl
  refine sum_intListG hA.hd hl fun h' tk t' hk => ?_
  have hns : ns = xs.toList.map (·.1) := by rw [← hi.numsOf, ← nums_intItems, ← e]
  rw [preSum_eq, List.take_of_length_le (by simp), ← hns]
  exact q _ h' tk (.of_keeps hk) (.int _ _)

def lmin : List Int → Int
  | [] => 0
  | [a] => a
  | a :: b :: r => min a (lmin (b :: r))
def lmax : List Int → Int
  | [] => 0
  | [a] => a
  | a :: b :: r => max a (lmax (b :: r))
theorem lmin_spec : ∀ {ns : List Int} {m : Int}, m ∈ ns → (∀ a ∈ ns, m ≤ a) → m = lmin ns
  | [a], m, h, _ => by simpa [lmin] using h
  | a :: b :: r, m, h, hm => by
    unfold lmin
    have ih : ∀ m', m' ∈ b :: r → (∀ x ∈ b :: r, m' ≤ x) → m' = lmin (b :: r) := fun m' h1 h2 => lmin_spec h1 h2
    have hmem : ∀ (l : List Int), l ≠ [] → lmin l ∈ l ∧ ∀ x ∈ l, lmin l ≤ x := by
      intro l
      induction l with
      | nil => intro h; exact absurd rfl h
      | cons c t iht =>
        intro _
        cases t with
        | nil => simp [lmin]
        | cons d t' =>
          have := iht (by simp)
          unfold lmin
          constructor
          · by_cases hc : c ≤ lmin (d :: t')
            · rw [Int.min_eq_left hc]; exact List.mem_cons_self
            · rw [Int.min_eq_right (by omega)]; exact List.mem_cons_of_mem _ this.1
          · intro x hx
            rcases List.mem_cons.mp hx with rfl | hx
            · omega
            · have := this.2 x hx; omega
    have hl := hmem (b :: r) (by simp)
    have h1 : m ≤ a := hm a List.mem_cons_self
    have h2 : m ≤ lmin (b :: r) := hm _ (List.mem_cons_of_mem _ hl.1)
    rcases List.mem_cons.mp h with e | h
    · subst e; omega
    · have := hl.2 m h; omega
theorem lmax_spec : ∀ {ns : List Int} {m : Int}, m ∈ ns → (∀ a ∈ ns, a ≤ m) → m = lmax ns := by
  have hmem : ∀ (l : List Int), l ≠ [] → lmax l ∈ l ∧ ∀ x ∈ l, x ≤ lmax l := by
    intro l
    induction l with
    | nil => intro h; exact absurd rfl h
    | cons c t iht =>
      intro _
      cases t with
      | nil => simp [lmax]
      | cons d t' =>
        have := iht (by simp)
        unfold lmax
        constructor
        · by_cases hc : lmax (d :: t') ≤ c
          · rw [Int.max_eq_left hc]; exact List.mem_cons_self
          · rw [Int.max_eq_right (by omega)]; exact List.mem_cons_of_mem _ this.1
        · intro x hx
          rcases List.mem_cons.mp hx with rfl | hx
          · omega
          · have := this.2 x hx; omega
  intro ns m h hm
  have := hmem ns (by rintro rfl; cases h)
  have h1 := this.2 m h
  have h2 := hm _ this.1
  omega

theorem ct_min {k : Nat} {ns : List Int} (hne : 0 < ns.length) : CT C k (.builtin "min") [.list (dInts ns)] (.int (lmin ns)) := by
  intro ok A s Q E vs hal hA g r q
  obtain ⟨v, rfl, r1⟩ := r.one
  obtain ⟨a, vs, n, rfl, ha, l, rl⟩ := r1.asList
  have hi := rl.ints
  obtain ⟨xs, e⟩ := hi.allInts.items
  have hl := isList' l
  rw [e] at hl
  have hns : ns = xs.toList.map (·.1) := by rw [← hi.numsOf, ← nums_intItems, ← e]
  have hsz : 0 < xs.size := by have h3 := hne; rw [hns, List.length_map, Array.length_toList] at h3; exact h3
  refine min_intList hA.hd hl hsz fun v h' tk hv hk => ?_
  obtain ⟨t, rfl⟩ := intItems_at hv
  obtain ⟨h1, h2⟩ := argBest_lt (numAt xs) (xs.size - 1)
  rw [lmin_spec (ns := ns) (m := numAt xs (argBest (fun i j => decide (numAt xs i < numAt xs j)) (xs.size - 1)))
    (by rw [hns, numAt_eq]; exact getD_mem (by rw [List.length_map, Array.length_toList]; omega))
    (fun a ha => by
      rw [hns] at ha
      obtain ⟨j, hj, rfl⟩ := mem_getD ha
      rw [List.length_map, Array.length_toList] at hj
      rw [← numAt_eq]; exact h2 j (by omega))]
  exact q _ h' tk (.of_keeps hk) (.int _ _)
theorem ct_max {k : Nat} {ns : List Int} (hne : 0 < ns.length) : CT C k (.builtin "max") [.list (dInts ns)] (.int (lmax ns)) := by
  intro ok A s Q E vs hal hA g r q
  obtain ⟨v, rfl, r1⟩ := r.one
  obtain ⟨a, vs, n, rfl, ha, l, rl⟩ := r1.asList
  have hi := rl.ints
  obtain ⟨xs, e⟩ := hi.allInts.items
  have hl := isList' l
  rw [e] at hl
  have hns : ns = xs.toList.map (·.1) := by rw [← hi.numsOf, ← nums_intItems, ← e]
  have hsz : 0 < xs.size := by have h3 := hne; rw [hns, List.length_map, Array.length_toList] at h3; exact h3
  refine max_intList hA.hd hl hsz fun v h' tk hv hk => ?_
  obtain ⟨t, rfl⟩ := intItems_at hv
  obtain ⟨h1, h2⟩ := argBest_gt (numAt xs) (xs.size - 1)
  rw [lmax_spec (ns := ns) (m := numAt xs (argBest (fun i j => decide (numAt xs i > numAt xs j)) (xs.size - 1)))
    (by rw [hns, numAt_eq]; exact getD_mem (by rw [List.length_map, Array.length_toList]; omega))
    (fun a ha => by
      rw [hns] at ha
      obtain ⟨j, hj, rfl⟩ := mem_getD ha
      rw [List.length_map, Array.length_toList] at hj
      rw [← numAt_eq]; exact h2 j (by omega))]
  exact q _ h' tk (.of_keeps hk) (.int _ _)

theorem ct_divmod {k : Nat} {a b : Int} (hb : b ≠ 0) (hp : Builtin.divisionGoesByPylong a b = false) : CT C k (.builtin "divmod") [.int a, .int b] (.tuple [.int (a.fdiv b), .int (a.fmod b)]) := by
  intro ok A s Q E vs hal hA g r q
  obtain ⟨v, w, rfl, r1, r2⟩ := r.two
  obtain ⟨t, rfl⟩ := r1.asInt
  obtain ⟨u, rfl⟩ := r2.asInt
  refine divmod_int hb ?_ (.inl hp)
  exact q _ _ _ (.push _ _) (.tuple (hal.new (.refl (C := C) _)) (Heap.get?_push_size _ rfl) (.cons (.int _ _) (.cons (.int _ _) .nil)))
theorem ct_bitlen {k : Nat} {a : Int} : CT C k (.builtin "int.bit_length") [.int a] (.int (Builtin.Int.intBits a)) := by
  intro ok A s Q E vs hal hA g r q
  obtain ⟨v, rfl, r1⟩ := r.one
  obtain ⟨t, rfl⟩ := r1.asInt
  exact call_int_bit_length (q _ s.heap _ (.refl _) (.int _ _))

theorem ct_count {k : Nat} {ns : List Int} {x : Int} : CT C k (.builtin "list.count") [.list (dInts ns), .int x] (.int (ns.count x : Nat)) := by
  intro ok A s Q E vs hal hA g r q
  obtain ⟨v, w, rfl, r1, r2⟩ := r.two
  obtain ⟨a, vs, n, rfl, ha, l, rl⟩ := r1.asList
  obtain ⟨u, rfl⟩ := r2.asInt
  exact count_list_ints (isList' l) rl.ints (q _ s.heap _ (.refl _) (.int _ _))

theorem op_getlist {xs : List D} {i : Int} {d : D} (h0 : 0 ≤ i) (h1 : xs[i.toNat]? = some d) (h2 : i < 2 ^ 63) : Op2 C getItem (.list xs) (.int i) d := by
  intro ok A s Q E va vb hal _ _ _ ra rb q
  obtain ⟨a, vs, n, rfl, ha, l, rl⟩ := ra.asList
  obtain ⟨u, rfl⟩ := rb.asInt
  obtain ⟨v, hv, hr⟩ := rl.get h1
  exact wpAny_getItem_list (Rep.isList l) h0 h2 (by rw [← Array.getElem?_toList]; exact hv) (q v s.heap s.toks (.refl _) hr)
theorem op_gettuple {xs : List D} {i : Int} {d : D} (h0 : 0 ≤ i) (h1 : xs[i.toNat]? = some d) (h2 : i < 2 ^ 63) : Op2 C getItem (.tuple xs) (.int i) d := by
  intro ok A s Q E va vb hal _ _ _ ra rb q
  obtain ⟨a, vs, n, rfl, ha, l, rl⟩ := ra.asTuple
  obtain ⟨u, rfl⟩ := rb.asInt
  obtain ⟨v, hv, hr⟩ := rl.get h1
  have hlt : i.toNat < xs.length := (List.getElem?_eq_some_iff.mp h1).1
  have hl := rl.length
  rw [Array.length_toList] at hl
  refine P.getItem_tuple l (by omega) h2 (k := i.toNat) ?_ (by rw [← Array.getElem?_toList]; exact hv) (q v s.heap s.toks (.refl _) hr)
  unfold seqIndex?
  rw [hl]
  have h3 : ¬ i < 0 := by omega
  simp only [h3, if_false]
  rw [if_pos (by simp; omega)]

theorem op_addlist {xs ys : List D} (hn : xs.length + ys.length ≤ 1000000) : Op2 C (binaryOp .Add) (.list xs) (.list ys) (.list (xs ++ ys)) := by
  intro ok A s Q E va vb hal _ _ _ ra rb q
  obtain ⟨a, vs, n, rfl, ha, l, rl⟩ := ra.asList
  obtain ⟨b, ws, n2, rfl, hb, l2, rl2⟩ := rb.asList
  have e1 := rl.length
  have e2 := rl2.length
  rw [Array.length_toList] at e1 e2
  refine concat_meets ⟨_, l, rfl⟩ ⟨_, l2, rfl⟩ noFill_list_add seq_list_add PySem.F.slot_list_add PySem.F.entry_list_add (PySem.F.args_list_add_2 _ _) (list_addW _ _ _ _ _ _ _ _ _ _ (by rw [e1, e2]; exact Nat.le_trans hn (by decide))) ⟨l, l2, ?_⟩
  exact q _ _ s.toks (.push _ _) (.list (hal.new (.refl (C := C) _)) (Heap.get?_push_size _ rfl) (by rw [Array.toList_append]; exact RepL.append (rl.ext (.push _ _)) (rl2.ext (.push _ _))))
end Mine
namespace Mine
variable {C : Cx} {ok : Addr → Prop}

def dpick (xs : List D) (lo hi st : Option Int) : List D :=
  (sliceRange (sliceBounds lo hi st xs.length).1 (sliceBounds lo hi st xs.length).2.1 (sliceBounds lo hi st xs.length).2.2).filterMap (xs[·]?)
theorem RepL.get_none {h : Heap} {ds : List D} {vs : List Value} (r : RepL C ok h ds vs) {i : Nat} (e : ds[i]? = none) : vs[i]? = none := by
  rw [List.getElem?_eq_none_iff] at e ⊢
  rw [r.length]; exact e
theorem RepL.places {h : Heap} {ds : List D} {vs : List Value} (r : RepL C ok h ds vs) : ∀ js : List Nat, RepL C ok h (js.filterMap (ds[·]?)) (js.filterMap (vs[·]?))
  | [] => .nil
  | j :: js => by
    cases e : ds[j]? with
    | none => rw [List.filterMap_cons_none e, List.filterMap_cons_none (r.get_none e)]; exact RepL.places r js
    | some d =>
      obtain ⟨v, hv, hr⟩ := r.get e
      rw [List.filterMap_cons_some e, List.filterMap_cons_some hv]
      exact .cons hr (RepL.places r js)
theorem RepL.pick {h : Heap} {ds : List D} {vs : Array Value} (r : RepL C ok h ds vs.toList) (lo hi st : Option Int) : RepL C ok h (dpick ds lo hi st) (slicePick vs lo hi st).toList := by
  have e := r.length
  rw [Array.length_toList] at e
  unfold dpick slicePick
  rw [← e]
  have := r.places (sliceRange (sliceBounds lo hi st vs.size).1 (sliceBounds lo hi st vs.size).2.1 (sliceBounds lo hi st vs.size).2.2)
  simpa using this

section
variable {k : Nat} {sc : Scope} {σ : Store}

/-- a part of a slice -/
inductive PartT (C : Cx) (k : Nat) (sc : Scope) (σ : Store) : Option Expr → Option Int → Prop
  | none : PartT C k sc σ none none
  | some {e : Expr} {i : Int} : EvT C k sc σ e (.int i) → PartT C k sc σ (some e) (some i)

theorem PartT.use {o : Option Expr} {p : Option Int} (x : PartT C k sc σ o p) (ok : Addr → Prop) (env : Env) (A : Around) (s : Shared) (Q E : Value → Shared → Prop) (hal : Al ok s) (hsc : env.scope = sc) (hA : Room A k) (f : FS C ok env σ s.heap) (g : G C s.heap)
    (q : ∀ v h' tk, 1 ≤ tk → Ext C s.heap h' → IsPart v p → Q v { s with heap := h', toks := tk }) : wpAny C.M A (evalPart o env) Q E s := by
  cases x with
  | none => exact wpAny_pure (q .none s.heap s.toks hal.t (.refl _) .none)
  | some x =>
    refine x.use ok env A s Q E hal hsc hA f g fun v h' tk n e r => ?_
    obtain ⟨t, rfl⟩ := r.asInt
    exact q _ h' tk n e (.int _ _)

theorem ev_slice {value : Expr} {lo hi st : Option Expr} {p pos : Pos} {xs : List D} {l u t : Option Int} (hv : EvT C k sc σ value (.list xs)) (hl : PartT C k sc σ lo l) (hu : PartT C k sc σ hi u) (ht : PartT C k sc σ st t) (h0 : t ≠ some 0) (hn : xs.length ≤ 1000000) :
    EvT C k sc σ (.Subscript value (.Slice lo hi st p) pos) (.list (dpick xs l u t)) := by
  intro ok env A s Q E hal hsc hA f g q
  rw [eval_Subscript]
  refine wpAny_bind (hv.use ok env A s _ E hal hsc hA f g fun o h₁ t₁ n₁ x₁ r₁ => wpAny_bind (wpAny_holding (wpAny_Slice ?_)))
  refine hl.use ok env A _ _ E (hal.ext x₁ n₁) hsc hA (f.ext x₁) (g.ext x₁) fun vl h₂ t₂ n₂ x₂ p₂ => ?_
  have x12 := x₁.trans x₂
  refine hu.use ok env A _ _ E (hal.ext x12 n₂) hsc hA (f.ext x12) (g.ext x12) fun vu h₃ t₃ n₃ x₃ p₃ => ?_
  have x13 := x12.trans x₃
  refine ht.use ok env A _ _ E (hal.ext x13 n₃) hsc hA (f.ext x13) (g.ext x13) fun vt h₄ t₄ n₄ x₄ p₄ => ?_
  have x14 := x13.trans x₄
  have x15 : Ext C s.heap (h₄.push { cls := .type "slice", data := .fields #[vl, vu, vt] }) := x14.trans (.push _ _)
  refine wpAny_bind (wpAny_standAt ?_)
  have r' := (r₁.ext ((x₂.trans x₃).trans x₄)).ext (Ext.push h₄ { cls := .type "slice", data := .fields #[vl, vu, vt] })
  have hT := Rep.typeIs (s := { s with heap := h₄.push { cls := .type "slice", data := .fields #[vl, vu, vt] }, toks := t₄ }) r' rfl
  obtain ⟨a, vs, n, rfl, ha, ll, rl⟩ := r'.asList
  refine wpAny_bind ?_
  rw [getitemInPython_of_ne hT.not_modules]
  refine wpAny_bind (wpAny_specialOf hT list_getitem_lookup (wpAny_pure ?_))
  have e := rl.length
  rw [Array.length_toList] at e
  have fin : wpAny C.M A (getItem (.ref a) (.ref h₄.objs.size)) (fun r s₃ => wpAny C.M A (letTemporaryGo value (.ref a) r >>= fun _ => pure r) Q E s₃) E { s with heap := h₄.push { cls := .type "slice", data := .fields #[vl, vu, vt] }, toks := t₄ } := by
    refine wpAny_getItem_list_slice (Rep.isList ll) (Heap.IsSliceOf.new ..) p₂ p₃ p₄ h0 ?_ (by rw [e]; exact Nat.le_trans hn (by decide))
    refine wpAny_bind (wpAny_letTemporaryGo (wpAny_pure ?_))
    exact q _ _ t₄ (x15.trans (.push _ _)) (.list (hal.new x15) (Heap.get?_push_size _ rfl) ((rl.pick l u t).ext (.push _ _)))
  cases st with
  | none => exact wpAny_bind (wpAny_operating fin)
  | some e => exact wpAny_bind (wpAny_operating fin)
end

/-- texts -/
theorem op_addstr {x y : Str} (hn : x.length + y.length ≤ 1000000) : Op2 C (binaryOp .Add) (.str x) (.str y) (.str (x ++ y)) := by
  intro ok A s Q E va vb hal _ _ _ ra rb q
  obtain ⟨t, rfl⟩ := ra.asStr
  obtain ⟨u, rfl⟩ := rb.asStr
  exact SB.add (fun t' k => q _ s.heap k (.refl _) (.str _ _)) (Nat.le_trans hn (by decide))
theorem op_mulstr {x : Str} {n : Int} (h : MulOk x n) : Op2 C (binaryOp .Mult) (.str x) (.int n) (.str (Txt.mul x n)) := by
  intro ok A s Q E va vb hal _ _ _ ra rb q
  obtain ⟨t, rfl⟩ := ra.asStr
  obtain ⟨u, rfl⟩ := rb.asInt
  exact SB.mul h (fun t' k => q _ s.heap k (.refl _) (.str _ _))
theorem op_eqstr {x y : Str} : Op2 C (compareOp .Eq) (.str x) (.str y) (.bool (x.cps.toList == y.cps.toList)) := by
  intro ok A s Q E va vb hal _ _ _ ra rb q
  obtain ⟨t, rfl⟩ := ra.asStr
  obtain ⟨u, rfl⟩ := rb.asStr
  exact P.eq_str (q _ s.heap s.toks (.refl _) (.bool _))
theorem op_nestr {x y : Str} : Op2 C (compareOp .NotEq) (.str x) (.str y) (.bool (x.cps.toList != y.cps.toList)) := by
  intro ok A s Q E va vb hal _ _ _ ra rb q
  obtain ⟨t, rfl⟩ := ra.asStr
  obtain ⟨u, rfl⟩ := rb.asStr
  exact P.ne_str (q _ s.heap s.toks (.refl _) (.bool _))
theorem ct_join {k : Nat} {x : Str} {xs : List Str} (h : JoinOk x xs = true) : CT C k (.builtin "str.join") [.str x, .list (dStrs xs)] (.str (Txt.join x xs)) := by
  intro ok A s Q E vs hal hA g r q
  obtain ⟨v, w, rfl, r1, r2⟩ := r.two
  obtain ⟨t, rfl⟩ := r1.asStr
  obtain ⟨a, vs, n, rfl, ha, l, rl⟩ := r2.asList
  obtain ⟨ls, e1, e2⟩ := rl.strs
  have hl := isList' l
  rw [e1] at hl
  exact SC.join hl e2 h fun t' k => q _ s.heap k (.refl _) (.str _ _)
theorem ct_split {k : Nat} {x y : Str} (hy : (y.length == 0) = false) (hx : x.length ≤ 1000000) (h2 : (Builtin.Str.partsBetween x (Builtin.Str.occurrences x y 0 x.length (x.length + 1)) y.length).length ≤ 1000000) :
    CT C k (.builtin "str.split") [.str x, .str y] (.list (dStrs (Txt.split x y))) := by
  intro ok A s Q E vs hal hA g r q
  obtain ⟨v, w, rfl, r1, r2⟩ := r.two
  obtain ⟨t, rfl⟩ := r1.asStr
  obtain ⟨u, rfl⟩ := r2.asStr
  have hsz : x.length ≤ sizeLine := Nat.le_trans hx (by decide)
  have hsz2 := Nat.le_trans h2 (show 1000000 ≤ sizeLine by decide)
  have fin : ∀ (l : List (Str × Tok)) (tk : Nat), l.map (·.1) = Txt.split x y → Q (.ref s.heap.objs.size) { s with heap := s.heap.push { cls := .type "list", data := .seq (strValues l).toArray }, toks := tk } := fun l tk e =>
    q _ _ tk (.push _ _) (.list (hal.new (.refl (C := C) _)) (Heap.get?_push_size _ rfl) (by rw [← e]; exact repL_strs l))
  cases h1 : (decide (x.length < y.length) || decide (Builtin.Str.strKind x < Builtin.Str.strKind y))
  · cases hf : (Builtin.Str.occurrences x y 0 x.length (x.length + 1)).isEmpty
    · refine call_meets F.slot_str_split (typeIs_str _ _ _) F.entry_str_split (F.args_str_split_2 _ _) (meets_str_split_sep x y t u h1 hy hf hsz hsz2) ?_
      show wants Q E _ { s with toks := _, heap := s.heap.push { cls := .type "list", data := .seq (strsFrom s.toks (Builtin.Str.partsBetween x (Builtin.Str.occurrences x y 0 x.length (x.length + 1)) y.length)).toArray } }
      rw [strsFrom_eq]
      exact fin (numbered s.toks _) _ ((numbered_texts _ _).trans ((if_neg (ne_true_of_eq_false h1)).trans (if_neg (ne_true_of_eq_false hf))).symm)
    · exact call_meets F.slot_str_split (typeIs_str _ _ _) F.entry_str_split (F.args_str_split_2 _ _) (meets_str_split_not_found x y t u h1 hy hf)
        (fin [(x, t)] s.toks ((if_neg (ne_true_of_eq_false h1)).trans (if_pos hf)).symm)
  · exact call_meets F.slot_str_split (typeIs_str _ _ _) F.entry_str_split (F.args_str_split_2 _ _) (meets_str_split_cannot_occur x y t u h1)
      (fin [(x, t)] s.toks (if_pos h1).symm)
end Mine
namespace Mine
variable {C : Cx} {ok : Addr → Prop}

theorem foldl_rep (items : Array Value) : ∀ (n : Nat) (acc : Array Value), (List.foldl (fun x1 x2 => x1 ++ x2) acc (List.replicate n items)).toList = acc.toList ++ (List.replicate n items.toList).flatten
  | 0, acc => by simp
  | n + 1, acc => by
    rw [List.replicate_succ, List.foldl_cons, foldl_rep items n, List.replicate_succ, List.flatten_cons, Array.toList_append, List.append_assoc]
theorem RepL.repeat {h : Heap} {ds : List D} {vs : List Value} (r : RepL C ok h ds vs) : ∀ n : Nat, RepL C ok h (List.replicate n ds).flatten (List.replicate n vs).flatten
  | 0 => .nil
  | n + 1 => by rw [List.replicate_succ, List.replicate_succ, List.flatten_cons, List.flatten_cons]; exact RepL.append r (RepL.repeat r n)

theorem op_mullist {xs : List D} {n : Int} (h0 : 0 ≤ n) (hn : xs.length * n.toNat ≤ 1000000) (h1 : n < 2 ^ 40) : Op2 C (binaryOp .Mult) (.list xs) (.int n) (.list (List.replicate n.toNat xs).flatten) := by
  intro ok A s Q E va vb hal _ _ _ ra rb q
  obtain ⟨a, vs, nn, rfl, ha, l, rl⟩ := ra.asList
  obtain ⟨u, rfl⟩ := rb.asInt
  have e := rl.length
  rw [Array.length_toList] at e
  have hsz : vs.size * n.toNat ≤ 2 ^ 24 := by rw [e]; exact Nat.le_trans hn (by decide)
  refine wpAny_binaryOp_repeat_ref (T := "list") (U := "int") (by decide) ⟨_, l, rfl⟩ (fun s' => typeIs_int s' n u) noFill_list_mul F.fills_int_mul F.slot_int_rmul repeat_list F.slot_int_index.lookup
    (call_meets F.slot_int_rmul (typeIs_int s n u) F.entry_int_rmul (F.args_int_rmul_2 _ _) (int___rmul___int_list n u a vs nn)
      ⟨l, rfl, ⟨_, l, rfl⟩, call_meets F.slot_list_mul ⟨_, l, rfl⟩ F.entry_list_mul (F.args_list_mul_2 _ _)
        (AutoListH.list___mul___list_int_3 a vs nn n u (by simp [Builtin.List.listFitsIndex]; omega) (by omega) (by simp [Builtin.List.listTooLong, sizeLine]; omega))
        ⟨l, ?_⟩⟩)
  refine q _ _ s.toks (.push _ _) (.list (hal.new (.refl (C := C) _)) (Heap.get?_push_size _ rfl) ?_)
  rw [foldl_rep]
  simp only [List.nil_append]
  have key : RepL C ok s.heap (List.replicate n.toNat xs).flatten (List.replicate (if vs.isEmpty = true then 0 else n.toNat) vs.toList).flatten := by
    by_cases hv : vs.isEmpty = true
    · have h3 : vs.toList = [] := by simpa using hv
      have h4 : xs = [] := by
        have := rl.length; rw [h3] at this; exact List.length_eq_zero_iff.mp this.symm
      rw [if_pos hv, h4]
      simp
      exact .nil
    · rw [if_neg hv]; exact rl.repeat _
  exact key.ext (.push _ _)

theorem op_pow2 {b : Int} (h0 : 0 < b) (h1 : b ≤ 1000000) : Op2 C (binaryOp .Pow) (.int 2) (.int b) (.int (2 ^ b.toNat)) := by
  intro ok A s Q E va vb hal _ _ _ ra rb q
  obtain ⟨t, rfl⟩ := ra.asInt
  obtain ⟨u, rfl⟩ := rb.asInt
  refine AutoIntOps.pow_4 (by omega) (by simp; omega) (by decide) (by decide) ?_ (q _ s.heap _ (.refl _) (.int _ _))
  have hb : Builtin.Int.intBits 2 = 2 := by decide +kernel
  rw [hb]
  unfold Builtin.Int.intTooBig bitsLine
  simp only [decide_eq_true_eq]
  omega

-- data of the older kind, for ==
mutual
def D.py : D → PyData
  | .none => .none
  | .bool b => .bool b
  | .int i => .int i
  | .str x => .str x
  | .list xs => .list (D.pys xs)
  | .tuple xs => .tuple (D.pys xs)
  | .dict _ => .none
  | .mut _ _ => .none
  | .val _ => .none
def D.pys : List D → List PyData
  | [] => []
  | d :: ds => d.py :: D.pys ds
end
mutual
def D.flat : D → Bool
  | .none | .bool _ | .int _ | .str _ => true
  | .list xs => D.flats xs
  | .tuple xs => D.flats xs
  | .dict _ => false
  | .mut _ _ => false
  | .val _ => false
def D.flats : List D → Bool
  | [] => true
  | d :: ds => d.flat && D.flats ds
end
mutual
theorem Rep.reads {h : Heap} : ∀ {d : D} {v : Value}, d.flat = true → Rep C ok h d v → ∃ as, Reads h v d.py as
  | _, _, _, .none => ⟨_, by unfold D.py; exact .none⟩
  | _, _, _, .bool b => ⟨_, by unfold D.py; exact .bool b⟩
  | _, _, _, .int i t => ⟨_, by unfold D.py; exact .int i t⟩
  | _, _, _, .str x t => ⟨_, by unfold D.py; exact .str x t⟩
  | _, _, hf, .list ha l r => by
    unfold D.flat at hf
    obtain ⟨as, ra⟩ := RepL.reads hf r
    exact ⟨_, by unfold D.py; exact .list l rfl rfl ra⟩
  | _, _, hf, .tuple ha l r => by
    unfold D.flat at hf
    obtain ⟨as, ra⟩ := RepL.reads hf r
    exact ⟨_, by unfold D.py; exact .tuple l rfl rfl ra⟩
  | _, _, hf, .dict _ _ _ _ => by unfold D.flat at hf; cases hf
  | _, _, hf, .val _ => by unfold D.flat at hf; cases hf
theorem RepL.reads {h : Heap} : ∀ {ds : List D} {vs : List Value}, D.flats ds = true → RepL C ok h ds vs → ∃ as, ReadsAll h vs (D.pys ds) as
  | _, _, _, .nil => ⟨_, by unfold D.pys; exact .nil⟩
  | _, _, hf, .cons r rs => by
    unfold D.flats at hf
    obtain ⟨h1, h2⟩ := Bool.and_eq_true_iff.mp hf
    obtain ⟨as, ra⟩ := Rep.reads h1 r
    obtain ⟨bs, rb⟩ := RepL.reads h2 rs
    exact ⟨_, by unfold D.pys; exact .cons ra rb⟩
end
theorem op_eq_data {a b : D} (fa : a.flat = true) (fb : b.flat = true) (ha : SeqAt.shaped a.py = true) (hb : SeqAt.shaped b.py = true) (hm : SeqAt.noMix a.py b.py = true) : Op2 C (compareOp .Eq) a b (.bool (PySem.Spec.same a.py b.py)) := by
  intro ok A s Q E va vb hal _ hu _ ra rb q
  obtain ⟨as, ra'⟩ := ra.reads fa
  obtain ⟨bs, rb'⟩ := rb.reads fb
  exact eq_dataH_same ra' rb' ha hb (by omega) hm (q _ s.heap s.toks (.refl _) (.bool _))
theorem op_ne_data {a b : D} (fa : a.flat = true) (fb : b.flat = true) (ha : SeqAt.shaped a.py = true) (hb : SeqAt.shaped b.py = true) (hm : SeqAt.noMix a.py b.py = true) : Op2 C (compareOp .NotEq) a b (.bool (!PySem.Spec.same a.py b.py)) := by
  intro ok A s Q E va vb hal _ hu _ ra rb q
  obtain ⟨as, ra'⟩ := ra.reads fa
  obtain ⟨bs, rb'⟩ := rb.reads fb
  exact ne_dataH_same ra' rb' ha hb (by omega) hm (q _ s.heap s.toks (.refl _) (.bool _))
theorem op_eq_ints {ns ms : List Int} : Op2 C (compareOp .Eq) (.list (dInts ns)) (.list (dInts ms)) (.bool (decide (ns = ms))) := by
  intro ok A s Q E va vb hal _ hu _ ra rb q
  obtain ⟨a, vs, n, rfl, ha, l, rl⟩ := ra.asList
  obtain ⟨b, ws, n2, rfl, hb, l2, rl2⟩ := rb.asList
  exact eq_intsK (isList' l) rl.ints (isList' l2) rl2.ints (by omega) (q _ s.heap s.toks (.refl _) (.bool _))
theorem op_ne_ints {ns ms : List Int} : Op2 C (compareOp .NotEq) (.list (dInts ns)) (.list (dInts ms)) (.bool (!decide (ns = ms))) := by
  intro ok A s Q E va vb hal _ hu _ ra rb q
  obtain ⟨a, vs, n, rfl, ha, l, rl⟩ := ra.asList
  obtain ⟨b, ws, n2, rfl, hb, l2, rl2⟩ := rb.asList
  exact ne_intsK (isList' l) rl.ints (isList' l2) rl2.ints (by omega) (q _ s.heap s.toks (.refl _) (.bool _))
theorem any_isInt {k : Int} : ∀ {vs : List Value} {ns : List Int}, IntsAre vs ns → vs.any (isInt k) = decide (k ∈ ns)
  | _, _, .nil => by simp
  | _, _, .cons n t r => by
    rw [List.any_cons, any_isInt r]
    simp only [List.mem_cons, isInt]
    by_cases h : n = k
    · subst h; simp
    · have h' : ¬ k = n := fun e => h e.symm
      simp [h, h']
theorem op_in_ints {ns : List Int} {x : Int} : Op2 C (compareOp .In) (.int x) (.list (dInts ns)) (.bool (decide (x ∈ ns))) := by
  intro ok A s Q E va vb hal _ hu _ ra rb q
  obtain ⟨t, rfl⟩ := ra.asInt
  obtain ⟨b, ws, n2, rfl, hb, l2, rl2⟩ := rb.asList
  refine SeqAt.in_listAt (isInt x) (isList' l2) (fun y hy => (eq_isInt x t rl2.ints y (by simpa using hy)).at _ _) ?_
  have e : (ws.toList.toArray.any (isInt x)) = decide (x ∈ ns) := by rw [← any_isInt rl2.ints]; simp
  rw [e]
  exact q _ s.heap s.toks (.refl _) (.bool _)
theorem ct_index {k : Nat} {ns : List Int} {x : Int} (hx : x ∈ ns) (hn : ns.length ≤ 1000000) : CT C k (.builtin "list.index") [.list (dInts ns), .int x] (.int (ns.idxOf x : Nat)) := by
  intro ok A s Q E vs hal hA g r q
  obtain ⟨v, w, rfl, r1, r2⟩ := r.two
  obtain ⟨a, vs, n, rfl, ha, l, rl⟩ := r1.asList
  obtain ⟨u, rfl⟩ := r2.asInt
  have hi := rl.ints
  have hlen := hi.length
  have hj : ns.idxOf x < ns.length := List.idxOf_lt_length_iff.mpr hx
  have hl2 : s.heap.get? a = some { cls := .type "list", data := .seq vs.toList.toArray n } := by simpa using l
  generalize vs.toList = ws at hl2 hi hlen
  refine call_meets PySem.F.slot_list_index ⟨_, hl2, rfl⟩ PySem.F.entry_list_index (PySem.F.args_list_index_2 _ _)
    (SeqAt.list_indexAt a ws.toArray n _ _ (.int x u) (isInt x) (ns.idxOf x) (by simpa [hlen] using hj) (by omega) ?_ ?_) ⟨hl2, fun y hy => (eq_isInt x u hi y (by simpa using hy)).at _ _, q _ s.heap _ (.refl _) (.int _ _)⟩
  · show isInt x ws[ns.idxOf x] = true
    rw [isInt_at x hi _ (by omega) hj]
    simpa using List.getElem_idxOf hj
  · intro j hjs hlt
    show isInt x ws[j] = false
    rw [isInt_at x hi j (by simpa using hjs) (by omega)]
    exact ne_of_lt_idxOf hlt _

section
variable {k : Nat} {sc : Scope} {σ : Store}
/-- tests -/
theorem ts_int {e : Expr} {i : Int} (h : EvT C k sc σ e (.int i)) (hw : ∀ env whole, isTrue e env whole = (do let v ← whole; standAt e.pos; holding [v] (truthy v))) : TsT C k sc σ e (i != 0) := by
  intro ok env A s Q E hal hsc hA f g q
  rw [hw]
  refine wpAny_bind (h.use ok env A s _ E hal hsc hA f g fun v h₁ t₁ n₁ x₁ r₁ => wpAny_bind (wpAny_standAt (wpAny_holding ?_)))
  obtain ⟨t, rfl⟩ := r₁.asInt
  exact P.truthy_int (q h₁ t₁ x₁)
theorem ts_list {e : Expr} {xs : List D} (h : EvT C k sc σ e (.list xs)) (hn : xs.length ≤ 1000000) (hw : ∀ env whole, isTrue e env whole = (do let v ← whole; standAt e.pos; holding [v] (truthy v))) : TsT C k sc σ e (!xs.isEmpty) := by
  intro ok env A s Q E hal hsc hA f g q
  rw [hw]
  refine wpAny_bind (h.use ok env A s _ E hal hsc hA f g fun v h₁ t₁ n₁ x₁ r₁ => wpAny_bind (wpAny_standAt (wpAny_holding ?_)))
  obtain ⟨a, vs, n, rfl, ha, l, rl⟩ := r₁.asList
  have e1 := rl.length
  refine wpAny_truthy_list (Rep.isList l) (by rw [Array.length_toList] at e1; omega) ?_
  have : vs.isEmpty = xs.isEmpty := by
    rw [← Array.isEmpty_toList]
    generalize vs.toList = ws at rl
    cases rl <;> rfl
  rw [this]
  exact q h₁ _ x₁
theorem alltrue_one {x : Expr} {env : Env} {A : Around} {s : Shared} {Q : Bool → Shared → Prop} {E : Value → Shared → Prop} (h : wpAny C.M A (isTrue x env (eval x env)) (fun b s' => Q b s') E s) : wpAny C.M A (allTrue .And [x] env) Q E s := by
  refine wpAny_allTrue_And_cons (wpAny_mono h (fun b s' hb => ?_) fun _ _ e => e)
  cases b with
  | false => exact hb
  | true => exact wpAny_allTrue_And_nil hb
theorem ts_and_ff {x y : Expr} {pos : Pos} (hx : TsT C k sc σ x false) : TsT C k sc σ (.BoolOp .And [x, y] pos) false := by
  intro ok env A s Q E hal hsc hA f g q
  refine wpAny_isTrue_BoolOp (wpAny_allTrue_And_cons (hx.use ok env A s _ E hal hsc hA f g fun h₁ t₁ n₁ x₁ => ?_))
  exact q h₁ t₁ x₁
theorem ts_and_t {x y : Expr} {pos : Pos} {b : Bool} (hx : TsT C k sc σ x true) (hy : TsT C k sc σ y b) : TsT C k sc σ (.BoolOp .And [x, y] pos) b := by
  intro ok env A s Q E hal hsc hA f g q
  refine wpAny_isTrue_BoolOp (wpAny_allTrue_And_cons (hx.use ok env A s _ E hal hsc hA f g fun h₁ t₁ n₁ x₁ => ?_))
  refine alltrue_one (hy.use ok env A _ _ E (hal.ext x₁ n₁) hsc hA (f.ext x₁) (g.ext x₁) fun h₂ t₂ n₂ x₂ => ?_)
  exact q h₂ t₂ (x₁.trans x₂)
end
end Mine
namespace Mine
variable {C : Cx} {ok : Addr → Prop}

theorem new_ne {h : Heap} {a : Addr} {o : Obj} (e : h.get? a = some o) : a ≠ h.objs.size := Nat.ne_of_lt (Heap.lt_size e)
theorem iterData {h₁ h h' : Heap} {I : Addr} {o : Obj} {vs : Array Value} {n : String} (k : KD1 ok h₁ h h') (hI : ok I) (e₁ : ∃ o', h₁.get? I = some o') (e : h.get? I = some o) (hc : o.cls = .type n) (hd : o.data = .fields vs) : h'.get? I = some o :=
  let ⟨o', e'⟩ := e₁; k I o o' hI e' e (.inr ⟨⟨vs, hd⟩, by rw [hc]; simp⟩)

def upFrom (a : Int) (n : Nat) : List Int := (List.range n).map fun (i : Nat) => a + (i : Int)
theorem upFrom_length (a : Int) (n : Nat) : (upFrom a n).length = n := by simp [upFrom]
theorem upFrom_get {a : Int} {n i : Nat} (h : i < n) : (upFrom a n)[i]? = some (a + i) := by simp [upFrom, h]

section
variable {k : Nat} {sc : Scope} {σ : Store}

theorem itw_list {A : Around} {h : Heap} {ds : List D} {a : Addr} {vs : Array Value} {n : Nat} (hI : ok h.objs.size) (ha : ok a) (hh : A.handled = none) (l : h.get? a = some { cls := .type "list", data := .seq vs n }) (r : RepL C ok h ds vs.toList) :
    ItW C ok A h.objs.size ds (fun i h' => h'.IsListIter h.objs.size a i ∧ h'.IsList a vs) (h.push { cls := .type "list_iterator", data := .fields #[.ref a, .int 0 0] }) := by
  have hne : a ≠ h.objs.size := new_ne l
  have e := r.length
  rw [Array.length_toList] at e
  have W := Walks.list (prog := C.prog) (w := C.w) (A := A) hh h.objs.size a hne vs
  refine ⟨⟨⟨_, Heap.get?_push_size _ rfl, rfl, rfl⟩, Rep.isList (Heap.get?_push_of_some _ l)⟩, ?_, ?_, fun i s Q E st q => W.self i s Q E st q, ?_, ?_⟩
  · intro ok' i d s Q E hok hd kr st q
    have hi : i < vs.size := by rw [e]; exact (List.getElem?_eq_some_iff.mp hd).1
    refine W.item i s Q E hi st fun v h' tk hP st' keep => ?_
    obtain ⟨v', hv', hr'⟩ := (r.ext (Ext.push h { cls := .type "list_iterator", data := .fields #[.ref a, .int 0 0] })).get hd
    rw [Array.getElem?_toList] at hv'
    have : v' = v := Option.some.inj (hv'.symm.trans hP)
    subst this
    refine q v' h' tk (((hr'.restrict hok).mono kr).mono ?_) st' fun b o hb eb => keep b o (by simpa using hb) eb
    exact kr_iter (I := h.objs.size) (by obtain ⟨o, ho, hc, hd'⟩ := st.1; exact ⟨o, _, _, ho, hc, hd', by simp, by intro q t; simp, by decide⟩) fun b o hb eb => keep b o (by simpa using hb) eb
  · intro s Q E st q
    rw [← e] at st
    exact W.done s Q E st fun h' tk keep => q h' tk fun b o hb eb => keep b o (by simpa using hb) eb
  · intro i h1 h2 st kd
    obtain ⟨⟨o, ho, hc, hd⟩, ⟨o2, ho2, hc2, n2, hd2⟩⟩ := st
    refine ⟨⟨o, iterData kd hI ⟨_, Heap.get?_push_size _ rfl⟩ ho hc hd, hc, hd⟩, ⟨o2, kd a o2 _ ha (Heap.get?_push_of_some _ l) ho2 (.inl (.inl ⟨_, _, hd2⟩)), hc2, n2, hd2⟩⟩
  · intro i h1 st
    obtain ⟨⟨o, ho, hc, hd⟩, _⟩ := st
    exact ⟨o, _, _, ho, hc, hd, by simp, by intro q t; simp, by decide⟩

theorem it_list {iter : Expr} {ds : List D} (h : EvT C k sc σ iter (.list ds)) : ItT C k sc σ iter ds := by
  intro ok env A s Q E hal hsc hA f g q
  refine h.use ok env A s _ E hal hsc hA f g fun v h₁ t₁ n₁ x₁ r₁ => ?_
  obtain ⟨a, vs, n, rfl, ha, l, rl⟩ := r₁.asList
  refine wpAny_pyIter_list (Rep.isList l) ?_
  exact q _ _ _ t₁ (x₁.trans (.push _ _)) (x₁.fresh (fresh_push _)) (itw_list (hal.new x₁) ha hA.hd l rl)

theorem itw_range {A : Around} {h : Heap} (hI : ok h.objs.size) (hh : A.handled = none) (a : Int) (n : Nat) :
    ItW C ok A h.objs.size (dInts (upFrom a n)) (fun i h' => IsRangeIter h' h.objs.size (a + (i : Nat) * 1) ((n : Int) - (i : Nat)) 1) (h.push { cls := .type "range_iterator", data := .fields #[rawInt a, rawInt n, rawInt 1] }) := by
  have W := Walks.range (prog := C.prog) (w := C.w) (A := A) hh h.objs.size a 1 n
  refine ⟨by simpa using Heap.get?_push_size h (o := { cls := .type "range_iterator", data := .fields #[rawInt a, rawInt n, rawInt 1] }) rfl, ?_, ?_, fun i s Q E st q => W.self i s Q E st q, ?_, ?_⟩
  · intro ok' i d s Q E hok hd kr st q
    have hi : i < n := by have := (List.getElem?_eq_some_iff.mp hd).1; simpa [upFrom_length] using this
    refine W.item i s Q E hi st fun v h' tk hP st' keep => ?_
    obtain ⟨t, rfl⟩ := hP
    have hd' : d = .int (a + i * 1) := by
      have : (dInts (upFrom a n))[i]? = some (.int (a + i * 1)) := by rw [List.getElem?_map, upFrom_get hi]; simp
      rw [this] at hd; exact (Option.some.inj hd).symm
    subst hd'
    exact q _ h' tk (.int _ _) st' fun b o hb eb => keep b o (by simpa using hb) eb
  · intro s Q E st q
    have hl : (dInts (upFrom a n)).length = n := by simp [upFrom_length]
    rw [hl] at st
    exact W.done s Q E st fun h' tk keep => q h' tk fun b o hb eb => keep b o (by simpa using hb) eb
  · intro i h1 h2 st kd
    exact iterData kd hI ⟨_, Heap.get?_push_size _ rfl⟩ st rfl rfl
  · intro i h1 st
    exact ⟨_, _, _, st, rfl, rfl, by simp, by intro q t; simp [rawInt], by decide⟩

theorem it_range1 {x : Str} {p pos : Pos} {e : Expr} {n : Int} (hxr : x = "range") (hx : sc.names.lookup x = some .globalImplicit)
    (hmg : nsIn C.K mainGlobals x = some none) (hmb : bootBuiltins x = some (.type "range")) (ha : EvT C k sc σ e (.int n)) (h0 : 0 ≤ n) (h1 : n < 2 ^ 62)
    (hs : ∀ env : Env, starEach [e] env = [(false, eval e env)]) :
    ItT C k sc σ (.Call (.Name x p) [e] [] pos) (dInts (upFrom 0 n.toNat)) := by
  intro ok env A s Q E hal hsc hA f g q
  refine wpAny_Call_NameR (name_global hsc f g hx (by subst hxr; decide) (.inr ⟨mg_none g.frag g.g hmg, (g.bb x (by subst hxr; decide)).trans hmb⟩) ?_)
  refine PySem.callWith_type (by rw [hs]; rfl) ?_
  have hev : EvsT C k sc σ [e] [.int n] := evs_cons ha evs_nil (fun env => by rw [hs]; rfl)
  refine args_plain hal hsc hA f g hev (fun env => by rw [hs]; rfl) fun vs h₁ t₁ n₁ x₁ r₁ => ?_
  obtain ⟨v, rfl, r⟩ := r₁.one
  obtain ⟨t, rfl⟩ := r.asInt
  refine call_range_1 ?_
  refine wpAny_pyIter_range (IsRange.new ..) (small_one (by decide) (by decide) (by omega) h1) ?_
  have hsz : Builtin.Range.rangeSize 0 n 1 = (n.toNat : Int) := by rw [rangeSize_one]; split <;> omega
  rw [hsz]
  refine q _ _ _ _ ((x₁.trans (.push _ _)).trans (.push _ _)) ((x₁.trans (.push _ _)).fresh (fresh_push _)) (itw_range (hal.new (x₁.trans (.push _ _))) hA.hd 0 n.toNat)
theorem it_range2 {x : Str} {p pos : Pos} {e e2 : Expr} {a b : Int} (hxr : x = "range") (hx : sc.names.lookup x = some .globalImplicit)
    (hmg : nsIn C.K mainGlobals x = some none) (hmb : bootBuiltins x = some (.type "range")) (ha : EvT C k sc σ e (.int a)) (hb : EvT C k sc σ e2 (.int b)) (h0 : -(2 ^ 62) ≤ a) (h1 : a < 2 ^ 62) (h2 : -(2 ^ 62) ≤ b) (h3 : b < 2 ^ 62)
    (hs : ∀ env : Env, starEach [e, e2] env = [(false, eval e env), (false, eval e2 env)]) :
    ItT C k sc σ (.Call (.Name x p) [e, e2] [] pos) (dInts (upFrom a (b - a).toNat)) := by
  intro ok env A s Q E hal hsc hA f g q
  refine wpAny_Call_NameR (name_global hsc f g hx (by subst hxr; decide) (.inr ⟨mg_none g.frag g.g hmg, (g.bb x (by subst hxr; decide)).trans hmb⟩) ?_)
  refine PySem.callWith_type (by rw [hs]; rfl) ?_
  have hs2 : ∀ env : Env, starEach [e2] env = [(false, eval e2 env)] := fun env => by
    have := hs env
    cases e <;> first | (simp only [starEach] at this ⊢; injection this) | (cases this)
  have hev : EvsT C k sc σ [e, e2] [.int a, .int b] := evs_cons ha (evs_cons hb evs_nil (fun env => by rw [hs2]; rfl)) (fun env => by rw [hs, hs2])
  refine args_plain hal hsc hA f g hev (fun env => by rw [hs, hs2]) fun vs h₁ t₁ n₁ x₁ r₁ => ?_
  obtain ⟨v, w, rfl, r, r'⟩ := r₁.two
  obtain ⟨t, rfl⟩ := r.asInt
  obtain ⟨u, rfl⟩ := r'.asInt
  refine call_range_2 ?_
  refine wpAny_pyIter_range (IsRange.new ..) (small_one h0 h1 h2 h3) ?_
  have hsz : Builtin.Range.rangeSize a b 1 = ((b - a).toNat : Int) := by rw [rangeSize_one]; split <;> omega
  rw [hsz]
  refine q _ _ _ _ ((x₁.trans (.push _ _)).trans (.push _ _)) ((x₁.trans (.push _ _)).fresh (fresh_push _)) (itw_range (hal.new (x₁.trans (.push _ _))) hA.hd a (b - a).toNat)

theorem itw_rev {A : Around} {h : Heap} {ds : List D} {a : Addr} {vs : Array Value} {n : Nat} (hI : ok h.objs.size) (ha : ok a) (hh : A.handled = none) (l : h.get? a = some { cls := .type "list", data := .seq vs n }) (r : RepL C ok h ds vs.toList) :
    ItW C ok A h.objs.size ds.reverse (fun i h' => i ≤ vs.size ∧ h'.IsRevIter h.objs.size a ((vs.size : Int) - 1 - (i : Int)) ∧ h'.IsList a vs) (h.push (revObj a ((vs.size : Int) - 1))) := by
  have hne : a ≠ h.objs.size := new_ne l
  have e := r.length
  rw [Array.length_toList] at e
  have W := Walks.listRev (prog := C.prog) (w := C.w) (A := A) hh h.objs.size a hne vs
  refine ⟨⟨Nat.zero_le _, ⟨_, Heap.get?_push_size _ rfl, rfl, by simp [revObj]⟩, Rep.isList (Heap.get?_push_of_some _ l)⟩, ?_, ?_, fun i s Q E st q => W.self i s Q E st q, ?_, ?_⟩
  · intro ok' i d s Q E hok hd kr st q
    have hi : i < vs.size := by rw [e]; have := (List.getElem?_eq_some_iff.mp hd).1; simpa using this
    refine W.item i s Q E hi st fun v h' tk hP st' keep => ?_
    have hd2 : ds[vs.size - 1 - i]? = some d := by
      rw [List.getElem?_reverse (by rw [← e]; exact hi)] at hd
      rw [e]; exact hd
    obtain ⟨v', hv', hr'⟩ := (r.ext (Ext.push h (revObj a ((vs.size : Int) - 1)))).get hd2
    rw [Array.getElem?_toList] at hv'
    have : v' = v := Option.some.inj (hv'.symm.trans hP)
    subst this
    refine q v' h' tk (((hr'.restrict hok).mono kr).mono ?_) st' fun b o hb eb => keep b o (by simpa using hb) eb
    exact kr_iter (I := h.objs.size) (by obtain ⟨o, ho, hc, hd'⟩ := st.2.1; exact ⟨o, _, _, ho, hc, hd', by simp, by intro q t; simp [rawInt], by decide⟩) fun b o hb eb => keep b o (by simpa using hb) eb
  · intro s Q E st q
    rw [List.length_reverse, ← e] at st
    exact W.done s Q E st fun h' tk keep => q h' tk fun b o hb eb => keep b o (by simpa using hb) eb
  · intro i h1 h2 st kd
    obtain ⟨hi, ⟨o, ho, hc, hd⟩, ⟨o2, ho2, hc2, n2, hd2⟩⟩ := st
    refine ⟨hi, ⟨o, iterData kd hI ⟨_, Heap.get?_push_size _ rfl⟩ ho hc hd, hc, hd⟩, ⟨o2, kd a o2 _ ha (Heap.get?_push_of_some _ l) ho2 (.inl (.inl ⟨_, _, hd2⟩)), hc2, n2, hd2⟩⟩
  · intro i h1 st
    obtain ⟨_, ⟨o, ho, hc, hd⟩, _⟩ := st
    exact ⟨o, _, _, ho, hc, hd, by simp, by intro q t; simp [rawInt], by decide⟩
theorem it_rev {x : Str} {p pos : Pos} {e : Expr} {ds : List D} (hxr : x = "reversed") (hx : sc.names.lookup x = some .globalImplicit)
    (hmg : nsIn C.K mainGlobals x = some none) (hmb : bootBuiltins x = some (.type "reversed")) (ha : EvT C k sc σ e (.list ds))
    (hs : ∀ env : Env, starEach [e] env = [(false, eval e env)]) : ItT C k sc σ (.Call (.Name x p) [e] [] pos) ds.reverse := by
  intro ok env A s Q E hal hsc hA f g q
  refine wpAny_Call_NameR (name_global hsc f g hx (by subst hxr; decide) (.inr ⟨mg_none g.frag g.g hmg, (g.bb x (by subst hxr; decide)).trans hmb⟩) ?_)
  refine PySem.callWith_type (by rw [hs]; rfl) ?_
  have hev : EvsT C k sc σ [e] [.list ds] := evs_cons ha evs_nil (fun env => by rw [hs]; rfl)
  refine args_plain hal hsc hA f g hev (fun env => by rw [hs]; rfl) fun vs h₁ t₁ n₁ x₁ r₁ => ?_
  obtain ⟨v, rfl, r⟩ := r₁.one
  obtain ⟨a, vs, n, rfl, ha, l, rl⟩ := r.asList
  refine call_reversed_list (Rep.isList l) ?_
  have W := itw_rev (C := C) (ok := ok) (hal.new x₁) ha hA.hd l rl
  refine W.self 0 _ _ _ W.st ?_
  exact q _ _ _ _ (x₁.trans (.push _ _)) (x₁.fresh (fresh_push _)) W

theorem itw_str {A : Around} {h : Heap} (hI : ok h.objs.size) (hh : A.handled = none) (x : Str) (t : Tok) (St : Nat → Heap → Prop) (o : Obj) (W : Walks C.prog C.w A h.objs.size [h.objs.size] [h.objs.size] x.cps.size (SignAt x) St) (st : St 0 (h.push o))
    (ho : ∀ i h', St i h' → ∃ n, h'.IsStrIter h.objs.size n x t i ∧ ownedIter n = false) :
    ItW C ok A h.objs.size (x.cps.toList.map fun c => D.str ⟨#[c]⟩) St (h.push o) := by
  refine ⟨st, ?_, ?_, fun i s Q E st q => W.self i s Q E st q, ?_, ?_⟩
  · intro ok' i d s Q E hok hd kr st q
    have hi : i < x.cps.size := by have := (List.getElem?_eq_some_iff.mp hd).1; simpa using this
    refine W.item i s Q E hi st fun v h' tk hP st' keep => ?_
    obtain ⟨c, u, hc, rfl⟩ := hP
    have hd' : d = .str ⟨#[c]⟩ := by
      rw [List.getElem?_map, Array.getElem?_toList, hc] at hd
      exact (Option.some.inj hd).symm
    subst hd'
    exact q _ h' tk (.str _ _) st' fun b o hb eb => keep b o (by simpa using hb) eb
  · intro s Q E st q
    have hl : (x.cps.toList.map fun c => D.str ⟨#[c]⟩).length = x.cps.size := by simp
    rw [hl] at st
    exact W.done s Q E st fun h' tk keep => q h' tk fun b o hb eb => keep b o (by simpa using hb) eb
  · intro i h1 h2 st' kd
    refine W.frame i h1 h2 st' fun b hb o' e => ?_
    obtain ⟨n, ⟨o1, ho1, hc, hd⟩, _⟩ := ho i h1 st'
    have hb' : b = h.objs.size := by simpa using hb
    subst hb'
    rw [ho1] at e; cases e
    obtain ⟨n0, ⟨o0, ho0, _⟩, _⟩ := ho 0 _ st
    exact iterData kd hI ⟨_, ho0⟩ ho1 hc hd
  · intro i h1 st'
    obtain ⟨n, ⟨o1, ho1, hc, hd⟩, hn⟩ := ho i h1 st'
    exact ⟨o1, n, _, ho1, hc, hd, by simp, by intro q t; simp, hn⟩
theorem it_str {iter : Expr} {x : Str} (h : EvT C k sc σ iter (.str x)) (hx : x.cps.all (· < 128) = true) : ItT C k sc σ iter (x.cps.toList.map fun c => D.str ⟨#[c]⟩) := by
  intro ok env A s Q E hal hsc hA f g q
  refine h.use ok env A s _ E hal hsc hA f g fun v h₁ t₁ n₁ x₁ r₁ => ?_
  obtain ⟨t, rfl⟩ := r₁.asStr
  refine wpAny_pyIter_ascii hx ?_
  refine q _ _ _ t₁ (x₁.trans (.push _ _)) (x₁.fresh (fresh_push _)) (itw_str (hal.new x₁) hA.hd x t _ _ (Walks.strAscii hA.hd _ x t) ⟨_, Heap.get?_push_size _ rfl, rfl, rfl⟩ fun i h' st => ⟨_, st, by decide⟩)
end
end Mine
namespace Mine
variable {C : Cx} {ok : Addr → Prop}

theorem ns_uniq {h : Heap} {L : Addr} {m m' : Str → Option Value} (a : h.Ns L m) (b : h.Ns L m') (x : Str) : m x = m' x := by
  obtain ⟨o, es, ep, ho, hd, hk, hf⟩ := a
  obtain ⟨o', es', ep', ho', hd', hk', hf'⟩ := b
  rw [ho] at ho'; cases ho'
  rw [hd] at hd'; cases hd'
  rw [← hf, ← hf']

structure OwnAt (C : Cx) (ok : Addr → Prop) (env : Env) (h : Heap) (a : Addr) (vs : Array Value) (n : Nat) (ds : List D) : Prop where
  no : ¬ ok a
  lo : env.locals < a
  obj : h.get? a = some { cls := .type "list", data := .seq vs n }
  rep : RepL C ok h ds vs.toList
theorem OwnAt.ext {env : Env} {h h' : Heap} {a : Addr} {vs : Array Value} {n : Nat} {ds : List D} (x : OwnAt C ok env h a vs n ds) (y : Ext C h h') : OwnAt C ok env h' a vs n ds :=
  ⟨x.no, x.lo, y.keep_cls x.obj (by simp), x.rep.ext y⟩

/-- of a store: only x may hold a list that changes -/
def onlyMut (x : Str) (σ : Store) : Bool := σ.all fun p => p.1 == x || !p.2.isMut
theorem onlyMut_spec {x : Str} {σ : Store} (h : onlyMut x σ = true) {y : Str} {d : D} (e : σ.lookup y = some d) (hy : y ≠ x) : d.isMut = false := by
  have := List.all_eq_true.mp h (y, d) (mem_of_lookup e)
  simp [hy] at this
  exact this

theorem FS.own {env : Env} {σ : Store} {h : Heap} {x : Str} {a : Addr} {ds : List D} (f : FS C ok env σ h) (hx : σ.lookup x = some (.mut a ds)) : ∃ vs n, OwnAt C ok env h a vs n ds := by
  have key : ∀ v, RepM C ok env.locals h (.mut a ds) v → ∃ vs n, OwnAt C ok env h a vs n ds := by
    intro v r
    rcases r with r | ⟨a', vs, n, xs, e1, e2, ⟨e3, e4⟩, e5, e6⟩
    · exact absurd r.notMut (by simp [D.isMut])
    · cases e1
      exact ⟨vs, n, e3, e4, e5, e6⟩
  by_cases hl : env.kindOf x = some .local
  · obtain ⟨m, hn, hm⟩ := f.ns
    obtain ⟨v, hv, hr⟩ := hm x _ hx hl
    exact key v hr
  · obtain ⟨_, c, v, _, _, hr⟩ := f.cell x _ hx hl
    exact key v hr
theorem RepM.asOwn {lo : Addr} {h : Heap} {a : Addr} {ds : List D} {v : Value} (r : RepM C ok lo h (.mut a ds) v) : v = .ref a := by
  rcases r with r | ⟨a', vs, n, xs, e1, e2, e3, e5, e6⟩
  · exact absurd r.notMut (by simp [D.isMut])
  · cases e1; exact e2
/-- the own list's name is read -/
theorem name_own {env : Env} {σ : Store} {A : Around} {s : Shared} {Q E : Value → Shared → Prop} {x : Str} {p : Pos} {a : Addr} {ds : List D} (f : FS C ok env σ s.heap) (hx : σ.lookup x = some (.mut a ds)) (hd : (x == ("__debug__" : Str)) = false) (hc : (x == ("__classdict__" : Str)) = false)
    (q : Q (.ref a) s) : wpAny C.M A (eval (.Name x p) env) Q E s := by
  refine wpAny_Name ?_ hd
  by_cases hl : env.kindOf x = some .local
  · obtain ⟨m, hn, hm⟩ := f.ns
    obtain ⟨v, hv, hr⟩ := hm x _ hx hl
    cases hr.asOwn
    exact wpAny_loadName_local f.fn hl hn hv q
  · obtain ⟨hk, c, v, hc', hv, hr⟩ := f.cell x _ hx hl
    cases hr.asOwn
    rcases hk with hk | hk
    · exact wpAny_loadName_cell f.fn hk hc' hv q
    · exact wpAny_loadName_free f.fn hk hc' hv q hc

/-- the own list gets new contents -/
theorem FS.put {env : Env} {σ : Store} {h h' : Heap} {x : Str} {a : Addr} {ds ds' : List D} {vs vs' : Array Value} {n n' : Nat} (f : FS C ok env σ h) (hx : σ.lookup x = some (.mut a ds)) (hu : onlyMut x σ = true)
    (o : OwnAt C ok env h a vs n ds) (sb : Heap.SameBut a h h') (l : h'.get? a = some { cls := .type "list", data := .seq vs' n' }) (r : RepL C ok h ds' vs'.toList) : FS C ok env ((x, .mut a ds') :: σ) h' := by
  have kp : ∀ b ob, ok b → h.get? b = some ob → h'.get? b = some ob := fun b ob hb e => (sb.2 b (fun z => by subst z; exact o.no hb)).trans e
  have nen : ∀ L' m', h.Ns L' m' → L' ≠ a := by
    rintro L' m' ⟨ob, es, ep, e, hd, _⟩ rfl
    rw [o.obj] at e; cases e; cases hd
  have nec : ∀ c v, h.IsCell c v → c ≠ a := by
    rintro c v ⟨ob, e, hd⟩ rfl
    rw [o.obj] at e; cases e; cases hd
  have new : ∀ v, RepM C ok env.locals h (.mut a ds) v → RepM C ok env.locals h' (.mut a ds') v := fun v hr => by
    cases hr.asOwn
    exact .inr ⟨a, vs', n', ds', rfl, rfl, ⟨o.no, o.lo⟩, l, r.but kp⟩
  have old : ∀ y d v, σ.lookup y = some d → y ≠ x → RepM C ok env.locals h d v → RepM C ok env.locals h' d v := fun y d v e hy hr => .inl ((hr.rep (onlyMut_spec hu e hy)).but kp)
  refine ⟨f.fn, f.gl, f.bl, ?_, fun y d e kk => ?_, fun y kk => ?_, f.apart⟩
  · obtain ⟨m, hn, hm⟩ := f.ns
    refine ⟨m, hn.sameBut sb (nen _ _ hn), fun y d e kk => ?_⟩
    by_cases hy : y = x
    · subst hy
      rw [lookup_cons_eq] at e; cases e
      obtain ⟨v, h1, h2⟩ := hm _ _ hx kk
      exact ⟨v, h1, new v h2⟩
    · rw [lookup_cons_ne hy] at e
      obtain ⟨v, h1, h2⟩ := hm _ _ e kk
      exact ⟨v, h1, old y d v e hy h2⟩
  · by_cases hy : y = x
    · subst hy
      rw [lookup_cons_eq] at e; cases e
      obtain ⟨h0, c, v, h1, h2, h3⟩ := f.cell _ _ hx kk
      exact ⟨h0, c, v, h1, h2.sameBut sb (nec _ _ h2), new v h3⟩
    · rw [lookup_cons_ne hy] at e
      obtain ⟨h0, c, v, h1, h2, h3⟩ := f.cell _ _ e kk
      exact ⟨h0, c, v, h1, h2.sameBut sb (nec _ _ h2), old y d v e hy h3⟩
  · obtain ⟨c, v, h1, h2⟩ := f.cells y kk
    exact ⟨c, v, h1, h2.sameBut sb (nec _ _ h2)⟩
theorem kd_own {L : Addr} {h h' : Heap} {a : Addr} {o' : Obj} (no : ¬ ok a) (sb : Heap.SameBut a h h') (l : h'.get? a = some o') : KD L ok h h' :=
  ⟨fun b ob hb e _ => (sb.2 b (fun z => by subst z; exact no hb)).trans e, dom_but sb l⟩

/-- the own list is put under its name -/
theorem store_own {σ : Store} {env : Env} {A : Around} {s : Shared} {Q : Unit → Shared → Prop} {E : Value → Shared → Prop} {h₀ : Heap} {x : Str} {a : Addr} {vs : Array Value} {n : Nat} {ds : List D}
    (hx : env.kindOf x = some .local ∨ env.kindOf x = some .cell) (hf : Fresh (fun _ => True) env h₀) (e : Ext C h₀ s.heap) (f : FS C ok env σ s.heap) (o : OwnAt C ok env s.heap a vs n ds)
    (q : ∀ h' tk, Ext C h₀ h' → KD env.locals every s.heap h' → FS C ok env ((x, .mut a ds) :: σ) h' → Q () { s with heap := h', toks := tk }) : wpAny C.M A (storeName env x (.ref a)) Q E s := by
  refine store_name (C := C) (ok := ok) (σ := σ) (d := .val (.ref a)) (N := fun _ => True) hx trivial hf e f (.val _) fun h' tk e' k' f' _ _ => q h' tk e' k' ?_
  have new : ∀ v, RepM C ok env.locals h' (.val (.ref a)) v → RepM C ok env.locals h' (.mut a ds) v := fun v r => by
    have := r.rep rfl
    cases this
    exact .inr ⟨a, vs, n, ds, rfl, rfl, ⟨o.no, o.lo⟩, k'.k _ _ trivial o.obj (.inl (.inl ⟨_, _, rfl⟩)), o.rep.mono k'.kr.some⟩
  refine ⟨f'.fn, f'.gl, f'.bl, ?_, fun y d ey kk => ?_, f'.cells, f'.apart⟩
  · obtain ⟨m, hm, hv⟩ := f'.ns
    refine ⟨m, hm, fun y d ey kk => ?_⟩
    by_cases hy : y = x
    · subst hy
      rw [lookup_cons_eq] at ey; cases ey
      obtain ⟨v, h1, h2⟩ := hv _ _ lookup_cons_eq kk
      exact ⟨v, h1, new v h2⟩
    · rw [lookup_cons_ne hy] at ey
      exact hv y d (by rw [lookup_cons_ne hy]; exact ey) kk
  · by_cases hy : y = x
    · subst hy
      rw [lookup_cons_eq] at ey; cases ey
      obtain ⟨h0, c, v, h1, h2, h3⟩ := f'.cell _ _ lookup_cons_eq kk
      exact ⟨h0, c, v, h1, h2, new v h3⟩
    · rw [lookup_cons_ne hy] at ey
      exact f'.cell y d (by rw [lookup_cons_ne hy]; exact ey) kk
section
variable {k : Nat} {sc : Scope} {σ : Store}

theorem exs_append {x : Str} {p apos pos spos : Pos} {e : Expr} {a : Addr} {ds : List D} {d : D} (hx : σ.lookup x = some (.mut a ds)) (hu : onlyMut x σ = true) (he : EvT C k sc σ e d) (hlen : ds.length ≤ 1000)
    (hd : (x == ("__debug__" : Str)) = false) (hc : (x == ("__classdict__" : Str)) = false)
    (hbase : ∀ env : Env, attributeBase (.Name x p) "append" env (eval (.Name x p) env) = eval (.Name x p) env)
    (hline : (apos.endLine == pos.line) = true) (hs : ∀ env : Env, starEach [e] env = [(false, eval e env)])
    (hi : ∀ env : Env, env.scope = sc → interactive env = false) (hw : ∀ env : Env, env.scope = sc → swapsWith (.Call (.Attribute (.Name x p) "append" apos) [e] [] pos) none spos.line env = pure false) :
    ExS C k sc σ (.Expr (.Call (.Attribute (.Name x p) "append" apos) [e] [] pos) spos) (.next ((x, .mut a (ds ++ [d])) :: σ)) := by
  intro ok env A s Q E h₀ hal hn hsc hA hf g ex f q
  refine wpAny_Expr_any ?_ (hi env hsc) (hw env hsc)
  obtain ⟨vs, n, o⟩ := f.own hx
  refine wpAny_Call_method (hbase env) (by rw [hs]; rfl) hline (T := "list") (id := "list.append") F.plainAttrs_list F.slot_list_append F.type_list_append
    (name_own f hx hd hc ⟨⟨_, o.obj, rfl⟩, ?_, ?_⟩)
  · rintro b hb; cases hb; exact ⟨_, o.obj, rfl⟩
  · refine Calls.callWith_builtin (by rw [hs]; rfl) (args_plain ⟨hal, hn⟩ hsc hA f (g.ext ex) (evs_cons he evs_nil hs) (fun env => by rw [hs]; rfl) fun us h₁ t₁ n₁ x₁ r₁ => ?_)
    obtain ⟨v, rfl, rv⟩ := r₁.one
    have o₁ := o.ext x₁
    have hsz : vs.size ≤ sizeLine := by
      have := o.rep.length
      rw [Array.length_toList] at this
      rw [this]; exact Nat.le_trans hlen (by decide)
    refine wpAny_list_append_plain (s := { s with heap := h₁, toks := t₁ }) (hsz := hsz) ⟨n, o₁.obj⟩ fun h₂ pl sb => ?_
    · obtain ⟨n₂, l₂⟩ := pl
      refine q .next h₂ t₁ ((ex.trans x₁).store (hf.abv _ o.lo) o₁.obj (by simp) sb) (x₁.kd.trans (kd_own o.no sb l₂)) ⟨rfl, (f.ext x₁).put hx hu o₁ sb l₂ ?_⟩
      rw [Array.toList_push]
      exact o₁.rep.append (.cons rv .nil)

theorem mapSeq_set_plain (its : Array Value) (n j : Nat) (x : Value) : ∃ n', Obj.mapSeq (·.setIfInBounds j x) { cls := .type "list", data := .seq its n } = { cls := .type "list", data := .seq (its.setIfInBounds j x) n' } := by
  simp [Obj.mapSeq]

theorem exs_reverse {x : Str} {p apos pos spos : Pos} {a : Addr} {ds : List D} (hx : σ.lookup x = some (.mut a ds)) (hu : onlyMut x σ = true) (hlen : ds.length ≤ 1000)
    (hd : (x == ("__debug__" : Str)) = false) (hc : (x == ("__classdict__" : Str)) = false)
    (hbase : ∀ env : Env, attributeBase (.Name x p) "reverse" env (eval (.Name x p) env) = eval (.Name x p) env)
    (hline : (apos.endLine == pos.line) = true)
    (hi : ∀ env : Env, env.scope = sc → interactive env = false) (hw : ∀ env : Env, env.scope = sc → swapsWith (.Call (.Attribute (.Name x p) "reverse" apos) [] [] pos) none spos.line env = pure false) :
    ExS C k sc σ (.Expr (.Call (.Attribute (.Name x p) "reverse" apos) [] [] pos) spos) (.next ((x, .mut a ds.reverse) :: σ)) := by
  intro ok env A s Q E h₀ hal hn hsc hA hf g ex f q
  refine wpAny_Expr_any ?_ (hi env hsc) (hw env hsc)
  obtain ⟨vs, n, o⟩ := f.own hx
  refine wpAny_Call_method (hbase env) rfl hline (T := "list") (id := "list.reverse") F.plainAttrs_list F.slot_list_reverse F.type_list_reverse
    (name_own f hx hd hc ⟨⟨_, o.obj, rfl⟩, ?_, ?_⟩)
  · rintro b hb; cases hb; exact ⟨_, o.obj, rfl⟩
  · refine Calls.callWith_builtin rfl (PySem.evalArgs_none ?_)
    have hsz : vs.size ≤ sizeLine := by
      have := o.rep.length
      rw [Array.length_toList] at this
      rw [this]; exact Nat.le_trans hlen (by decide)
    refine call_meets PySem.F.slot_list_reverse ⟨_, o.obj, rfl⟩ PySem.F.entry_list_reverse (PySem.F.args_list_reverse_1 _) (AutoSeq1.list_reverse_list_0 a vs n hsz) ⟨o.obj, ?_⟩
    have l₂ : (s.heap.update a (Obj.mapSeq fun x => x.reverse)).get? a = some { cls := .type "list", data := .seq vs.toList.reverse.toArray n } := by
      rw [Heap.get?_update_self _ o.obj (by rw [mapSeq_reverse]; rfl), mapSeq_reverse]
    have sb : Heap.SameBut a s.heap (s.heap.update a (Obj.mapSeq fun x => x.reverse)) := Heap.SameBut.update ..
    refine q .next _ s.toks (ex.store (hf.abv _ o.lo) o.obj (by simp) sb) (kd_own o.no sb l₂) ⟨rfl, f.put hx hu o sb l₂ ?_⟩
    exact o.rep.reverse

theorem setItem_plain {A : Around} {E : Value → Shared → Prop} {s : Shared} {l : Addr} {items : Array Value} {n : Nat} {k : Int} {t : Tok} {v : Value} {Q : Unit → Shared → Prop} (ho : s.heap.get? l = some { cls := .type "list", data := .seq items n })
    (h0 : 0 ≤ k) (hfit : k < 2 ^ 63) (hn : k < items.size)
    (hQ : ∀ h' n', h'.get? l = some { cls := .type "list", data := .seq (items.setIfInBounds k.toNat v) n' } → Heap.SameBut l s.heap h' → Q () { s with heap := h' }) :
    wpAny C.M A (setItem (.ref l) (.int k t) v) Q E s := by
  have hl : s.heap.IsList l items := ⟨_, ho, rfl, n, rfl⟩
  refine wpAny_mono (Q := fun _ s' => ∃ f, s' = { s with heap := s.heap.update l (Obj.mapSeq f) } ∧ f = fun x => x.setIfInBounds k.toNat v) ?_ ?_ fun _ _ h => h
  · unfold setItem
    try with_reducible refine wpAny_holding ?_
    first | refine wpAny_bind (wpAny_pure ?_) | skip
    refine wpAny_bind (wpAny_sequenceKey hl.typeIs (by decide) ?_)
    refine wpAny_bind (wpAny_callSpecial?_slot (name := Str.ofString "__setitem__") hl.typeIs slot_list_setitem
      (wpAny_call_entry slot_list_setitem hl.typeIs entry_list_setitem ?_ (args_list_setitem _ _ _)))
    show wpAny _ _ (Builtin.List.listSubscript? (.int k t) >>= _) _ _ s
    refine wpAny_bind (wpAny_listSubscript_int (fitsIndex_of h0 hfit) ?_)
    clear hfit
    obtain ⟨j, rfl⟩ := Int.eq_ofNat_of_zero_le h0
    have hj : j < items.size := by omega
    have hx' : items[j]? = some items[j] := Array.getElem?_eq_getElem hj
    show wpAny _ _ ((seqItemAt l j >>= fun r => pure (r.map (j, ·))) >>= _) _ _ s
    refine wpAny_bind (wpAny_bind (wpAny_seqItemAt ho rfl (wpAny_pure ?_)))
    rw [hx']
    show wpAny _ _ (setSeqItemAt l j v >>= _) _ _ s
    refine wpAny_bind (wpAny_setSeqItemAt ho rfl ?_)
    first
      | exact wpAny_bind (wpAny_pure (wpAny_pure ⟨.none, rfl, wpAny_pure ⟨_, rfl, rfl⟩⟩))
      | exact wpAny_pure ⟨.none, rfl, wpAny_pure ⟨_, rfl, rfl⟩⟩
  · rintro _ s' ⟨f, rfl, rfl⟩
    obtain ⟨n', hn'⟩ := mapSeq_set_plain items n k.toNat v
    refine hQ _ n' ?_ (Heap.SameBut.update ..)
    rw [Heap.get?_update_self _ ho (by rw [hn']; rfl), hn']

theorem RepL.set {h : Heap} : ∀ {ds : List D} {vs : List Value} (i : Nat) {d : D} {v : Value}, RepL C ok h ds vs → Rep C ok h d v → RepL C ok h (ds.set i d) (vs.set i v)
  | _, _, _, _, _, .nil, _ => .nil
  | _, _, 0, _, _, .cons _ rs, r => .cons r rs
  | _, _, i + 1, _, _, .cons r' rs, r => .cons r' (RepL.set i rs r)

/-- x[i] = e, x the own list -/
theorem exs_setitem {x : Str} {p p2 pos : Pos} {ie e : Expr} {a : Addr} {ds : List D} {d : D} {i : Int} (hx : σ.lookup x = some (.mut a ds)) (hu : onlyMut x σ = true) (he : EvT C k sc σ e d) (hi : EvT C k sc σ ie (.int i)) (h0 : 0 ≤ i) (h1 : i < ds.length) (h2 : i < 2 ^ 63)
    (hd : (x == ("__debug__" : Str)) = false) (hc : (x == ("__classdict__" : Str)) = false)
    (hs : ∀ env : Env, env.scope = sc → swapsWith e (some (.Subscript (.Name x p) ie p2)) pos.line env = pure false) :
    ExS C k sc σ (.Assign [.Subscript (.Name x p) ie p2] e pos) (.next ((x, .mut a (ds.set i.toNat d)) :: σ)) := by
  intro ok env A s Q E h₀ hal hn hsc hA hf g ex f q
  refine wpAny_Assign_Subscript ?_ (hs env hsc)
  refine he.use ok env A s _ E ⟨hal, hn⟩ hsc hA f (g.ext ex) fun v h₁ t₁ n₁ x₁ r₁ => ?_
  have f₁ := f.ext x₁
  refine name_own (s := { s with heap := h₁, toks := t₁ }) f₁ hx hd hc ?_
  refine hi.use ok env A _ _ E ⟨hal.ext x₁, n₁⟩ hsc hA f₁ (g.ext (ex.trans x₁)) fun vi h₂ t₂ n₂ x₂ r₂ => ?_
  obtain ⟨ti, rfl⟩ := r₂.asInt
  have f₂ := f₁.ext x₂
  obtain ⟨vs, n, o⟩ := f₂.own hx
  have hl := o.rep.length
  rw [Array.length_toList] at hl
  refine setItem_plain (s := { s with heap := h₂, toks := t₂ }) o.obj h0 h2 (by omega) fun h₃ n₃ l₃ sb => ?_
  have x12 := x₁.trans x₂
  refine q .next h₃ t₂ ((ex.trans x12).store (hf.abv _ o.lo) o.obj (by simp) sb) (x12.kd.trans (kd_own o.no sb l₃)) ⟨rfl, f₂.put hx hu o sb l₃ ?_⟩
  rw [Array.toList_setIfInBounds]
  exact o.rep.set _ (r₁.ext x₂)

/-- statements run while x holds a list of its own at a -/
def ExO (C : Cx) (k : Nat) (sc : Scope) (a : Addr) (σ : Store) (st : List Stmt) (o : Out) : Prop :=
  ∀ (ok : Addr → Prop) (env : Env) (A : Around) (s : Shared) (Q : Flow → Shared → Prop) (E : Value → Shared → Prop) (h₀ : Heap), AlH ok s.heap → 1 ≤ s.toks → env.scope = sc → Room A k → Fresh (fun _ => True) env h₀ → G C h₀ → Ext C h₀ s.heap →
    ok a → (∃ o, s.heap.get? a = some o) → FS C (fun b => ok b ∧ b ≠ a) env σ s.heap →
    (∀ f h' tk, Ext C h₀ h' → KD env.locals (fun b => ok b ∧ b ≠ a) s.heap h' → OutT C ok env h' o f → Q f { s with heap := h', toks := tk }) → wpAny C.M A (execs st env) Q E s

theorem al_but {h : Heap} {a : Addr} (hal : AlH ok h) (ha : ∃ o, h.get? a = some o) : AlH (fun b => ok b ∧ b ≠ a) h := fun b hb => ⟨hal b hb, fun z => by
  subst z; obtain ⟨o, e⟩ := ha; rw [hb] at e; cases e⟩
theorem Dom.has {h h' : Heap} (x : Dom h h') {a : Addr} (ha : ∃ o, h.get? a = some o) : ∃ o, h'.get? a = some o := by
  cases q : h'.get? a with
  | some o => exact ⟨o, rfl⟩
  | none => obtain ⟨o, e⟩ := ha; rw [x a q] at e; cases e
theorem exo_cons {a : Addr} {st : Stmt} {rest : List Stmt} {σ₁ : Store} {o : Out} (h : ExS C k sc σ st (.next σ₁)) (hr : ExO C k sc a σ₁ rest o) : ExO C k sc a σ (st :: rest) o := by
  intro ok env A s Q E h₀ hal hn hsc hA hf g e ha hb f q
  refine wpAny_execs_cons (h.use _ env A s _ E h₀ (al_but hal hb) hn hsc hA hf g e f fun fl h₁ t₁ n₁ e₁ k₁ o₁ => ?_)
  obtain ⟨rfl, f₁⟩ := o₁
  exact wpAny_with_toks (s := { s with heap := h₁, toks := t₁ }) n₁ (hr ok env A _ _ _ h₀ (hal.dom k₁.dom) n₁ hsc hA hf g e₁ ha (k₁.dom.has hb) f₁ fun fl h₂ t₂ e₂ k₂ o₂ _ => q fl h₂ t₂ e₂ (k₁.trans k₂) o₂)
theorem exo_end {x : Str} {a : Addr} {ds : List D} {rest : List Stmt} {o : Out} (hx : σ.lookup x = some (.mut a ds)) (hu : onlyMut x σ = true) (hr : ExT C k sc ((x, .list ds) :: σ) rest o) : ExO C k sc a σ rest o := by
  intro ok env A s Q E h₀ hal hn hsc hA hf g e ha hb f q
  obtain ⟨vs, n, ow⟩ := f.own hx
  have al : ∀ {d v}, Rep C (fun b => ok b ∧ b ≠ a) s.heap d v → Rep C ok s.heap d v := fun r => r.allow fun _ z => z.1
  have new : RepM C ok env.locals s.heap (.list ds) (.ref a) := .inl (.list ha ow.obj (ow.rep.allow fun _ z => z.1))
  have f' : FS C ok env ((x, .list ds) :: σ) s.heap := by
    refine ⟨f.fn, f.gl, f.bl, ?_, fun y d e kk => ?_, f.cells, f.apart⟩
    · obtain ⟨m, hm, hv⟩ := f.ns
      refine ⟨m, hm, fun y d e kk => ?_⟩
      by_cases hy : y = x
      · subst hy
        rw [lookup_cons_eq] at e; cases e
        obtain ⟨v, h1, h2⟩ := hv _ _ hx kk
        cases h2.asOwn
        exact ⟨_, h1, new⟩
      · rw [lookup_cons_ne hy] at e
        obtain ⟨v, h1, h2⟩ := hv _ _ e kk
        exact ⟨v, h1, .inl (al (h2.rep (onlyMut_spec hu e hy)))⟩
    · by_cases hy : y = x
      · subst hy
        rw [lookup_cons_eq] at e; cases e
        obtain ⟨h0, c, v, h1, h2, h3⟩ := f.cell _ _ hx kk
        cases h3.asOwn
        exact ⟨h0, c, _, h1, h2, new⟩
      · rw [lookup_cons_ne hy] at e
        obtain ⟨h0, c, v, h1, h2, h3⟩ := f.cell _ _ e kk
        exact ⟨h0, c, v, h1, h2, .inl (al (h3.rep (onlyMut_spec hu e hy)))⟩
  exact hr ok env A s Q E h₀ hal hn hsc hA hf g e f' fun fl h' tk e' k' o' => q fl h' tk e' (k'.less fun _ z => z.1) o'
theorem FS.narrow {ok' : Addr → Prop} {env : Env} {h : Heap} (f : FS C ok env σ h) (x : ∀ a o, h.get? a = some o → ok a → ok' a) (y : ∀ a, ok' a → ok a) : FS C ok' env σ h where
  fn := f.fn
  gl := f.gl
  bl := f.bl
  ns := let ⟨m, a, b⟩ := f.ns; ⟨m, a, fun n d e k => let ⟨v, e1, e2⟩ := b n d e k; ⟨v, e1, e2.restrict x y⟩⟩
  cell := fun n d e k => let ⟨a, c, v, e1, e2, e3⟩ := f.cell n d e k; ⟨a, c, v, e1, e2, e3.restrict x y⟩
  cells := f.cells
  apart := f.apart
theorem FS.none {env : Env} {h : Heap} {ok' : Addr → Prop} (f : FS C ok env σ h) : FS C ok' env [] h where
  fn := f.fn
  gl := f.gl
  bl := f.bl
  ns := let ⟨m, a, _⟩ := f.ns; ⟨m, a, fun _ _ e _ => by cases e⟩
  cell := fun _ _ e _ => by cases e
  cells := f.cells
  apart := f.apart

/-- an expression that gives a new list -/
def NewT (C : Cx) (k : Nat) (sc : Scope) (σ : Store) (e : Expr) (ds : List D) : Prop :=
  ∀ (ok : Addr → Prop) (env : Env) (A : Around) (s : Shared) (Q E : Value → Shared → Prop), Al ok s → env.scope = sc → Room A k → FS C ok env σ s.heap → G C s.heap →
    (∀ a vs n h' tk, env.locals < a → s.heap.get? a = none → ok a → Ext C s.heap h' → h'.get? a = some { cls := .type "list", data := .seq vs n } → RepL C (fun b => ok b ∧ b ≠ a) h' ds vs.toList →
      Q (.ref a) { s with heap := h', toks := tk }) → wpAny C.M A (eval e env) Q E s

theorem FS.lt {env : Env} {h : Heap} (f : FS C ok env σ h) : env.locals < h.objs.size := by
  obtain ⟨m, ⟨o, es, ep, e, _⟩, _⟩ := f.ns
  exact Heap.lt_size e
theorem RepL.notNew {h : Heap} {ds : List D} {vs : List Value} (r : RepL C ok h ds vs) : RepL C (fun b => ok b ∧ b ≠ h.objs.size) h ds vs :=
  r.restrict fun a o e z => ⟨z, fun q => by have := Heap.lt_size e; rw [q] at this; exact Nat.lt_irrefl _ this⟩
theorem new_list {es : List Expr} {pos : Pos} {ds : List D} (h : EvsT C k sc σ es ds) (hn : ds.length ≤ 1000) : NewT C k sc σ (.List es pos) ds := by
  intro ok env A s Q E hal hsc hA f g q
  refine wpAny_List_spliced (h.use ok env A s _ E pos hal hsc hA f g fun vs h₁ t₁ n₁ x₁ r₁ => ⟨?_, ?_⟩)
  · rw [r₁.length]; exact Nat.le_trans hn (by decide)
  · exact q _ _ _ _ t₁ (f.ext x₁).lt (x₁.fresh (fresh_push _)) (hal.new x₁) (x₁.trans (.push _ _)) (Heap.get?_push_size _ rfl) (by simpa using r₁.notNew.ext (.push _ _))

/-- an operation on two values that gives a new list -/
def Op2N (C : Cx) (f : Value → Value → Sem Value) (a b : D) (ds : List D) : Prop :=
  ∀ (ok : Addr → Prop) (A : Around) (s : Shared) (Q E : Value → Shared → Prop) (va vb : Value), Al ok s → A.handled = none → A.units + 100 < cLine → G C s.heap → Rep C ok s.heap a va → Rep C ok s.heap b vb →
    (∀ vs n tk, RepL C ok s.heap ds vs.toList → Q (.ref s.heap.objs.size) { s with heap := s.heap.push { cls := .type "list", data := .seq vs n }, toks := tk }) → wpAny C.M A (f va vb) Q E s
theorem opn_addlist {xs ys : List D} (hn : xs.length + ys.length ≤ 1000000) : Op2N C (binaryOp .Add) (.list xs) (.list ys) (xs ++ ys) := by
  intro ok A s Q E va vb hal _ _ _ ra rb q
  obtain ⟨a, vs, n, rfl, ha, l, rl⟩ := ra.asList
  obtain ⟨b, ws, n2, rfl, hb, l2, rl2⟩ := rb.asList
  have e1 := rl.length
  have e2 := rl2.length
  rw [Array.length_toList] at e1 e2
  refine concat_meets ⟨_, l, rfl⟩ ⟨_, l2, rfl⟩ noFill_list_add seq_list_add PySem.F.slot_list_add PySem.F.entry_list_add (PySem.F.args_list_add_2 _ _) (list_addW _ _ _ _ _ _ _ _ _ _ (by rw [e1, e2]; exact Nat.le_trans hn (by decide))) ⟨l, l2, ?_⟩
  exact q _ _ s.toks (by rw [Array.toList_append]; exact RepL.append rl rl2)
theorem opn_mullist {xs : List D} {n : Int} (h0 : 0 ≤ n) (hn : xs.length * n.toNat ≤ 1000000) (h1 : n < 2 ^ 40) : Op2N C (binaryOp .Mult) (.list xs) (.int n) (List.replicate n.toNat xs).flatten := by
  intro ok A s Q E va vb hal _ _ _ ra rb q
  obtain ⟨a, vs, nn, rfl, ha, l, rl⟩ := ra.asList
  obtain ⟨u, rfl⟩ := rb.asInt
  have e := rl.length
  rw [Array.length_toList] at e
  have hsz : vs.size * n.toNat ≤ 2 ^ 24 := by rw [e]; exact Nat.le_trans hn (by decide)
  refine wpAny_binaryOp_repeat_ref (T := "list") (U := "int") (by decide) ⟨_, l, rfl⟩ (fun s' => typeIs_int s' n u) noFill_list_mul F.fills_int_mul F.slot_int_rmul repeat_list F.slot_int_index.lookup
    (call_meets F.slot_int_rmul (typeIs_int s n u) F.entry_int_rmul (F.args_int_rmul_2 _ _) (int___rmul___int_list n u a vs nn)
      ⟨l, rfl, ⟨_, l, rfl⟩, call_meets F.slot_list_mul ⟨_, l, rfl⟩ F.entry_list_mul (F.args_list_mul_2 _ _)
        (AutoListH.list___mul___list_int_3 a vs nn n u (by simp [Builtin.List.listFitsIndex]; omega) (by omega) (by simp [Builtin.List.listTooLong, sizeLine]; omega))
        ⟨l, ?_⟩⟩)
  refine q _ _ s.toks ?_
  rw [foldl_rep]
  simp only [List.nil_append]
  by_cases hv : vs.isEmpty = true
  · have h3 : vs.toList = [] := by simpa using hv
    have h4 : xs = [] := by
      have := rl.length; rw [h3] at this; exact List.length_eq_zero_iff.mp this.symm
    rw [if_pos hv, h4]
    simp
    exact .nil
  · rw [if_neg hv]; exact rl.repeat _
theorem new_binop {l r : Expr} {op : Operator} {pos : Pos} {a b : D} {ds : List D} (hl : EvT C k sc σ l a) (hr : EvT C k sc σ r b) (ho : Op2N C (binaryOp op) a b ds) : NewT C k sc σ (.BinOp l op r pos) ds := by
  intro ok env A s Q E hal hsc hA f g q
  refine wpAny_BinOp (hl.use ok env A s _ E hal hsc hA f g fun va h₁ t₁ n₁ x₁ r₁ => hr.use ok env A _ _ E (hal.ext x₁ n₁) hsc hA (f.ext x₁) (g.ext x₁) fun vb h₂ t₂ n₂ x₂ r₂ => ?_)
  have x12 := x₁.trans x₂
  refine ho ok A _ _ E va vb (hal.ext x12 n₂) hA.hd hA.cl (g.ext x12) (r₁.ext x₂) r₂ fun vs n tk rl => ?_
  exact q _ vs n _ tk (f.ext x12).lt (x12.fresh (fresh_push _)) (hal.new x12) (x12.trans (.push _ _)) (Heap.get?_push_size _ rfl) (rl.notNew.ext (.push _ _))

/-- an expression over the own list that gives a number or a truth value -/
theorem FS.shown {env : Env} {h : Heap} {x : Str} {a : Addr} {ds : List D} (f : FS C ok env σ h) (hx : σ.lookup x = some (.mut a ds)) (hu : onlyMut x σ = true) : FS C (fun b => ok b ∨ b = a) env ((x, .list ds) :: σ) h := by
  obtain ⟨vs, n, ow⟩ := f.own hx
  have al : ∀ {d v}, Rep C ok h d v → Rep C (fun b => ok b ∨ b = a) h d v := fun r => r.allow fun _ z => .inl z
  have new : RepM C (fun b => ok b ∨ b = a) env.locals h (.list ds) (.ref a) := .inl (.list (.inr rfl) ow.obj (ow.rep.allow fun _ z => .inl z))
  refine ⟨f.fn, f.gl, f.bl, ?_, fun y d e kk => ?_, f.cells, f.apart⟩
  · obtain ⟨m, hm, hv⟩ := f.ns
    refine ⟨m, hm, fun y d e kk => ?_⟩
    by_cases hy : y = x
    · subst hy
      rw [lookup_cons_eq] at e; cases e
      obtain ⟨v, h1, h2⟩ := hv _ _ hx kk
      cases h2.asOwn
      exact ⟨_, h1, new⟩
    · rw [lookup_cons_ne hy] at e
      obtain ⟨v, h1, h2⟩ := hv _ _ e kk
      exact ⟨v, h1, .inl (al (h2.rep (onlyMut_spec hu e hy)))⟩
  · by_cases hy : y = x
    · subst hy
      rw [lookup_cons_eq] at e; cases e
      obtain ⟨h0, c, v, h1, h2, h3⟩ := f.cell _ _ hx kk
      cases h3.asOwn
      exact ⟨h0, c, _, h1, h2, new⟩
    · rw [lookup_cons_ne hy] at e
      obtain ⟨h0, c, v, h1, h2, h3⟩ := f.cell _ _ e kk
      exact ⟨h0, c, v, h1, h2, .inl (al (h3.rep (onlyMut_spec hu e hy)))⟩
theorem ev_shown {x : Str} {a : Addr} {ds : List D} {e : Expr} {i : Int} (hx : σ.lookup x = some (.mut a ds)) (hu : onlyMut x σ = true) (he : EvT C k sc ((x, .list ds) :: σ) e (.int i)) : EvT C k sc σ e (.int i) := by
  intro ok env A s Q E hal hsc hA f g q
  refine he _ env A s Q E ⟨fun b hb => .inl (hal.h b hb), hal.t⟩ hsc hA (f.shown hx hu) g fun v h' tk x' r' => q v h' tk x' ?_
  cases r'; exact .int _ _
theorem ts_shown {x : Str} {a : Addr} {ds : List D} {e : Expr} {b : Bool} (hx : σ.lookup x = some (.mut a ds)) (hu : onlyMut x σ = true) (he : TsT C k sc ((x, .list ds) :: σ) e b) : TsT C k sc σ e b := by
  intro ok env A s Q E hal hsc hA f g q
  exact he _ env A s Q E ⟨fun b hb => .inl (hal.h b hb), hal.t⟩ hsc hA (f.shown hx hu) g q

/-- x = a new list, which is x's own from here on -/
theorem ex_own {x : Str} {p pos : Pos} {value : Expr} {ds : List D} {rest : List Stmt} {o : Out} (hv : NewT C k sc σ value ds) (hx : sc.names.lookup x = some .local ∨ sc.names.lookup x = some .cell)
    (hs : ∀ env : Env, env.scope = sc → swapsWith value (some (.Name x p)) pos.line env = pure false)
    (hr : ∀ a, ExO C k sc a ((x, .mut a ds) :: σ) rest o) : ExT C k sc σ (.Assign [.Name x p] value pos :: rest) o := by
  intro ok env A s Q E h₀ hal hn hsc hA hf g e f q
  refine wpAny_execs_cons (wpAny_Assign_Name ?_ (hs env hsc))
  refine wpAny_with_toks hn (hv ok env A s _ _ ⟨hal, hn⟩ hsc hA f (g.ext e) fun a vs n h₁ t₁ hlo hfr hok x₁ l₁ r₁ n₁ => ?_)
  have f₁ : FS C (fun b => ok b ∧ b ≠ a) env σ h₁ := (f.narrow (fun b o eb z => ⟨z, fun q => by subst q; rw [hfr] at eb; cases eb⟩) fun b z => z.1).ext x₁
  refine wpAny_with_toks (s := { s with heap := h₁, toks := t₁ }) n₁ (store_own (C := C) (ok := fun b => ok b ∧ b ≠ a) (ds := ds) (h₀ := h₀) (by unfold Env.kindOf; rw [hsc]; exact hx) hf (e.trans x₁) f₁ ⟨fun z => z.2 rfl, hlo, l₁, r₁⟩ fun h₂ t₂ e₂ k₂ f₂ n₂ => ?_)
  refine hr a ok env A _ _ E h₀ ((hal.dom x₁.dom).dom k₂.dom) n₂ hsc hA hf g e₂ hok (k₂.dom.has ⟨_, l₁⟩) f₂ fun fl h₃ t₃ e₃ k₃ o₃ => ?_
  refine q fl h₃ t₃ e₃ ⟨fun b ob hb eb hD => ?_, (x₁.dom.trans k₂.dom).trans k₃.dom⟩ o₃
  have hne : b ≠ a := fun z => by subst z; rw [hfr] at eb; cases eb
  exact k₃.k b ob ⟨hb, hne⟩ (k₂.k b ob trivial ((x₁.kd (ok := every)).k b ob trivial eb hD) hD) hD
end
end Mine
namespace Mine
variable {C : Cx} {ok : Addr → Prop}

theorem StoreAt.rec {h h' : Heap} (x : StoreAt h h') {cd : Value} {q : Str} (c : h.CodeRec cd q) : h'.CodeRec cd q := by
  obtain ⟨a, o, sb, e, hd⟩ := x
  refine c.keepsBut (fun b ob hb eb => (sb.2 b hb).trans eb) e fun vs hv => ?_
  rcases hd with ⟨es, ep, hd⟩ | ⟨v, hd⟩ <;> rw [hd] at hv <;> cases hv
theorem StoreAt.fn {h h' : Heap} (x : StoreAt h h') {fi : Addr} {ob : Obj} {fd : FuncData} (e : h.get? fi = some ob) (hf : ob.data = .func fd) : h'.get? fi = some ob := by
  obtain ⟨a, o, sb, ea, hd⟩ := x
  refine (sb.2 fi fun z => ?_).trans e
  subst z
  rw [e] at ea; cases ea
  rcases hd with ⟨es, ep, hd⟩ | ⟨v, hd⟩ <;> rw [hf] at hd <;> cases hd

theorem triples_one {l : List Value} (h : TriplesOk l) : ∀ q t, l[1]? ≠ some (.str q t) := by
  intro q t
  fun_induction TriplesOk l with
  | case1 => simp
  | case2 a t' b u x rest ih => simp
  | case3 l h1 h2 => exact h.elim
/-- the table of a nested def's code has grown -/
theorem ext_table {h h' : Heap} {c P : Addr} {pos : Pos} {qual : Str} {ps : Array Value} {c' : Addr} (hq : (c, P, pos, qual) ∈ C.tabs) (hdis : ∀ q ∈ C.tabs, q.2.1 = P → q = (c, P, pos, qual)) (hcP : ∀ q ∈ C.tabs, q.1 ≠ P)
    (hP : h.get? P = some (tabObj ps)) (ht : TriplesOk ps.toList) (H : CodeHd h c P) (hn : codeAmong pos ps.toList = none) (hx : Heap.ExtBut P h h') (hrec : h'.CodeRec (.ref c') qual)
    (hP' : h'.get? P = some (tabObj (ps ++ #[rawInt pos.line, rawInt pos.col, .ref c']))) : Ext C h h' where
  keep := fun b o e n => by
    by_cases hb : b = P
    · subst hb
      rw [hP] at e; cases e
      exact absurd (n (List.mem_map_of_mem (f := (·.2.1)) hq)) (by simp [tabObj])
    · exact hx b o hb e
  tab := fun b vs e => by
    by_cases hb : b = P
    · subst hb
      rw [hP] at e; cases e
      exact ⟨_, hP'⟩
    · exact ⟨#[], by simpa using hx b _ hb e⟩
  tab' := fun b o vs e _ _ => by
    by_cases hb : b = P
    · subst hb; exact ⟨_, hP'⟩
    · exact ⟨o, hx b o hb e⟩
  inv := fun z q hq' => by
    by_cases hqP : q.2.1 = P
    · cases hdis q hq' hqP
      have H' : CodeHd h' c P := by
        obtain ⟨o, vs, file, tf, flags, tg, inF, text, tt, e, r⟩ := H
        exact ⟨o, vs, file, tf, flags, tg, inF, text, tt, hx _ _ (hcP _ hq) e, r⟩
      refine ⟨_, H'.code hP' ?_, H'.tab hP', .inr ⟨c', ?_, hrec⟩⟩
      · rw [Array.toList_append]; exact TriplesOk_snoc _ _ _ _ ht
      · rw [Array.toList_append]; exact codeAmong_snoc _ ht hn
    · obtain ⟨ps', hc, htb, r⟩ := z q hq'
      refine ⟨ps', ?_, htb.extBut hx (hcP _ hq') hqP, ?_⟩
      · obtain ⟨o, vs, f, tf, fl, tg, b, n', tt, op, e1, e2, e3, e4, e5, e6, e7, e8, e9⟩ := hc
        exact ⟨o, vs, f, tf, fl, tg, b, n', tt, op, hx _ _ (hcP _ hq') e1, e2, e3, e4, e5, e6, e7, hx _ _ hqP e8, e9⟩
      · rcases r with r | ⟨c2, e, c3, oc, vs, t, e1, e2, e3, e4⟩
        · exact .inl r
        · refine .inr ⟨c2, e, c3, oc, vs, t, e1, hx _ _ ?_ e2, e3, e4⟩
          rintro rfl
          rw [hP] at e2; cases e2
          cases e3
          rw [← Array.getElem?_toList] at e4
          exact triples_one ht _ _ e4

/-- what a nested def leaves: a function object -/
structure FnMade (h : Heap) (fi : Addr) (name qual : Str) (params : Arguments) (body : List Stmt) (isc : Scope) (clos : List (Str × Addr)) (fd : FuncData) : Prop where
  obj : h.get? fi = some { cls := .type "function", data := .func fd }
  isf : ∃ doc pm cv ctv, fd = fnX name qual params body isc clos .none .none doc pm none cv ctv
  cd : h.CodeRec fd.code qual
theorem codeRec_ext {h h' : Heap} (g : G C h) (y : Ext C h h') {cd : Value} {q : Str} (x : h.CodeRec cd q) : h'.CodeRec cd q := by
  obtain ⟨c, o, vs, t, e1, e2, e3, e4⟩ := x
  refine ⟨c, o, vs, t, e1, y.keep c o e2 fun hm => ?_, e3, e4⟩
  obtain ⟨p, hp, rfl⟩ := List.mem_map.mp hm
  obtain ⟨ps, hc, ht, _⟩ := g.tabs p hp
  exfalso
  have hP := ht.2
  rw [e2] at hP; cases hP
  cases e3
  obtain ⟨o, vs, f, tf, fl, tg, b, n', tt, op, f1, f2, f3, f4, f5, f6, f7, f8, f9, f10, f11⟩ := hc
  rw [e2] at f8; cases f8; cases f9
  rw [← Array.getElem?_toList] at e4
  exact triples_one f10 _ _ e4
theorem FnMade.ext {h h' : Heap} {fi : Addr} {name qual : Str} {params : Arguments} {body : List Stmt} {isc : Scope} {clos : List (Str × Addr)} {fd : FuncData} (x : FnMade h fi name qual params body isc clos fd)
    (g : G C h) (y : Ext C h h') : FnMade h' fi name qual params body isc clos fd :=
  ⟨y.keep_cls x.obj (by simp), x.isf, codeRec_ext g y x.cd⟩

theorem def_run {env : Env} {σ : Store} {A : Around} {s : Shared} {Q : Flow → Shared → Prop} {E : Value → Shared → Prop} {h₀ : Heap} {name qual : Str} {params : Arguments} {body : List Stmt} {isc : Scope} {pos : Pos} {c P : Addr} {clos : List (Str × Addr)}
    (hq : (c, P, pos, qual) ∈ C.tabs) (hdis : ∀ q ∈ C.tabs, q.2.1 = P → q = (c, P, pos, qual)) (hcP : ∀ q ∈ C.tabs, q.1 ≠ P)
    (hcode : env.code = .ref c) (hqual : qualnameIn env name name = qual) (hcl : closureFor isc env = pure clos)
    (hd0 : params.defaults = []) (hk0 : params.kw_defaults = []) (ha : annTrees params none env = [])
    (hx : env.kindOf name = some .local ∨ env.kindOf name = some .cell)
    (hf : Fresh (fun _ => True) env h₀) (g : G C h₀) (e : Ext C h₀ s.heap) (f : FS C ok env σ s.heap)
    (q : ∀ fi fd h' tk, Ext C h₀ h' → KD env.locals every s.heap h' → FS C ok env ((name, .val (.ref fi)) :: σ) h' → FnMade h' fi name qual params body isc clos fd → s.heap.get? fi = none → Q .next { s with heap := h', toks := tk }) :
    wpAny C.M A (exec (.FunctionDef name params body [] none [] isc none name pos) env) Q E s := by
  refine nestDef_K hd0 hk0 ha ?_
  rw [hqual]
  have g' := g.ext e
  obtain ⟨ps, hc, ht, hor⟩ := g'.tabs _ hq
  have H := CodeHd.of hc ht
  have hP : s.heap.get? P = some (tabObj ps) := ht.2
  have htr : TriplesOk ps.toList := by
    obtain ⟨o, vs, f, tf, fl, tg, b, n', tt, op, e1, e2, e3, e4, e5, e6, e7, e8, e9, e10, e11⟩ := hc
    rw [hP] at e8; cases e8; cases e9
    exact e10
  have hgP : mainGlobals ≠ P := by
    intro z
    obtain ⟨o, es, ep, e, hd, _⟩ := g'.g
    rw [z, hP] at e; cases e; cases hd
  have hb : s.heap.BuiltinsAt C.mg P := by
    obtain ⟨bm, ob, b1, b2, b3, b4, b5, b6⟩ := g'.bm
    refine ⟨bm, ob, b1, b2, ?_, ?_, b3, b4, b5, b6⟩
    · rintro rfl
      obtain ⟨o, es, ep, e, hd, _⟩ := g'.g
      rw [b3] at e; cases e; rw [b6] at hd; cases hd
    · rintro rfl
      rw [hP] at b3; cases b3; cases b4
  have fin : ∀ (h₁ : Heap) (t₁ : Nat) (fd : FuncData) (cv : Value), Ext C s.heap h₁ → (∃ doc pm ctv, fd = fnX name qual params body isc clos .none .none doc pm none cv ctv) → h₁.CodeRec cv qual →
      wpAny C.M A (storeName env name (.ref h₁.objs.size)) (fun _ s'' => Q .next s'') E { s with heap := h₁.push { cls := .type "function", data := .func fd }, toks := t₁ } := by
    intro h₁ t₁ fd cv x₁ hfd hrec
    have x₂ : Ext C s.heap (h₁.push { cls := .type "function", data := .func fd }) := x₁.trans (.push _ _)
    refine store_name (C := C) (ok := ok) (σ := σ) (d := .val (.ref h₁.objs.size)) (N := fun _ => True) (h₀ := h₀) hx trivial hf (e.trans x₂) (f.ext x₂) (.val _) fun h₂ t₂ e₂ k₂ f₂ _ st => ?_
    refine q h₁.objs.size fd h₂ t₂ e₂ (x₂.kd.trans k₂) f₂ ⟨st.fn (Heap.get?_push_size _ rfl) rfl, ?_, ?_⟩ (x₁.fresh (fresh_push _))
    · obtain ⟨doc, pm, ctv, rfl⟩ := hfd
      exact ⟨doc, pm, cv, ctv, rfl⟩
    · obtain ⟨doc, pm, ctv, rfl⟩ := hfd
      exact st.rec (hrec.push _)
  rcases hor with hn | ⟨c', hh, hrec⟩
  · refine makeFunction_K hcl f.gl g'.g hcode H hP htr hn hgP hb fun c' ctv doc h₁ t₁ hxb _ _ hrec hP' => ?_
    exact fin h₁ t₁ _ (.ref c') (ext_table hq hdis hcP hP htr H hn hxb hrec hP') ⟨_, _, _, rfl⟩ hrec
  · refine makeFunction_hit hcl f.gl g'.g hcode H hP htr hh hb fun ctv doc h₁ t₁ hk _ => ?_
    exact fin h₁ t₁ _ (.ref c') (.of_keeps hk) ⟨_, _, _, rfl⟩ (hrec.keeps hk)

end Mine
namespace Mine
variable {C : Cx} {ok : Addr → Prop}

theorem lookup_of_mem {x : Str} {v : Value} : ∀ {l : List (Str × Value)}, (l.map (·.1)).Nodup → (x, v) ∈ l → l.lookup x = some v
  | (n, u) :: r, hn, hm => by
    have hn' := List.nodup_cons.mp hn
    rw [List.lookup_cons]
    rcases List.mem_cons.mp hm with e | hm2
    · obtain ⟨rfl, rfl⟩ := Prod.mk.inj e
      rw [beq_self_eq_true]
    · have : (x == n) = false := beq_eq_false_iff_ne.mpr fun z => by
        subst z
        exact hn'.1 (List.mem_map_of_mem (f := (·.1)) hm2)
      rw [this]; exact lookup_of_mem hn'.2 hm2

/-- a call of a nested def's function: its body is run over a base that the heap extends -/
theorem inner_call' {A : Around} {s : Shared} {Q E : Value → Shared → Prop} {fi : Addr} {vs : List Value} {names : List Str} {ds : List D} {σc : Store} {k : Nat} {name qual : Str} {params : Arguments} {body : List Stmt} {isc : Scope} {clos : List (Str × Addr)} {fd : FuncData} {hb : Heap}
    (F : FnMade s.heap fi name qual params body isc clos fd) (hsub : ∀ b o, hb.get? b = some o → s.heap.get? b = some o) (hlim : s.heap.NoLimit) (ht : 1 ≤ s.toks) (hA : Room A (k + 1)) (r : RepL C ok s.heap ds vs)
    (hco : isc.isCoroutine = false) (hgen : isc.isGenerator = false) (hk : isc.kind = .function) (hnc : ∀ x ∈ isc.names, x.2 ≠ .cell) (hnd : names.Nodup) (hlen : names.length = ds.length)
    (hkind : ∀ x ∈ names, isc.names.lookup x = some .local)
    (hbind : ∀ (doc pm cv ctv : Value) (vs : List Value), vs.length = names.length → bindArgs (fnX name qual params body isc clos .none .none doc pm none cv ctv) ⟨vs, []⟩ = pure (names.zip vs))
    (hap : clos.Pairwise fun x y => x.2 ≠ y.2)
    (hσc : ∀ x d, σc.lookup x = some d → isc.names.lookup x = some .free ∧ ∃ c v, clos.lookup x = some c ∧ s.heap.IsCell c (some v) ∧ Rep C ok s.heap d v)
    (hfr : ∀ x, isc.names.lookup x = some .free → ∃ c v, clos.lookup x = some c ∧ s.heap.IsCell c v)
    (h : ∀ env h₁ t₁ E, env.scope = isc → Fresh (fun _ => True) env hb → (∀ b o, s.heap.get? b = some o → h₁.get? b = some o) → FS C ok env (names.zip ds ++ σc) h₁ → 1 ≤ t₁ → Room (A.deeper env) k → s.heap.get? env.locals = none →
      wpAny C.M (A.deeper env) (execs body env) (fun fl s' => Q (match fl with | .ret v => v | _ => .none) s') E { s with heap := h₁, toks := t₁ }) :
    wpAny C.M A (call (.ref fi) vs) Q E s := by
  obtain ⟨doc, pm, cv, ctv, rfl⟩ := F.isf
  have hl := r.length
  have hnv : names.length = vs.length := by omega
  refine wpAny_call ?_
  refine codeAny_call_function (by have := hA.d; omega) F.obj rfl hco hgen rfl F.cd ?_
  rw [hbind doc pm cv ctv vs (by omega)]
  refine wpAny_pure (wpAny_newFunctionEnv hnc ?_ (fun h₁ hn₁ sb₁ => ?_) hk)
  · intro x hx
    have hxn : x.1 ∈ names := by
      have := List.mem_map_of_mem (f := (·.1)) hx
      rwa [zip_names hnv] at this
    exact hkind _ hxn
  have kp : ∀ b o, s.heap.get? b = some o → h₁.get? b = some o := fun b o e => (sb₁.2 b (Nat.ne_of_lt (Heap.lt_size e))).trans (Heap.get?_push_of_some _ e)
  have e₁ : Ext C s.heap h₁ := .of_keeps kp
  refine ⟨hlim.keeps kp, codeAny_func ?_⟩
  have hno : ∀ b, s.heap.objs.size ≤ b → hb.get? b = none := fun b hbz => by
    cases q : hb.get? b with
    | none => rfl
    | some o => exact absurd (Heap.lt_size (hsub b o q)) (Nat.not_lt.mpr hbz)
  refine h _ h₁ _ _ rfl ⟨hno _ (Nat.le_refl _), fun b hbz => hno b (Nat.le_of_lt hbz), fun x c _ hkc _ => ?_⟩ kp ⟨hk, rfl, rfl, ⟨_, hn₁, fun x d ex kx => ?_⟩, fun x d ex kx => ?_, fun x kx => ?_, hap⟩ (by show 1 ≤ s.toks + _; omega) (hA.deeper _) (fresh_push _)
  · exact absurd rfl (hnc (x, .cell) (mem_of_lookup hkc))
  · have hzl : (names.zip ds).lookup x = some d := by
      rw [List.lookup_append] at ex
      cases hz : (names.zip ds).lookup x with
      | some d' => rw [hz] at ex; exact ex
      | none =>
        rw [hz] at ex
        have := (hσc x d ex).1
        have kx' : isc.names.lookup x = some .local := kx
        rw [this] at kx'; cases kx'
    obtain ⟨v, hv, hr⟩ := zip_rep r hzl
    refine ⟨v, ?_, .inl (hr.ext e₁)⟩
    refine lookup_of_mem ?_ (List.mem_reverse.mpr hv)
    rw [List.map_reverse, zip_names hnv]
    exact List.pairwise_reverse.mpr (List.Pairwise.imp Ne.symm hnd)
  · have hzl : (names.zip ds).lookup x = none := by
      cases hz : (names.zip ds).lookup x with
      | none => rfl
      | some d' =>
        obtain ⟨v, hv, _⟩ := zip_rep r hz
        have hxn : x ∈ names := by
          have := List.mem_map_of_mem (f := (·.1)) hv
          rwa [zip_names hnv] at this
        exact absurd (hkind x hxn) kx
    rw [List.lookup_append, hzl] at ex
    obtain ⟨h1, c, v, h2, h3, h4⟩ := hσc x d ex
    exact ⟨.inr h1, c, v, h2, h3.keeps kp, .inl (h4.ext e₁)⟩
  · rcases kx with kx | kx
    · exact absurd rfl (hnc (x, .cell) (mem_of_lookup kx))
    · obtain ⟨c, v, h2, h3⟩ := hfr x kx
      exact ⟨c, v, h2, h3.keeps kp⟩
theorem inner_call {A : Around} {s : Shared} {Q E : Value → Shared → Prop} {fi : Addr} {vs : List Value} {names : List Str} {ds : List D} {σc : Store} {k : Nat} {name qual : Str} {params : Arguments} {body : List Stmt} {isc : Scope} {clos : List (Str × Addr)} {fd : FuncData} {hb : Heap}
    (F : FnMade s.heap fi name qual params body isc clos fd) (hsub : ∀ b o, hb.get? b = some o → s.heap.get? b = some o) (hlim : s.heap.NoLimit) (ht : 1 ≤ s.toks) (hA : Room A (k + 1)) (r : RepL C ok s.heap ds vs)
    (hco : isc.isCoroutine = false) (hgen : isc.isGenerator = false) (hk : isc.kind = .function) (hnc : ∀ x ∈ isc.names, x.2 ≠ .cell) (hnd : names.Nodup) (hlen : names.length = ds.length)
    (hkind : ∀ x ∈ names, isc.names.lookup x = some .local)
    (hbind : ∀ (doc pm cv ctv : Value) (vs : List Value), vs.length = names.length → bindArgs (fnX name qual params body isc clos .none .none doc pm none cv ctv) ⟨vs, []⟩ = pure (names.zip vs))
    (hap : clos.Pairwise fun x y => x.2 ≠ y.2)
    (hσc : ∀ x d, σc.lookup x = some d → isc.names.lookup x = some .free ∧ ∃ c v, clos.lookup x = some c ∧ s.heap.IsCell c (some v) ∧ Rep C ok s.heap d v)
    (hfr : ∀ x, isc.names.lookup x = some .free → ∃ c v, clos.lookup x = some c ∧ s.heap.IsCell c v)
    (h : ∀ env h₁ t₁ E, env.scope = isc → Fresh (fun _ => True) env hb → (∀ b o, s.heap.get? b = some o → h₁.get? b = some o) → FS C ok env (names.zip ds ++ σc) h₁ → 1 ≤ t₁ → Room (A.deeper env) k →
      wpAny C.M (A.deeper env) (execs body env) (fun fl s' => Q (match fl with | .ret v => v | _ => .none) s') E { s with heap := h₁, toks := t₁ }) :
    wpAny C.M A (call (.ref fi) vs) Q E s :=
  inner_call' F hsub hlim ht hA r hco hgen hk hnc hnd hlen hkind hbind hap hσc hfr fun env h₁ t₁ E a b c d e f _ => h env h₁ t₁ E a b c d e f

/-- a call of a function that a name holds -/
theorem call_inner {A : Around} {s : Shared} {Q E : Value → Shared → Prop} {env : Env} {sc : Scope} {σ : Store} {k : Nat} {x : Str} {p pos : Pos} {e : Expr} {es : List Expr} {ds : List D} {fi : Addr} {o : Obj} {fd : FuncData}
    (hx : σ.lookup x = some (.val (.ref fi))) (hd : (x == ("__debug__" : Str)) = false) (hc : (x == ("__classdict__" : Str)) = false)
    (hal : Al ok s) (hsc : env.scope = sc) (hA : Room A k) (f : FS C ok env σ s.heap) (g : G C s.heap) (ho : s.heap.get? fi = some o) (hfd : o.data = .func fd) (ha : EvsT C k sc σ (e :: es) ds)
    (hs : ∀ env : Env, starEach (e :: es) env = (false, eval e env) :: starEach es env)
    (h : ∀ vs h₁ t₁, 1 ≤ t₁ → Ext C s.heap h₁ → RepL C ok h₁ ds vs → wpAny C.M A (call (.ref fi) vs) Q E { s with heap := h₁, toks := t₁ }) :
    wpAny C.M A (eval (.Call (.Name x p) (e :: es) [] pos) env) Q E s := by
  refine wpAny_Call_NameR ((ev_name (k := k) (sc := sc) hx hd hc).use ok env A s _ E hal hsc hA f g fun v h₁ t₁ n₁ x₁ r₁ => ?_)
  cases r₁
  refine Calls.callWith_function (o := o) (fd := fd) (args_plain (hal.ext x₁ n₁) hsc hA (f.ext x₁) (g.ext x₁) ha hs fun vs h₂ t₂ n₂ x₂ r₂ => ⟨⟨?_, hfd⟩, ?_⟩)
  · exact (x₁.trans x₂).keep_data ho (by rw [hfd]; simp)
  · exact h vs h₂ t₂ n₂ (x₁.trans x₂) r₂
end Mine
set_option maxRecDepth 100000
namespace Mine

noncomputable def C1 (w : World) (mg mb : Str → Option Value) : Cx where
  prog := PySem.Challenge.rw_pu0054_01.row.prog
  w := w
  K := hd.heap_39 w.params
  mg := mg
  mb := mb
  tabs := [(58, 54, ⟨36, 4, 45, 28⟩, "_int2digits.<locals>.inner"), (65, 61, ⟨51, 4, 56, 55⟩, "_digits2int.<locals>.inner")]

theorem nt1 (w : World) (mg mb : Str → Option Value) : noTabs (C1 w mg mb).K = true := by
  show noTabs (hd.heap_39 w.params) = true
  kernel_rfl

theorem get_menu {xs : List Int} {i : Int} (h0 : 0 ≤ i) (h1 : i < xs.length) : (dInts xs)[i.toNat]? = some (.int (xs.getD i.toNat 0)) := by
  have : i.toNat < xs.length := by omega
  simp [this]
theorem get_menuS {xs : List Str} {i : Int} (h0 : 0 ≤ i) (h1 : i < xs.length) : (dStrs xs)[i.toNat]? = some (.str (xs.getD i.toNat Str.empty)) := by
  have : i.toNat < xs.length := by omega
  simp [this]
theorem fmod_lo (a : Int) {b : Int} (h : 0 < b) : 0 ≤ a.fmod b := Int.fmod_nonneg_of_pos a h
theorem fmod_hi (a : Int) {b : Int} (h : 0 < b) : a.fmod b < b := Int.fmod_lt_of_pos a h

section
variable {w : World} {mg mb : Str → Option Value}

def rowSize (drawn : Int) : Int := [2, 4, 3, 8, 6].getD (drawn.fmod 5).toNat 0
def rowDots (drawn : Int) : Int := 1 + (drawn.fdiv 5).fmod (rowSize drawn)
def rowUnit (drawn : Int) : Int := [1, 5, 7, 11].getD (((drawn.fdiv 5).fdiv 24).fmod 4).toNat 0
def rowEnd (drawn : Int) : Str := [Str.ofString "\n", Str.ofString "\r", Str.ofString "\r\n"].getD (((drawn.fdiv 5).fdiv 96).fmod 3).toNat Str.empty

theorem rowSize_pos (d : Int) : 2 ≤ rowSize d ∧ rowSize d ≤ 8 := by
  unfold rowSize
  have h1 := fmod_lo d (b := 5) (by decide)
  have h2 := fmod_hi d (b := 5) (by decide)
  generalize d.fmod 5 = m at *
  have : m = 0 ∨ m = 1 ∨ m = 2 ∨ m = 3 ∨ m = 4 := by omega
  rcases this with rfl | rfl | rfl | rfl | rfl <;> decide

set_option maxHeartbeats 400000 in
theorem row_ct {drawn : Int} : CT (C1 w mg mb) 1 (.ref 170) [.int drawn] (.tuple [.int (rowSize drawn), .int (rowDots drawn), .int (rowUnit drawn), .str (rowEnd drawn)]) := by
  refine ct_fun (names := ["drawn"]) (o := _) rfl rfl ⟨_, _, _, _, rfl, rfl, rfl, rfl⟩ rfl rfl rfl rfl rfl rfl rfl (by decide +kernel) (by decide +kernel) rfl (by decide +kernel) (by rintro (_ | ⟨v, _ | ⟨w, _⟩⟩) h <;> first | rfl | simp at h) ?_
  dsimp only [List.zip, List.zipWith]
  refine ex_cons (exs_assign (d := .int (rowSize drawn)) (ev_sub (a := .list (dInts [2, 4, 3, 8, 6])) (ev_list (evs_cons ev_int (evs_cons ev_int (evs_cons ev_int (evs_cons ev_int (evs_cons ev_int evs_nil (fun _ => rfl)) (fun _ => rfl)) (fun _ => rfl)) (fun _ => rfl)) (fun _ => rfl)) (by decide))
    (ev_binop (ev_name rfl rfl rfl) ev_int (op_mod_int (by decide))) list_getitem_lookup (op_getlist (fmod_lo _ (by decide)) (get_menu (fmod_lo _ (by decide)) (fmod_hi _ (by decide))) (by have := fmod_hi drawn (b := 5) (by decide); omega)) (fun _ _ => rfl)) (.inl rfl) (fun _ _ => rfl)) ?_
  refine ex_cons (exs_assign (ev_binop (ev_name rfl rfl rfl) ev_int (op_div_int (by decide) (PyProof.noPylong_small (by decide)))) (.inl rfl) (fun _ _ => rfl)) ?_
  refine ex_cons_ret (exs_ret (ev_tuple (evs_cons (ev_name rfl rfl rfl) (evs_cons (ev_binop ev_int (ev_binop (ev_name rfl rfl rfl) (ev_name rfl rfl rfl) (op_mod_int ?_)) op_add_int) (evs_cons ?_ (evs_cons ?_ evs_nil (fun _ => rfl)) (fun _ => rfl)) (fun _ => rfl)) (fun _ => rfl)) ⟨by simp, by simp⟩))
  · have := rowSize_pos drawn; omega
  · refine ev_sub (a := .list (dInts [1, 5, 7, 11])) (ev_list (evs_cons ev_int (evs_cons ev_int (evs_cons ev_int (evs_cons ev_int evs_nil (fun _ => rfl)) (fun _ => rfl)) (fun _ => rfl)) (fun _ => rfl)) (by decide))
      (ev_binop (ev_binop (ev_name rfl rfl rfl) ev_int (op_div_int (by decide) (PyProof.noPylong_small (by decide)))) ev_int (op_mod_int (by decide))) list_getitem_lookup (op_getlist (fmod_lo _ (by decide)) (get_menu (fmod_lo _ (by decide)) (fmod_hi _ (by decide))) ?_) (fun _ _ => rfl)
    have := fmod_hi ((drawn.fdiv 5).fdiv 24) (b := 4) (by decide); omega
  · refine ev_sub (a := .list (dStrs [Str.ofString "\n", Str.ofString "\r", Str.ofString "\r\n"])) (ev_list (evs_cons ev_str (evs_cons ev_str (evs_cons ev_str evs_nil (fun _ => rfl)) (fun _ => rfl)) (fun _ => rfl)) (by decide))
      (ev_binop (ev_binop (ev_name rfl rfl rfl) ev_int (op_div_int (by decide) (PyProof.noPylong_small (by decide)))) ev_int (op_mod_int (by decide))) list_getitem_lookup (op_getlist (fmod_lo _ (by decide)) (get_menuS (fmod_lo _ (by decide)) (fmod_hi _ (by decide))) ?_) (fun _ _ => rfl)
    have := fmod_hi ((drawn.fdiv 5).fdiv 96) (b := 3) (by decide); omega
end
end Mine
set_option maxRecDepth 100000
namespace Mine

def dsum (n : Nat) : List Int → Int
  | [] => 0
  | x :: xs => x + 2 ^ n * dsum n xs
theorem dsum_append (n : Nat) : ∀ xs ys : List Int, dsum n (xs ++ ys) = dsum n xs + 2 ^ (n * xs.length) * dsum n ys
  | [], ys => by simp [dsum]
  | x :: xs, ys => by
    rw [List.cons_append, dsum, dsum, dsum_append n xs ys, List.length_cons, Nat.mul_succ, Nat.add_comm, Int.pow_add, Int.mul_add, Int.mul_assoc, Int.add_assoc]
def dpart (n : Nat) (xs : List Int) (l r : Nat) : Int := dsum n ((xs.drop l).take (r - l))
theorem dpart_one {n : Nat} {xs : List Int} {l : Nat} (h : l < xs.length) : dpart n xs l (l + 1) = xs.getD l 0 := by
  unfold dpart
  rw [show l + 1 - l = 1 by omega, List.drop_eq_getElem_cons h, List.take_succ_cons, List.take_zero]
  simp [dsum, h]
theorem dpart_split {n : Nat} {xs : List Int} {l m r : Nat} (h1 : l ≤ m) (h2 : m ≤ r) (h3 : r ≤ xs.length) : dpart n xs l r = dpart n xs m r * 2 ^ ((m - l) * n) + dpart n xs l m := by
  unfold dpart
  have e : (xs.drop l).take (r - l) = (xs.drop l).take (m - l) ++ (xs.drop m).take (r - m) := by
    rw [show r - l = (m - l) + (r - m) by omega, List.take_add, List.drop_drop, show l + (m - l) = m by omega]
  rw [e, dsum_append, List.length_take, List.length_drop, show min (m - l) (xs.length - l) = m - l by omega, Nat.mul_comm n, Int.mul_comm (2 ^ _)]
  omega
theorem dsum_bound {n B : Nat} (hn : 1 ≤ n) : ∀ xs : List Int, (∀ x ∈ xs, x.natAbs ≤ 2 ^ B) → (dsum n xs).natAbs + 2 ^ B ≤ 2 ^ (B + n * xs.length)
  | [], _ => by simp [dsum]
  | x :: xs, h => by
    have ih := dsum_bound hn xs fun y hy => h y (List.mem_cons_of_mem _ hy)
    have hx := h x List.mem_cons_self
    rw [dsum, List.length_cons]
    have h1 : (x + 2 ^ n * dsum n xs).natAbs ≤ x.natAbs + 2 ^ n * (dsum n xs).natAbs := by
      refine Nat.le_trans (Int.natAbs_add_le ..) ?_
      rw [Int.natAbs_mul, Int.natAbs_pow]; exact Nat.le_refl _
    have h2 : 2 ^ n * ((dsum n xs).natAbs + 2 ^ B) ≤ 2 ^ n * 2 ^ (B + n * xs.length) := Nat.mul_le_mul_left _ ih
    have h3 : 2 ^ (B + n * (xs.length + 1)) = 2 ^ n * 2 ^ (B + n * xs.length) := by
      rw [← Nat.pow_add]; congr 1; rw [Nat.mul_succ]; omega
    have h4 : 2 ^ B * 2 ≤ 2 ^ B * 2 ^ n := Nat.mul_le_mul_left _ (by have := Nat.pow_le_pow_right (n := 2) (by decide) hn; simpa using this)
    rw [h3]
    rw [Nat.mul_add, Nat.mul_comm (2 ^ n) (2 ^ B)] at h2
    omega
theorem dpart_bits {n B : Nat} {xs : List Int} {l r : Nat} (hn : 1 ≤ n) (hB : ∀ x ∈ xs, x.natAbs ≤ 2 ^ B) : Builtin.Int.intBits (dpart n xs l r) ≤ B + n * (r - l) := by
  refine intBits_le_iff.mpr ?_
  have h := dsum_bound (n := n) (B := B) hn ((xs.drop l).take (r - l)) fun x hx => hB x (List.mem_of_mem_drop (List.mem_of_mem_take hx))
  have h1 : 2 ^ (B + n * ((xs.drop l).take (r - l)).length) ≤ 2 ^ (B + n * (r - l)) := Nat.pow_le_pow_right (by decide) (Nat.add_le_add_left (Nat.mul_le_mul_left _ (by rw [List.length_take]; exact Nat.min_le_left ..)) _)
  have h2 := Nat.two_pow_pos B
  unfold dpart
  omega

theorem Op2.is {C : Cx} {f : Value → Value → Sem Value} {a b c c' : D} (h : Op2 C f a b c) (e : c = c') : Op2 C f a b c' := e ▸ h
section
variable {w : World} {mg mb : Str → Option Value}
theorem d2i_ct {xs : List Int} {n j B : Nat} (hlen : xs.length ≤ 2 ^ j) (hj : j ≤ 12) (hn : 1 ≤ n) (hn2 : n ≤ 1000) (hB : ∀ x ∈ xs, x.natAbs ≤ 2 ^ B) (hB2 : B ≤ 1000) :
    CT (C1 w mg mb) (j + 3) (.ref 66) [.list (dInts xs), .int n] (.int (dsum n xs)) := by
  refine ct_fun_env (k := j + 2) (names := ["digits", "n"]) (o := _) rfl rfl ⟨_, _, _, _, rfl, rfl, rfl, rfl⟩ rfl rfl rfl rfl rfl rfl rfl (by decide +kernel) (by decide +kernel) rfl (by decide +kernel) (by rintro (_ | ⟨v, _ | ⟨w, _ | ⟨u, _⟩⟩⟩) h <;> first | rfl | simp at h) ?_
  intro L ok env A s Q E h₀ hal ht henv hA hf g e f q
  have hsc := congrArg Env.scope henv
  dsimp only [List.zip, List.zipWith] at f
  have hxl : xs.length ≤ 4096 := Nat.le_trans hlen (Nat.pow_le_pow_right (by decide) hj)
  have hcells : env.cells = [(Str.ofString "inner", L + 3), (Str.ofString "n", L + 2), (Str.ofString "digits", L + 1)] := by rw [henv]; rfl
  refine wpAny_execs_cons (wpAny_with_toks ht ?_)
  refine def_run (C := C1 w mg mb) (ok := ok) (name := Str.ofString "inner") (qual := Str.ofString "_digits2int.<locals>.inner") (c := 65) (P := 61) (clos := [(Str.ofString "n", L + 2), (Str.ofString "inner", L + 3), (Str.ofString "digits", L + 1)])
    (by unfold C1; exact List.mem_cons_of_mem _ List.mem_cons_self) ?_ ?_ (by rw [henv]; rfl) (by rw [henv]; rfl) ?_ rfl rfl rfl (.inr (by rw [henv]; rfl)) hf g e f fun fi fd h₁ t₁ e₁ k₁ f₁ F _ n₁ => ?_
  · intro q' hq' hP
    simp only [C1, List.mem_cons, List.not_mem_nil, or_false] at hq'
    rcases hq' with rfl | rfl
    · exact absurd hP (by decide)
    · rfl
  · intro q' hq'
    simp only [C1, List.mem_cons, List.not_mem_nil, or_false] at hq'
    rcases hq' with rfl | rfl <;> exact (by decide)
  · refine (closureFor_eq ?_).trans (congrArg pure ?_)
    · rw [hcells]; intro x hx hk; simp only [List.mem_cons, List.not_mem_nil, or_false] at hx; rcases hx with rfl | rfl | rfl | rfl | rfl | rfl | rfl <;> first | rfl | cases hk
    · rw [hcells]; rfl
  have g₁ := g.ext e₁
  obtain ⟨_, cd, vd, cd1, cd2, cd3⟩ := f₁.cell (Str.ofString "digits") _ rfl (by rw [henv]; exact (by decide : (some NameKind.cell) ≠ some NameKind.local))
  obtain ⟨_, cn, vn, cn1, cn2, cn3⟩ := f₁.cell (Str.ofString "n") _ rfl (by rw [henv]; exact (by decide : (some NameKind.cell) ≠ some NameKind.local))
  obtain ⟨_, ci, vi, ci1, ci2, ci3⟩ := f₁.cell (Str.ofString "inner") _ rfl (by rw [henv]; exact (by decide : (some NameKind.cell) ≠ some NameKind.local))
  rw [hcells] at cd1 cn1 ci1
  replace cd3 := cd3.rep rfl
  replace cn3 := cn3.rep rfl
  replace ci3 := ci3.rep rfl
  obtain ⟨tn, rfl⟩ := cn3.asInt
  cases ci3
  have ecd : cd = L + 1 := by have : some (L + 1) = some cd := cd1; cases this; rfl
  have ecn : cn = L + 2 := by have : some (L + 2) = some cn := cn1; cases this; rfl
  have eci : ci = L + 3 := by have : some (L + 3) = some ci := ci1; cases this; rfl
  subst ecd ecn eci
  have inner : ∀ (k l r : Nat) (A : Around) (s : Shared) (Q E : Value → Shared → Prop) (u1 u2 : Tok), l < r → r - l ≤ 2 ^ k → r ≤ xs.length → Al ok s → Room A (k + 1) → Ext (C1 w mg mb) h₁ s.heap →
      (∀ t h' tk, 1 ≤ tk → Ext (C1 w mg mb) s.heap h' → Q (.int (dpart n xs l r) t) { s with heap := h', toks := tk }) → wpAny (C1 w mg mb).M A (call (.ref fi) [.int l u1, .int r u2]) Q E s := by
    have enter : ∀ (k l r : Nat) (A : Around) (s : Shared) (Q E : Value → Shared → Prop) (u1 u2 : Tok), Al ok s → Room A (k + 1) → Ext (C1 w mg mb) h₁ s.heap → _ := 
      fun k l r A s Q E u1 u2 hal hA x => inner_call (C := C1 w mg mb) (ok := ok) (k := k) (hb := s.heap) (A := A) (s := s) (Q := Q) (E := E) (vs := [.int l u1, .int r u2]) (names := [Str.ofString "L", Str.ofString "R"]) (ds := [.int l, .int r]) (σc := [(Str.ofString "digits", .list (dInts xs)), (Str.ofString "inner", .val (.ref fi)), (Str.ofString "n", .int n)])
        (F.ext g₁ x) (fun _ _ e => e) (g₁.ext x).nolimit hal.t hA (.cons (.int _ _) (.cons (.int _ _) .nil)) rfl rfl rfl (by decide) (by decide +kernel) rfl (by decide +kernel)
        (by rintro doc pm cv ctv (_ | ⟨v, _ | ⟨w, _ | ⟨u, _⟩⟩⟩) h <;> first | rfl | simp at h)
        (by simp)
        (by
          intro y d hy
          have := mem_of_lookup hy
          simp only [List.mem_cons, List.not_mem_nil, or_false, Prod.mk.injEq] at this
          rcases this with ⟨rfl, rfl⟩ | ⟨rfl, rfl⟩ | ⟨rfl, rfl⟩
          · exact ⟨rfl, L + 1, vd, rfl, x.isCell cd2, cd3.ext x⟩
          · exact ⟨rfl, L + 3, _, rfl, x.isCell ci2, .val _⟩
          · exact ⟨rfl, L + 2, _, rfl, x.isCell cn2, .int _ _⟩)
        (by
          intro y hy
          have := mem_of_lookup hy
          simp only [List.mem_cons, List.not_mem_nil, or_false, Prod.mk.injEq] at this
          rcases this with ⟨rfl, h⟩ | ⟨rfl, h⟩ | ⟨rfl, h⟩ | ⟨rfl, h⟩ | ⟨rfl, h⟩ | ⟨rfl, h⟩ | ⟨rfl, h⟩
          · cases h
          · cases h
          · cases h
          · cases h
          · exact ⟨L + 1, _, rfl, x.isCell cd2⟩
          · exact ⟨L + 3, _, rfl, x.isCell ci2⟩
          · exact ⟨L + 2, _, rfl, x.isCell cn2⟩)
    have base : ∀ (k l r : Nat) (A : Around) (s : Shared) (Q E : Value → Shared → Prop) (u1 u2 : Tok), r = l + 1 → r ≤ xs.length → Al ok s → Room A (k + 1) → Ext (C1 w mg mb) h₁ s.heap →
        (∀ t h' tk, 1 ≤ tk → Ext (C1 w mg mb) s.heap h' → Q (.int (dpart n xs l r) t) { s with heap := h', toks := tk }) → wpAny (C1 w mg mb).M A (call (.ref fi) [.int l u1, .int r u2]) Q E s := by
      intro k l r A s Q E u1 u2 hr hrx hal hA x q
      refine enter k l r A s Q E u1 u2 hal hA x fun env' h₂ t₂ E' hsc' hf' kp f' n₂ hA' => ?_
      refine ExT.use (o := .ret (.int (xs.getD l 0))) ?_ ok env' _ _ _ _ s.heap (hal.h.dom (.of_keeps kp)) n₂ hsc' hA' hf' (g₁.ext x) (.of_keeps kp) f' fun fl h₃ t₃ n₃ e₃ k₃ o₃ => ?_
      · refine ex_cons_ret (exs_if_t (ts_cmp (ev_binop (ev_name rfl rfl rfl) ev_int op_add_int) (ev_name rfl rfl rfl) (op_eq_int.is (c' := .bool true) ?_) rfl) (ex_cons_ret (exs_ret (ev_sub (a := .list (dInts xs)) (ev_name rfl rfl rfl) (ev_name rfl rfl rfl) list_getitem_lookup (op_getlist (by omega) ?_ ?_) (fun _ _ => rfl)))))
        · subst hr; simp
        · have : l < xs.length := by omega
          simp [this]
        · omega
      obtain ⟨v, rfl, rv⟩ := o₃
      obtain ⟨t, rfl⟩ := rv.asInt
      subst hr
      rw [← dpart_one (n := n) (by omega)]
      exact q t h₃ t₃ n₃ e₃
    intro k
    induction k with
    | zero => exact fun l r A s Q E u1 u2 h1 h2 h3 => base 0 l r A s Q E u1 u2 (by simp at h2; omega) h3
    | succ k ih =>
      intro l r A s Q E u1 u2 h1 h2 h3 hal hA x q
      by_cases hr : r = l + 1
      · exact base (k + 1) l r A s Q E u1 u2 hr h3 hal hA x q
      refine enter (k + 1) l r A s Q E u1 u2 hal hA x fun env' h₂ t₂ E' hsc' hf' kp f' n₂ hA' => ?_
      have x2 : Ext (C1 w mg mb) s.heap h₂ := .of_keeps kp
      have hm1 : l < (l + r) / 2 := by omega
      have hm2 : (l + r) / 2 < r := by omega
      have p2 : 2 ^ (k + 1) = 2 * 2 ^ k := by rw [Nat.pow_succ]; omega
      have em : ((l : Int) + (r : Int)).fdiv (2 ^ (1 : Int).toNat) = (((l + r) / 2 : Nat) : Int) := by
        rw [show (2 : Int) ^ (1 : Int).toNat = 2 from rfl, Int.fdiv_eq_ediv_of_nonneg _ (by decide)]; omega
      have hkj : n * (r - l) ≤ 1000 * 4096 := Nat.mul_le_mul hn2 (by omega)
      generalize hm : (l + r) / 2 = m at hm1 hm2 em
      have es : (((m : Nat) : Int) - (l : Int)) * (n : Int) = (((m - l) * n : Nat) : Int) := by rw [Int.natCast_mul, Int.natCast_sub (by omega)]
      refine wpAny_execs_cons (ExS.use (o := .next _) (exs_if_f (ts_cmp (ev_binop (ev_name rfl rfl rfl) ev_int op_add_int) (ev_name rfl rfl rfl) (op_eq_int.is (c' := .bool false) ?_) rfl) ex_nil) ok env' _ _ _ _ s.heap (hal.h.dom x2.dom) n₂ hsc' hA' hf' (g₁.ext x) x2 f' fun fl h₃ t₃ n₃ e₃ k₃ o₃ => ?_)
      · have : ¬ ((l : Int) + 1 = (r : Int)) := by omega
        simp [this]
      obtain ⟨rfl, f₃⟩ := o₃
      refine wpAny_execs_cons (ExS.use (o := .next _) (exs_assign (ev_binop (ev_binop (ev_name rfl rfl rfl) (ev_name rfl rfl rfl) op_add_int) ev_int ((op_shr_int (by decide)).is (congrArg D.int em))) (.inl rfl) (fun _ _ => rfl)) ok env' _ _ _ _ s.heap (hal.h.dom (x2.dom.trans k₃.dom)) n₃ hsc' hA' hf' (g₁.ext x) e₃ f₃ fun fl h₄ t₄ n₄ e₄ k₄ o₄ => ?_)
      obtain ⟨rfl, f₄⟩ := o₄
      refine wpAny_execs_cons (ExS.use (o := .next _) (exs_assign (ev_binop (ev_binop (ev_name rfl rfl rfl) (ev_name rfl rfl rfl) op_sub_int) (ev_name rfl rfl rfl) ((op_mul_int ?_).is (congrArg D.int es))) (.inl rfl) (fun _ _ => rfl)) ok env' _ _ _ _ s.heap (hal.h.dom ((x2.dom.trans k₃.dom).trans k₄.dom)) n₄ hsc' hA' hf' (g₁.ext x) e₄ f₄ fun fl h₅ t₅ n₅ e₅ k₅ o₅ => ?_)
      · exact IntMulOk.of_right (intBits_le_64 (by omega) (by omega))
      obtain ⟨rfl, f₅⟩ := o₅
      have al₅ : AlH ok h₅ := hal.h.dom (((x2.dom.trans k₃.dom).trans k₄.dom).trans k₅.dom)
      have gs := g₁.ext x
      refine wpAny_execs_cons (wpAny_Return_some (wpAny_BinOp (wpAny_BinOp ?_)))
      refine call_inner (C := C1 w mg mb) (ok := ok) (k := k + 1) (sc := env'.scope) (x := Str.ofString "inner") rfl rfl rfl ⟨al₅, n₅⟩ rfl hA' f₅ (gs.ext e₅) (e₅.keep_cls (F.ext g₁ x).obj (by simp)) rfl (evs_cons (ev_name rfl rfl rfl) (evs_cons (ev_name rfl rfl rfl) evs_nil (fun _ => rfl)) (fun _ => rfl)) (fun _ => rfl) fun vs h₆ t₆ n₆ x₆ r₆ => ?_
      obtain ⟨v1, v2, rfl, ra, rb⟩ := r₆.two
      obtain ⟨w1, rfl⟩ := ra.asInt
      obtain ⟨w2, rfl⟩ := rb.asInt
      have e6 := e₅.trans x₆
      refine ih m r _ _ _ _ w1 w2 hm2 (by omega) h3 ⟨al₅.ext x₆, n₆⟩ hA' (x.trans e6) fun t7 h₇ t₇ n₇ x₇ => ?_
      have e7 := e6.trans x₇
      have f₇ := f₅.ext (x₆.trans x₇)
      refine (ev_name (C := C1 w mg mb) (k := k + 1) (sc := env'.scope) (x := Str.ofString "shift") rfl rfl rfl).use ok env' _ _ _ _ ⟨al₅.ext (x₆.trans x₇), n₇⟩ rfl hA' f₇ (gs.ext e7) fun vs h₈ t₈ n₈ x₈ r₈ => ?_
      obtain ⟨w3, rfl⟩ := r₈.asInt
      have e8 := e7.trans x₈
      have al₈ := al₅.ext ((x₆.trans x₇).trans x₈)
      refine (op_shl_int (C := C1 w mg mb) ?_ ?_).use ok _ _ _ _ _ _ ⟨al₈, n₈⟩ hA'.hd hA'.cl (gs.ext e8) (.int _ _) (.int _ _) fun vs h₉ t₉ n₉ x₉ r₉ => ?_
      · omega
      · have := dpart_bits (n := n) (B := B) (xs := xs) (l := m) (r := r) hn hB
        have h5 : n * (r - m) + n * (m - l) = n * (r - l) := by rw [← Nat.mul_add]; congr 1; omega
        rw [Nat.mul_comm (m - l) n]
        omega
      obtain ⟨w4, rfl⟩ := r₉.asInt
      have e9 := e8.trans x₉
      have f₉ := f₇.ext (x₈.trans x₉)
      refine call_inner (C := C1 w mg mb) (ok := ok) (k := k + 1) (sc := env'.scope) (x := Str.ofString "inner") rfl rfl rfl ⟨al₈.ext x₉, n₉⟩ rfl hA' f₉ (gs.ext e9) (e9.keep_cls (F.ext g₁ x).obj (by simp)) rfl (evs_cons (ev_name rfl rfl rfl) (evs_cons (ev_name rfl rfl rfl) evs_nil (fun _ => rfl)) (fun _ => rfl)) (fun _ => rfl) fun vs h₁₀ t₁₀ n₁₀ x₁₀ r₁₀ => ?_
      obtain ⟨v1, v2, rfl, ra, rb⟩ := r₁₀.two
      obtain ⟨w5, rfl⟩ := ra.asInt
      obtain ⟨w6, rfl⟩ := rb.asInt
      have e10 := e9.trans x₁₀
      refine ih l m _ _ _ _ w5 w6 hm1 (by omega) (by omega) ⟨(al₈.ext x₉).ext x₁₀, n₁₀⟩ hA' (x.trans e10) fun t11 h₁₁ t₁₁ n₁₁ x₁₁ => ?_
      have e11 := e10.trans x₁₁
      refine (op_add_int (C := C1 w mg mb)).use ok _ _ _ _ _ _ ⟨((al₈.ext x₉).ext x₁₀).ext x₁₁, n₁₁⟩ hA'.hd hA'.cl (gs.ext e11) (.int _ _) (.int _ _) fun vs h₁₂ t₁₂ n₁₂ x₁₂ r₁₂ => ?_
      obtain ⟨w7, rfl⟩ := r₁₂.asInt
      have := q w7 h₁₂ t₁₂ n₁₂ (e11.trans x₁₂)
      rw [dpart_split (m := m) (by omega) (by omega) h3] at this
      exact this
  have al₁ : AlH ok h₁ := hal.dom k₁.dom
  by_cases hx : xs = []
  · subst hx
    refine ExT.use (k := j + 2) (o := .ret (.int 0)) ?_ ok env _ _ _ _ h₀ al₁ n₁ hsc hA hf g e₁ f₁ fun fl h₃ t₃ n₃ e₃ k₃ o₃ => q fl h₃ t₃ e₃ (k₁.some.trans k₃) o₃
    exact ex_cons_ret (exs_ret (ev_ifexp_f (ts_list (xs := []) (ev_name rfl rfl rfl) (by decide) (fun _ _ => rfl)) ev_int))
  · refine wpAny_execs_cons (wpAny_Return_some (wpAny_IfExp ((ts_list (C := C1 w mg mb) (k := j + 2) (σ := (Str.ofString "inner", .val (.ref fi)) :: [(Str.ofString "digits", .list (dInts xs)), (Str.ofString "n", .int n)]) (ev_name (x := Str.ofString "digits") rfl rfl rfl) (by rw [List.length_map]; omega) (fun _ _ => rfl)).use ok env _ _ _ _ ⟨al₁, n₁⟩ hsc hA f₁ g₁ fun h₂ t₂ n₂ x₂ => ?_)))
    have : (!(dInts xs).isEmpty) = true := by cases xs with | nil => exact absurd rfl hx | cons a b => rfl
    rw [this]
    have f₂ := f₁.ext x₂
    refine call_inner (C := C1 w mg mb) (ok := ok) (k := j + 2) (sc := _) (x := Str.ofString "inner") rfl rfl rfl ⟨al₁.ext x₂, n₂⟩ hsc hA f₂ (g₁.ext x₂) (x₂.keep_cls F.obj (by simp)) rfl (evs_cons ev_int (evs_cons (ev_call_builtin (id := "len") rfl rfl (by kernel_rfl) (by decide) rfl (evs_cons (ev_name rfl rfl rfl) evs_nil (fun _ => rfl)) (ct_len (xs := dInts xs) (by rw [List.length_map]; omega)) (fun _ => rfl) (fun _ => rfl)) evs_nil (fun _ => rfl)) (fun _ => rfl)) (fun _ => rfl) fun vs h₃ t₃ n₃ x₃ r₃ => ?_
    obtain ⟨v1, v2, rfl, ra, rb⟩ := r₃.two
    obtain ⟨w5, rfl⟩ := ra.asInt
    obtain ⟨w6, rfl⟩ := rb.asInt
    have hl : (dInts xs).length = xs.length := List.length_map ..
    rw [hl]
    have hpos : 0 < xs.length := List.length_pos_iff.mpr hx
    refine inner j 0 xs.length _ _ _ _ w5 w6 hpos (by omega) (Nat.le_refl _) ⟨(al₁.ext x₂).ext x₃, n₃⟩ (hA.le (by omega)) (x₂.trans x₃) fun t4 h₄ t₄ n₄ x₄ => ?_
    have x24 := (x₂.trans x₃).trans x₄
    refine q _ h₄ t₄ (e₁.trans x24) (k₁.some.trans x24.kd) ⟨_, rfl, ?_⟩
    have : dpart n xs 0 xs.length = dsum n xs := by unfold dpart; simp
    rw [this]; exact .int _ _
end
end Mine
namespace Mine
variable {C : Cx} {ok : Addr → Prop}

abbrev hid (h : Heap) (a : Addr) : Heap := hideAll h [a]
theorem hid_sub {h : Heap} {a b : Addr} {o : Obj} (e : (hid h a).get? b = some o) : h.get? b = some o := of_hideAll _ e
theorem hid_get {h : Heap} {a b : Addr} {o : Obj} (e : h.get? b = some o) (hb : b ≠ a) : (hid h a).get? b = some o := hideAll_get _ e (by simpa using hb)
theorem hid_none {h : Heap} {a : Addr} : (hid h a).get? a = none := hideAll_none _ (by simp)

/-- a heap without a list is extended by what the heap was -/
theorem ext_hid {h₀ h : Heap} {a : Addr} {vs : Array Value} {n : Nat} (e : Ext C h₀ h) (ha : h₀.get? a = none) (l : h.get? a = some { cls := .type "list", data := .seq vs n }) : Ext C h₀ (hid h a) where
  keep := fun b o eb nt => hid_get (e.keep b o eb nt) fun z => by subst z; rw [ha] at eb; cases eb
  tab := fun b vs eb => let ⟨m, r⟩ := e.tab b vs eb; ⟨m, hid_get r fun z => by subst z; rw [ha] at eb; cases eb⟩
  tab' := fun b o vs eb hc hd => let ⟨o', r⟩ := e.tab' b o vs eb hc hd; ⟨o', hid_get r fun z => by subst z; rw [ha] at eb; cases eb⟩
  inv := fun z q hq => by
    obtain ⟨ps, hc, ht, r⟩ := e.inv z q hq
    have ne : ∀ b ob us, h.get? b = some ob → ob.data = .fields us → b ≠ a := fun b ob us eb hv hb => by
      subst hb; rw [l] at eb; cases eb; cases hv
    obtain ⟨o, us, f, tf, fl, tg, b, n', tt, op, f1, f2, f3, f4, f5, f6, f7, f8, f9, f10⟩ := hc
    obtain ⟨⟨o2, us2, g1, g2, g3, g4⟩, g5⟩ := ht
    refine ⟨ps, ⟨o, us, f, tf, fl, tg, b, n', tt, op, hid_get f1 (ne _ _ _ f1 f2), f2, f3, f4, f5, f6, f7, hid_get f8 (ne _ _ _ f8 f9), f9, f10⟩, ⟨⟨o2, us2, hid_get g1 (ne _ _ _ g1 g3), g2, g3, g4⟩, hid_get g5 (ne _ _ _ g5 rfl)⟩, ?_⟩
    rcases r with r | ⟨c', ec, c, oc, vs', t, e1, e2, e3, e4⟩
    · exact .inl r
    · exact .inr ⟨c', ec, c, oc, vs', t, e1, hid_get e2 (ne _ _ _ e2 e3), e3, e4⟩
theorem hid_ext {h : Heap} {a : Addr} : Ext C (hid h a) h := .of_keeps fun _ _ e => hid_sub e
theorem codeRec_hid {h : Heap} {a : Addr} {vs : Array Value} {n : Nat} (l : h.get? a = some { cls := .type "list", data := .seq vs n }) {cd : Value} {q : Str} (x : h.CodeRec cd q) : (hid h a).CodeRec cd q := by
  obtain ⟨c, o, us, t, e1, e2, e3, e4⟩ := x
  exact ⟨c, o, us, t, e1, hid_get e2 (fun hb => by subst hb; rw [l] at e2; cases e2; cases e3), e3, e4⟩
theorem FnMade.hid {h : Heap} {a : Addr} {vs : Array Value} {n : Nat} (l : h.get? a = some { cls := .type "list", data := .seq vs n }) {fi : Addr} {name qual : Str} {params : Arguments} {body : List Stmt} {isc : Scope} {clos : List (Str × Addr)} {fd : FuncData} (x : FnMade h fi name qual params body isc clos fd) :
    FnMade (hid h a) fi name qual params body isc clos fd :=
  ⟨hid_get x.obj (fun z => by subst z; have := x.obj; rw [l] at this; simp at this), x.isf, codeRec_hid l x.cd⟩
theorem FnMade.sub {h h' : Heap} (k : ∀ b o, h.get? b = some o → h'.get? b = some o) {fi : Addr} {name qual : Str} {params : Arguments} {body : List Stmt} {isc : Scope} {clos : List (Str × Addr)} {fd : FuncData} (x : FnMade h fi name qual params body isc clos fd) :
    FnMade h' fi name qual params body isc clos fd := ⟨k _ _ x.obj, x.isf, x.cd.keeps k⟩
theorem cell_hid {h : Heap} {a c : Addr} {v : Option Value} {vs : Array Value} {n : Nat} (l : h.get? a = some { cls := .type "list", data := .seq vs n }) (x : h.IsCell c v) : (hid h a).IsCell c v := by
  obtain ⟨o, e, hd⟩ := x
  exact ⟨o, hid_get e (fun z => by subst z; rw [l] at e; cases e; cases hd), hd⟩

/-- the own list was changed by a call, and all else is as the call's base tells -/
theorem FS.putX {env : Env} {σ : Store} {h h' : Heap} {x : Str} {a : Addr} {ds ds' : List D} {vs vs' : Array Value} {n n' : Nat} (f : FS C ok env σ h) (hx : σ.lookup x = some (.mut a ds)) (hu : onlyMut x σ = true)
    (o : OwnAt C ok env h a vs n ds) (e : Ext C (hid h a) h') (l : h'.get? a = some { cls := .type "list", data := .seq vs' n' }) (r : RepL C ok h' ds' vs'.toList) : FS C ok env ((x, .mut a ds') :: σ) h' := by
  have kp : ∀ b ob, ok b → h.get? b = some ob → (hid h a).get? b = some ob := fun b ob hb eb => hid_get eb (fun z => by subst z; exact o.no hb)
  have ns : ∀ L' m', h.Ns L' m' → h'.Ns L' m' := by
    rintro L' m' ⟨ob, es, ep, eb, hd, rest⟩
    refine e.ns ⟨ob, es, ep, hid_get eb ?_, hd, rest⟩
    rintro rfl
    rw [o.obj] at eb; cases eb; cases hd
  have nc : ∀ c v, h.IsCell c v → h'.IsCell c v := fun c v z => e.isCell (cell_hid o.obj z)
  have new : ∀ v, RepM C ok env.locals h (.mut a ds) v → RepM C ok env.locals h' (.mut a ds') v := fun v hr => by
    cases hr.asOwn
    exact .inr ⟨a, vs', n', ds', rfl, rfl, ⟨o.no, o.lo⟩, l, r⟩
  have old : ∀ y d v, σ.lookup y = some d → y ≠ x → RepM C ok env.locals h d v → RepM C ok env.locals h' d v := fun y d v ey hy hr => .inl (((hr.rep (onlyMut_spec hu ey hy)).but kp).ext e)
  refine ⟨f.fn, f.gl, f.bl, ?_, fun y d ey kk => ?_, fun y kk => ?_, f.apart⟩
  · obtain ⟨m, hn, hm⟩ := f.ns
    refine ⟨m, ns _ _ hn, fun y d ey kk => ?_⟩
    by_cases hy : y = x
    · subst hy
      rw [lookup_cons_eq] at ey; cases ey
      obtain ⟨v, h1, h2⟩ := hm _ _ hx kk
      exact ⟨v, h1, new v h2⟩
    · rw [lookup_cons_ne hy] at ey
      obtain ⟨v, h1, h2⟩ := hm _ _ ey kk
      exact ⟨v, h1, old y d v ey hy h2⟩
  · by_cases hy : y = x
    · subst hy
      rw [lookup_cons_eq] at ey; cases ey
      obtain ⟨h0, c, v, h1, h2, h3⟩ := f.cell _ _ hx kk
      exact ⟨h0, c, v, h1, nc _ _ h2, new v h3⟩
    · rw [lookup_cons_ne hy] at ey
      obtain ⟨h0, c, v, h1, h2, h3⟩ := f.cell _ _ ey kk
      exact ⟨h0, c, v, h1, nc _ _ h2, old y d v ey hy h3⟩
  · obtain ⟨c, v, h1, h2⟩ := f.cells y kk
    exact ⟨c, v, h1, nc _ _ h2⟩
theorem kd_ownX {L : Addr} {h h' : Heap} {a : Addr} {o' : Obj} (no : ¬ ok a) (e : Ext C (hid h a) h') (l : h'.get? a = some o') : KD L ok h h' := by
  refine ⟨fun b ob hb eb hD => (e.kd (L := L) (ok := every)).k b ob trivial (hid_get eb (fun z => by subst z; exact no hb)) hD, fun b eb => ?_⟩
  by_cases hb : b = a
  · subst hb; rw [l] at eb; cases eb
  · have := e.fresh eb
    cases q : h.get? b with
    | none => rfl
    | some o => rw [hid_get q hb] at this; cases this
def D.scal : D → Bool
  | .none | .bool _ | .int _ | .str _ | .val _ => true
  | _ => false
theorem Rep.scal {ok' : Addr → Prop} {h h' : Heap} {d : D} {v : Value} (r : Rep C ok h d v) (hs : d.scal = true) : Rep C ok' h' d v := by
  cases r with
  | none => exact .none
  | bool b => exact .bool b
  | int i t => exact .int i t
  | str x t => exact .str x t
  | val v => exact .val v
  | list => cases hs
  | tuple => cases hs
  | dict => cases hs
/-- a frame that holds scalars alone, over the change of a list -/
theorem FS.over {env : Env} {σ : Store} {h h' : Heap} {a : Addr} {vs : Array Value} {n : Nat} (f : FS C ok env σ h) (hs : (σ.all fun p => p.2.scal) = true) (l : h.get? a = some { cls := .type "list", data := .seq vs n }) (e : Ext C (hid h a) h') : FS C ok env σ h' := by
  have sc : ∀ x d, σ.lookup x = some d → d.scal = true := fun x d ex => List.all_eq_true.mp hs (x, d) (mem_of_lookup ex)
  have rp : ∀ {x d v}, σ.lookup x = some d → RepM C ok env.locals h d v → RepM C ok env.locals h' d v := fun {x d v} ex r => .inl ((r.rep (by have := sc x d ex; cases d <;> first | rfl | cases this)).scal (sc x d ex))
  refine ⟨f.fn, f.gl, f.bl, ?_, fun y d ey kk => ?_, fun y kk => ?_, f.apart⟩
  · obtain ⟨m, ⟨ob, es, ep, eb, hd, rest⟩, hm⟩ := f.ns
    refine ⟨m, e.ns ⟨ob, es, ep, hid_get eb ?_, hd, rest⟩, fun y d ey kk => let ⟨v, h1, h2⟩ := hm y d ey kk; ⟨v, h1, rp ey h2⟩⟩
    intro z
    rw [z, l] at eb; cases eb; cases hd
  · obtain ⟨h0, c, v, h1, h2, h3⟩ := f.cell y d ey kk
    exact ⟨h0, c, v, h1, e.isCell (cell_hid l h2), rp ey h3⟩
  · obtain ⟨c, v, h1, h2⟩ := f.cells y kk
    exact ⟨c, v, h1, e.isCell (cell_hid l h2)⟩
end Mine
set_option maxRecDepth 100000
namespace Mine

def ndig (n : Nat) : Nat → Nat → List Nat
  | 0, _ => []
  | m + 1, x => x % 2 ^ n :: ndig n m (x / 2 ^ n)
theorem ndig_length (n : Nat) : ∀ m x, (ndig n m x).length = m
  | 0, _ => rfl
  | m + 1, x => by simp [ndig, ndig_length n m]
theorem ndig_add (n : Nat) : ∀ m₁ m₂ x, ndig n (m₁ + m₂) x = ndig n m₁ (x % 2 ^ (n * m₁)) ++ ndig n m₂ (x / 2 ^ (n * m₁))
  | 0, m₂, x => by simp [ndig]
  | m + 1, m₂, x => by
    have e : 2 ^ (n * (m + 1)) = 2 ^ n * 2 ^ (n * m) := by rw [← Nat.pow_add]; congr 1; rw [Nat.mul_succ]; omega
    rw [show m + 1 + m₂ = (m + m₂) + 1 by omega, ndig, ndig, ndig_add n m m₂, e, Nat.mod_mul_right_div_self, Nat.div_div_eq_div_mul, List.cons_append, Nat.mod_mul_right_mod]
theorem ndig_one {n x : Nat} (h : x < 2 ^ n) : ndig n 1 x = [x] := by simp [ndig, Nat.mod_eq_of_lt h]
theorem low_or (x s : Nat) : x ||| (x / 2 ^ s * 2 ^ s) = x := by
  apply Nat.eq_of_testBit_eq
  intro i
  rw [Nat.testBit_or, ← Nat.shiftLeft_eq, Nat.testBit_shiftLeft, ← Nat.shiftRight_eq_div_pow, Nat.testBit_shiftRight]
  by_cases h : s ≤ i
  · simp [h, Nat.add_sub_cancel' h]
  · simp [h]
theorem low_and (x s : Nat) : x &&& (x / 2 ^ s * 2 ^ s) = x / 2 ^ s * 2 ^ s := by
  apply Nat.eq_of_testBit_eq
  intro i
  rw [Nat.testBit_and, ← Nat.shiftLeft_eq, Nat.testBit_shiftLeft, ← Nat.shiftRight_eq_div_pow, Nat.testBit_shiftRight]
  by_cases h : s ≤ i
  · simp [h, Nat.add_sub_cancel' h]
  · simp [h]
theorem xor_low_int (x s : Nat) : Builtin.bitXor (x : Int) ((x / 2 ^ s : Nat) * 2 ^ s : Int) = ((x % 2 ^ s : Nat) : Int) := by
  have e : ((x / 2 ^ s : Nat) * 2 ^ s : Int) = ((x / 2 ^ s * 2 ^ s : Nat) : Int) := by simp
  have h1 := low_or x s
  have h2 := low_and x s
  rw [e]
  generalize hy : x / 2 ^ s * 2 ^ s = y at h1 h2
  have h3 : Builtin.bitOr (x : Int) (y : Int) = ((x ||| y : Nat) : Int) := by
    have a1 : decide (0 ≤ Builtin.bitNot (x : Int)) = false := by simp [Builtin.bitNot]; omega
    have a2 : decide (0 ≤ Builtin.bitNot (y : Int)) = false := by simp [Builtin.bitNot]; omega
    have a3 : ∀ z : Int, Builtin.bitNot (Builtin.bitNot z) = z := fun z => by unfold Builtin.bitNot; omega
    unfold Builtin.bitOr Builtin.bitAnd
    rw [a1, a2]
    simp only [a3, Int.toNat_natCast]
  have h4 : Builtin.bitAnd (x : Int) (y : Int) = ((x &&& y : Nat) : Int) := by
    unfold Builtin.bitAnd
    have b1 : decide (0 ≤ (x : Int)) = true := by simp
    have b2 : decide (0 ≤ (y : Int)) = true := by simp
    rw [b1, b2]
    simp only [Int.toNat_natCast]
  unfold Builtin.bitXor
  rw [h3, h4, h1, h2, ← hy]
  have := Nat.div_add_mod x (2 ^ s)
  rw [Nat.mul_comm] at this
  omega

def seg (zs : List Int) (l r : Nat) (new : List Nat) : List Int := zs.take l ++ new.map Int.ofNat ++ zs.drop r
theorem seg_length {zs : List Int} {l r : Nat} {new : List Nat} (h1 : l ≤ r) (h2 : r ≤ zs.length) (h3 : new.length = r - l) : (seg zs l r new).length = zs.length := by
  simp [seg]; omega
theorem seg_seg {zs : List Int} {l m r : Nat} {a b : List Nat} (h1 : l ≤ m) (h2 : m ≤ r) (h3 : r ≤ zs.length) (ha : a.length = m - l) (hb : b.length = r - m) : seg (seg zs l m a) m r b = seg zs l r (a ++ b) := by
  unfold seg
  have e1 : (zs.take l ++ a.map Int.ofNat).length = m := by simp; omega
  rw [List.take_append_of_le_length (by omega), List.take_of_length_le (by omega), List.drop_append, List.drop_eq_nil_of_le (by omega : (zs.take l ++ a.map Int.ofNat).length ≤ r), List.nil_append, e1, List.drop_drop, show m + (r - m) = r by omega, List.map_append]
  simp
theorem seg_one {zs : List Int} {l x : Nat} (h : l < zs.length) : seg zs l (l + 1) [x] = zs.set l (x : Int) := by
  unfold seg
  rw [List.set_eq_take_append_cons_drop, if_pos h]
  simp
theorem dInts_set (zs : List Int) (l : Nat) (x : Int) : (dInts zs).set l (.int x) = dInts (zs.set l x) := by
  simp [List.map_set]
theorem EvT.is {C : Cx} {k : Nat} {sc : Scope} {σ : Store} {e : Expr} {d d' : D} (h : EvT C k sc σ e d) (q : d = d') : EvT C k sc σ e d' := q ▸ h
theorem NewT.is {C : Cx} {k : Nat} {sc : Scope} {σ : Store} {e : Expr} {d d' : List D} (h : NewT C k sc σ e d) (q : d = d') : NewT C k sc σ e d' := q ▸ h
theorem flat_zeros (m : Nat) : (List.replicate m [D.int 0]).flatten = dInts (List.replicate m 0) := by
  induction m with
  | zero => rfl
  | succ m ih => rw [List.replicate_succ, List.flatten_cons, ih, List.replicate_succ]; rfl
theorem TsT.is {C : Cx} {k : Nat} {sc : Scope} {σ : Store} {e : Expr} {b b' : Bool} (h : TsT C k sc σ e b) (q : b = b') : TsT C k sc σ e b' := q ▸ h
theorem NewT.use {C : Cx} {k : Nat} {sc : Scope} {σ : Store} {e : Expr} {ds : List D} (x : NewT C k sc σ e ds) (ok : Addr → Prop) (env : Env) (A : Around) (s : Shared) (Q E : Value → Shared → Prop) (hal : Al ok s) (hsc : env.scope = sc) (hA : Room A k) (f : FS C ok env σ s.heap) (g : G C s.heap)
    (q : ∀ a vs n h' tk, 1 ≤ tk → env.locals < a → s.heap.get? a = none → ok a → Ext C s.heap h' → h'.get? a = some { cls := .type "list", data := .seq vs n } → RepL C (fun b => ok b ∧ b ≠ a) h' ds vs.toList →
      Q (.ref a) { s with heap := h', toks := tk }) : wpAny C.M A (eval e env) Q E s :=
  wpAny_with_toks hal.t (x ok env A s _ _ hal hsc hA f g fun a vs n h' tk a1 a2 a3 a4 a5 a6 nn => q a vs n h' tk nn a1 a2 a3 a4 a5 a6)
section
variable {w : World} {mg mb : Str → Option Value}
def idigN (n x : Nat) : Nat := (Builtin.Int.intBits (x : Int) + n - 1) / n
def idigs (n x : Nat) : List Int := (ndig n (idigN n x) x).map Int.ofNat

theorem i2d_ct {x n j : Nat} (hn : 1 ≤ n) (hn2 : n ≤ 1000) (hj : idigN n x ≤ 2 ^ j) (hj2 : j ≤ 12) :
    CT (C1 w mg mb) (j + 3) (.ref 59) [.int x, .int n] (.list (dInts (idigs n x))) := by
  refine ct_fun_env (k := j + 2) (names := ["a", "n"]) (o := _) rfl rfl ⟨_, _, _, _, rfl, rfl, rfl, rfl⟩ rfl rfl rfl rfl rfl rfl rfl (by decide +kernel) (by decide +kernel) rfl (by decide +kernel) (by rintro (_ | ⟨v, _ | ⟨w, _ | ⟨u, _⟩⟩⟩) h <;> first | rfl | simp at h) ?_
  intro L ok env A s Q E h₀ hal ht henv hA hf g e f q
  have hsc := congrArg Env.scope henv
  dsimp only [List.zip, List.zipWith] at f
  have hcells : env.cells = [(Str.ofString "inner", L + 3), (Str.ofString "a_digits", L + 2), (Str.ofString "n", L + 1)] := by rw [henv]; rfl
  generalize hN : idigN n x = N at hj
  have hN' : N ≤ 4096 := Nat.le_trans hj (Nat.pow_le_pow_right (by decide) hj2)
  have eN : (((Builtin.Int.intBits (x : Int) : Nat) : Int) + (n : Int) - 1).fdiv (n : Int) = (N : Int) := by
    rw [← hN]; unfold idigN
    rw [Int.fdiv_eq_ediv_of_nonneg _ (by omega)]
    have : ((Builtin.Int.intBits (x : Int) : Nat) : Int) + (n : Int) - 1 = ((Builtin.Int.intBits (x : Int) + n - 1 : Nat) : Int) := by omega
    rw [this]; exact (Int.natCast_ediv _ _).symm
  have hxN : x < 2 ^ (n * N) := by
    have h1 : x < 2 ^ Builtin.Int.intBits (x : Int) := by simpa using intBits_le_iff.mp (Nat.le_refl (Builtin.Int.intBits (x : Int)))
    refine Nat.lt_of_lt_of_le h1 (Nat.pow_le_pow_right (by decide) ?_)
    rw [← hN]; unfold idigN
    have := Nat.div_add_mod (Builtin.Int.intBits (x : Int) + n - 1) n
    have := Nat.mod_lt (Builtin.Int.intBits (x : Int) + n - 1) (show 0 < n by omega)
    omega
  refine wpAny_execs_cons (wpAny_Assign_Name ?_ rfl)
  refine NewT.use (C := C1 w mg mb) (k := j + 2) (ds := dInts (List.replicate N 0)) ?_ ok env A s _ E ⟨hal, ht⟩ hsc hA f (g.ext e) fun a vs nn h₁ t₁ n₁ hlo hfr hok x₁ l₁ r₁ => ?_
  · refine NewT.is (new_binop (ev_list (ds := [.int 0]) (evs_cons ev_int evs_nil (fun _ => rfl)) (by decide))
      ((ev_binop (ev_binop (ev_binop (ev_meth0 (od := .int x) (ev_name rfl rfl rfl) F.plainAttrs_int F.slot_int_bit_length F.type_int_bit_length ct_bitlen (fun _ => rfl) rfl) (ev_name rfl rfl rfl) op_add_int) ev_int op_sub_int) (ev_name rfl rfl rfl) (op_div_int ?_ ?_)).is (congrArg D.int eN)) (opn_mullist ?_ ?_ ?_)) ?_
    · omega
    · exact PyProof.noPylong_small (by omega)
    · omega
    · simp; omega
    · omega
    · exact flat_zeros N
  have f₁ : FS (C1 w mg mb) (fun b => ok b ∧ b ≠ a) env _ h₁ := (f.narrow (fun b o eb z => ⟨z, fun q => by subst q; rw [hfr] at eb; cases eb⟩) fun b z => z.1).ext x₁
  refine wpAny_with_toks (s := { s with heap := h₁, toks := t₁ }) n₁ (store_own (C := C1 w mg mb) (ok := fun b => ok b ∧ b ≠ a) (ds := dInts (List.replicate N 0)) (h₀ := h₀) (.inr (by rw [henv]; rfl)) hf (e.trans x₁) f₁ ⟨fun z => z.2 rfl, hlo, l₁, r₁⟩ fun h₂ t₂ e₂ k₂ f₂ n₂ => ?_)
  have l₂ : h₂.get? a = some { cls := .type "list", data := .seq vs nn } := k₂.k _ _ trivial l₁ (.inl (.inl ⟨_, _, rfl⟩))
  refine wpAny_execs_cons (wpAny_with_toks (s := { s with heap := h₂, toks := t₂ }) n₂ ?_)
  refine def_run (C := C1 w mg mb) (ok := fun b => ok b ∧ b ≠ a) (name := Str.ofString "inner") (qual := Str.ofString "_int2digits.<locals>.inner") (c := 58) (P := 54) (clos := [(Str.ofString "n", L + 1), (Str.ofString "inner", L + 3), (Str.ofString "a_digits", L + 2)])
    (by unfold C1; exact List.mem_cons_self) ?_ ?_ (by rw [henv]; rfl) (by rw [henv]; rfl) ?_ rfl rfl rfl (.inr (by rw [henv]; rfl)) hf g e₂ f₂ fun fi fd h₃ t₃ e₃ k₃ f₃ F _ n₃ => ?_
  · intro q' hq' hP
    simp only [C1, List.mem_cons, List.not_mem_nil, or_false] at hq'
    rcases hq' with rfl | rfl
    · rfl
    · exact absurd hP (by decide)
  · intro q' hq'
    simp only [C1, List.mem_cons, List.not_mem_nil, or_false] at hq'
    rcases hq' with rfl | rfl <;> exact (by decide)
  · refine (closureFor_eq ?_).trans (congrArg pure ?_)
    · rw [hcells]; intro x hx hk; simp only [List.mem_cons, List.not_mem_nil, or_false] at hx; rcases hx with rfl | rfl | rfl | rfl | rfl | rfl | rfl | rfl | rfl | rfl <;> first | rfl | cases hk
    · rw [hcells]; rfl
  have l₃ : h₃.get? a = some { cls := .type "list", data := .seq vs nn } := k₃.k _ _ trivial l₂ (.inl (.inl ⟨_, _, rfl⟩))
  have g₃ := g.ext e₃
  obtain ⟨_, cd, vd, cd1, cd2, cd3⟩ := f₃.cell (Str.ofString "a_digits") _ rfl (by rw [henv]; exact (by decide : (some NameKind.cell) ≠ some NameKind.local))
  obtain ⟨_, cn, vn, cn1, cn2, cn3⟩ := f₃.cell (Str.ofString "n") _ rfl (by rw [henv]; exact (by decide : (some NameKind.cell) ≠ some NameKind.local))
  obtain ⟨_, ci, vi, ci1, ci2, ci3⟩ := f₃.cell (Str.ofString "inner") _ rfl (by rw [henv]; exact (by decide : (some NameKind.cell) ≠ some NameKind.local))
  rw [hcells] at cd1 cn1 ci1
  cases cd3.asOwn
  replace cn3 := cn3.rep rfl
  replace ci3 := ci3.rep rfl
  obtain ⟨tn, rfl⟩ := cn3.asInt
  cases ci3
  have ecd : cd = L + 2 := by have : some (L + 2) = some cd := cd1; cases this; rfl
  have ecn : cn = L + 1 := by have : some (L + 1) = some cn := cn1; cases this; rfl
  have eci : ci = L + 3 := by have : some (L + 3) = some ci := ci1; cases this; rfl
  subst ecd ecn eci
  have ha₀ : h₀.get? a = none := hf.abv _ hlo
  have e₃' : Ext (C1 w mg mb) h₀ (hid h₃ a) := ext_hid e₃ ha₀ l₃
  have gB := g.ext e₃'
  have FB := F.hid l₃
  have caB := cell_hid l₃ cd2
  have cnB := cell_hid l₃ cn2
  have ciB := cell_hid l₃ ci2
  have inner : ∀ (k : Nat) (x l r : Nat) (A : Around) (s : Shared) (Q E : Value → Shared → Prop) (u0 u1 u2 : Tok) (zs : List Int) (us : Array Value) (un : Nat), l < r → r - l ≤ 2 ^ k → r ≤ zs.length → zs.length ≤ 4096 → x < 2 ^ (n * (r - l)) → 1 ≤ s.toks → Room A (k + 1) →
      s.heap.get? a = some { cls := .type "list", data := .seq us un } → IntsAre us.toList zs → Ext (C1 w mg mb) (hid h₃ a) (hid s.heap a) →
      (∀ us' un' h' tk, 1 ≤ tk → Ext (C1 w mg mb) (hid s.heap a) h' → h'.get? a = some { cls := .type "list", data := .seq us' un' } → IntsAre us'.toList (seg zs l r (ndig n (r - l) x)) → Q .none { s with heap := h', toks := tk }) →
      wpAny (C1 w mg mb).M A (call (.ref fi) [.int x u0, .int l u1, .int r u2]) Q E s := by
    have enter : ∀ (k x l r : Nat) (A : Around) (s : Shared) (Q E : Value → Shared → Prop) (u0 u1 u2 : Tok), 1 ≤ s.toks → Room A (k + 1) → Ext (C1 w mg mb) (hid h₃ a) (hid s.heap a) → _ :=
      fun k x l r A s Q E u0 u1 u2 ht hA ex => inner_call (C := C1 w mg mb) (ok := every) (k := k) (hb := hid s.heap a) (A := A) (s := s) (Q := Q) (E := E) (vs := [.int x u0, .int l u1, .int r u2]) (names := [Str.ofString "x", Str.ofString "L", Str.ofString "R"]) (ds := [.int x, .int l, .int r]) (σc := [(Str.ofString "a_digits", .val (.ref a)), (Str.ofString "inner", .val (.ref fi)), (Str.ofString "n", .int n)])
        ((FB.ext gB ex).sub fun _ _ e => hid_sub e) (fun _ _ e => hid_sub e) ((gB.ext ex).nolimit.keeps fun _ _ e => hid_sub e) ht hA (.cons (.int _ _) (.cons (.int _ _) (.cons (.int _ _) .nil))) rfl rfl rfl (by decide) (by decide +kernel) rfl (by decide +kernel)
        (by rintro doc pm cv ctv (_ | ⟨v, _ | ⟨w, _ | ⟨u, _ | ⟨u', _⟩⟩⟩⟩) h <;> first | rfl | simp at h)
        (by simp)
        (by
          intro y d hy
          have := mem_of_lookup hy
          simp only [List.mem_cons, List.not_mem_nil, or_false, Prod.mk.injEq] at this
          rcases this with ⟨rfl, rfl⟩ | ⟨rfl, rfl⟩ | ⟨rfl, rfl⟩
          · exact ⟨rfl, L + 2, _, rfl, (ex.isCell caB).keeps (fun _ _ e => hid_sub e), .val _⟩
          · exact ⟨rfl, L + 3, _, rfl, (ex.isCell ciB).keeps (fun _ _ e => hid_sub e), .val _⟩
          · exact ⟨rfl, L + 1, _, rfl, (ex.isCell cnB).keeps (fun _ _ e => hid_sub e), .int _ _⟩)
        (by
          intro y hy
          have := mem_of_lookup hy
          simp only [List.mem_cons, List.not_mem_nil, or_false, Prod.mk.injEq] at this
          rcases this with ⟨rfl, h⟩ | ⟨rfl, h⟩ | ⟨rfl, h⟩ | ⟨rfl, h⟩ | ⟨rfl, h⟩ | ⟨rfl, h⟩ | ⟨rfl, h⟩ | ⟨rfl, h⟩ | ⟨rfl, h⟩ | ⟨rfl, h⟩
          · cases h
          · cases h
          · cases h
          · cases h
          · cases h
          · cases h
          · cases h
          · exact ⟨L + 2, _, rfl, (ex.isCell caB).keeps (fun _ _ e => hid_sub e)⟩
          · exact ⟨L + 3, _, rfl, (ex.isCell ciB).keeps (fun _ _ e => hid_sub e)⟩
          · exact ⟨L + 1, _, rfl, (ex.isCell cnB).keeps (fun _ _ e => hid_sub e)⟩)
    have base : ∀ (k : Nat) (x l r : Nat) (A : Around) (s : Shared) (Q E : Value → Shared → Prop) (u0 u1 u2 : Tok) (zs : List Int) (us : Array Value) (un : Nat), r = l + 1 → r ≤ zs.length → zs.length ≤ 4096 → x < 2 ^ (n * (r - l)) → 1 ≤ s.toks → Room A (k + 1) →
        s.heap.get? a = some { cls := .type "list", data := .seq us un } → IntsAre us.toList zs → Ext (C1 w mg mb) (hid h₃ a) (hid s.heap a) →
        (∀ us' un' h' tk, 1 ≤ tk → Ext (C1 w mg mb) (hid s.heap a) h' → h'.get? a = some { cls := .type "list", data := .seq us' un' } → IntsAre us'.toList (seg zs l r (ndig n (r - l) x)) → Q .none { s with heap := h', toks := tk }) →
        wpAny (C1 w mg mb).M A (call (.ref fi) [.int x u0, .int l u1, .int r u2]) Q E s := by
      intro k x l r A s Q E u0 u1 u2 zs us un hr hrz hz hx ht hA la iz ex q
      refine enter k x l r A s Q E u0 u1 u2 ht hA ex fun env' h₄ t₄ E' hsc' hf' kp f' n₄ hA' => ?_
      have x4 : Ext (C1 w mg mb) (hid s.heap a) h₄ := .of_keeps fun b o eb => kp b o (hid_sub eb)
      have gS := gB.ext ex
      refine wpAny_execs_cons (wpAny_If (TsT.use (k := k) (b := true) (ts_cmp (ev_binop (ev_name rfl rfl rfl) ev_int op_add_int) (ev_name rfl rfl rfl) (op_eq_int.is (c' := .bool true) ?_) rfl) every env' _ _ _ _ ⟨fun _ _ => trivial, n₄⟩ hsc' hA' f' (gS.ext x4) fun h₅ t₅ n₅ x₅ => ?_))
      · subst hr; simp
      have f₅ := f'.ext x₅
      have x45 := x4.trans x₅
      refine wpAny_execs_cons (wpAny_Assign_Subscript ?_ rfl)
      refine EvT.use (k := k) (d := .int x) (ev_name rfl rfl rfl) every env' _ _ _ _ ⟨fun _ _ => trivial, n₅⟩ hsc' hA' f₅ (gS.ext x45) fun v h₆ t₆ n₆ x₆ r₆ => ?_
      obtain ⟨tx, rfl⟩ := r₆.asInt
      refine EvT.use (k := k) (d := .val (.ref a)) (ev_name rfl rfl rfl) every env' _ _ _ _ ⟨fun _ _ => trivial, n₆⟩ hsc' hA' (f₅.ext x₆) (gS.ext (x45.trans x₆)) fun v h₇ t₇ n₇ x₇ r₇ => ?_
      cases r₇
      refine EvT.use (k := k) (d := .int l) (ev_name rfl rfl rfl) every env' _ _ _ _ ⟨fun _ _ => trivial, n₇⟩ hsc' hA' (f₅.ext (x₆.trans x₇)) (gS.ext (x45.trans (x₆.trans x₇))) fun v h₈ t₈ n₈ x₈ r₈ => ?_
      obtain ⟨tl, rfl⟩ := r₈.asInt
      have x48 := x45.trans ((x₆.trans x₇).trans x₈)
      have l₈ : h₈.get? a = some { cls := .type "list", data := .seq us un } := (x₅.trans ((x₆.trans x₇).trans x₈)).keep_cls (kp _ _ la) (by simp)
      have hus := iz.length
      rw [Array.length_toList] at hus
      refine setItem_plain (s := { s with heap := h₈, toks := t₈ }) l₈ (by omega) (by omega) (by omega) fun h₉ n₉ l₉ sb => ?_
      refine wpAny_execs_cons (wpAny_Return_none ?_)
      refine q _ n₉ h₉ t₈ n₈ (x48.store hid_none l₈ (by simp) sb) l₉ ?_
      subst hr
      rw [show l + 1 - l = 1 by omega, Nat.mul_one] at hx
      rw [show l + 1 - l = 1 by omega, ndig_one hx, seg_one (by omega), Array.toList_setIfInBounds]
      have := RepL.set (C := C1 w mg mb) (ok := every) (h := h₉) (Int.toNat (l : Int)) (repL_ints iz) (.int (x : Int) tx)
      rw [dInts_set] at this
      exact this.ints
    intro k
    induction k with
    | zero => exact fun x l r A s Q E u0 u1 u2 zs us un h1 h2 h3 h4 h5 => base 0 x l r A s Q E u0 u1 u2 zs us un (by simp at h2; omega) h3 h4 h5
    | succ k ih =>
      intro x l r A s Q E u0 u1 u2 zs us un h1 h2 h3 hz hx ht hA la iz ex q
      by_cases hr : r = l + 1
      · exact base (k + 1) x l r A s Q E u0 u1 u2 zs us un hr h3 hz hx ht hA la iz ex q
      refine enter (k + 1) x l r A s Q E u0 u1 u2 ht hA ex fun env' h₄ t₄ E' hsc' hf' kp f' n₄ hA' => ?_
      have x4 : Ext (C1 w mg mb) (hid s.heap a) h₄ := .of_keeps fun b o eb => kp b o (hid_sub eb)
      have gS := gB.ext ex
      have hm1 : l < (l + r) / 2 := by omega
      have hm2 : (l + r) / 2 < r := by omega
      have p2 : 2 ^ (k + 1) = 2 * 2 ^ k := by rw [Nat.pow_succ]; omega
      have em : ((l : Int) + (r : Int)).fdiv (2 ^ (1 : Int).toNat) = (((l + r) / 2 : Nat) : Int) := by
        rw [show (2 : Int) ^ (1 : Int).toNat = 2 from rfl, Int.fdiv_eq_ediv_of_nonneg _ (by decide)]; omega
      have hml : (l + r) / 2 - l ≤ 2 ^ k := by omega
      have hmr : r - (l + r) / 2 ≤ 2 ^ k := by omega
      generalize hm : (l + r) / 2 = m at hm1 hm2 em hml hmr
      have es : (((m : Nat) : Int) - (l : Int)) * (n : Int) = (((m - l) * n : Nat) : Int) := by rw [Int.natCast_mul, Int.natCast_sub (by omega)]
      have hs1 : (m - l) * n ≤ 4096 * 1000 := Nat.mul_le_mul (by omega) hn2
      have hs2 : n * (r - l) ≤ 1000 * 4096 := Nat.mul_le_mul hn2 (by omega)
      have hsm : (m - l) * n = n * (m - l) := Nat.mul_comm ..
      generalize hS : (m - l) * n = S at es hs1 hsm
      have eu : ((x : Nat) : Int).fdiv (2 ^ ((S : Nat) : Int).toNat) = ((x / 2 ^ S : Nat) : Int) := by
        rw [Int.toNat_natCast, Int.fdiv_eq_ediv_of_nonneg _ (Int.le_of_lt (Int.pow_pos (by decide)))]
        rw [Int.natCast_ediv, Int.natCast_pow]; rfl
      have elo : Builtin.bitXor (x : Int) (((x / 2 ^ S : Nat) : Int) * 2 ^ ((S : Nat) : Int).toNat) = ((x % 2 ^ S : Nat) : Int) := by
        rw [Int.toNat_natCast]; exact xor_low_int x S
      have hub : Builtin.Int.intBits ((x / 2 ^ S : Nat) : Int) ≤ n * (r - l) := intBits_le_iff.mpr (by
        rw [Int.natAbs_natCast]; exact Nat.lt_of_le_of_lt (Nat.div_le_self ..) hx)
      have dk : ∀ {L' : Addr} {h h' : Heap}, KD L' every h h' → h.get? a = some { cls := .type "list", data := .seq us un } → h'.get? a = some { cls := .type "list", data := .seq us un } := fun k l => k.k _ _ trivial l (.inl (.inl ⟨_, _, rfl⟩))
      refine wpAny_execs_cons (ExS.use (o := .next _) (exs_if_f (ts_cmp (ev_binop (ev_name rfl rfl rfl) ev_int op_add_int) (ev_name rfl rfl rfl) (op_eq_int.is (c' := .bool false) ?_) rfl) ex_nil) every env' _ _ _ _ (hid s.heap a) (fun _ _ => trivial) n₄ hsc' hA' hf' gS x4 f' fun fl h₅ t₅ n₅ e₅ k₅ o₅ => ?_)
      · have : ¬ ((l : Int) + 1 = (r : Int)) := by omega
        simp [this]
      obtain ⟨rfl, f₅⟩ := o₅
      refine wpAny_execs_cons (ExS.use (o := .next _) (exs_assign (ev_binop (ev_binop (ev_name rfl rfl rfl) (ev_name rfl rfl rfl) op_add_int) ev_int ((op_shr_int (by decide)).is (congrArg D.int em))) (.inl rfl) (fun _ _ => rfl)) every env' _ _ _ _ (hid s.heap a) (fun _ _ => trivial) n₅ hsc' hA' hf' gS e₅ f₅ fun fl h₆ t₆ n₆ e₆ k₆ o₆ => ?_)
      obtain ⟨rfl, f₆⟩ := o₆
      refine wpAny_execs_cons (ExS.use (o := .next _) (exs_assign (ev_binop (ev_binop (ev_name rfl rfl rfl) (ev_name rfl rfl rfl) op_sub_int) (ev_name rfl rfl rfl) ((op_mul_int ?_).is (congrArg D.int es))) (.inl rfl) (fun _ _ => rfl)) every env' _ _ _ _ (hid s.heap a) (fun _ _ => trivial) n₆ hsc' hA' hf' gS e₆ f₆ fun fl h₇ t₇ n₇ e₇ k₇ o₇ => ?_)
      · exact IntMulOk.of_right (intBits_le_64 (by omega) (by omega))
      obtain ⟨rfl, f₇⟩ := o₇
      refine wpAny_execs_cons (ExS.use (o := .next _) (exs_assign (ev_binop (ev_name rfl rfl rfl) (ev_name rfl rfl rfl) ((op_shr_int ?_).is (congrArg D.int eu))) (.inl rfl) (fun _ _ => rfl)) every env' _ _ _ _ (hid s.heap a) (fun _ _ => trivial) n₇ hsc' hA' hf' gS e₇ f₇ fun fl h₈ t₈ n₈ e₈ k₈ o₈ => ?_)
      · omega
      obtain ⟨rfl, f₈⟩ := o₈
      refine wpAny_execs_cons (ExS.use (o := .next _) (exs_assign (ev_binop (ev_name rfl rfl rfl) (ev_binop (ev_name rfl rfl rfl) (ev_name rfl rfl rfl) (op_shl_int ?_ ?_)) (op_xor_int.is (congrArg D.int elo))) (.inl rfl) (fun _ _ => rfl)) every env' _ _ _ _ (hid s.heap a) (fun _ _ => trivial) n₈ hsc' hA' hf' gS e₈ f₈ fun fl h₉ t₉ n₉ e₉ k₉ o₉ => ?_)
      · omega
      · omega
      obtain ⟨rfl, f₉⟩ := o₉
      have l₉ := dk k₉ (dk k₈ (dk k₇ (dk k₆ (dk k₅ (kp _ _ la)))))
      refine wpAny_execs_cons (wpAny_Expr_any ?_ ?_ rfl)
      rotate_left
      · unfold interactive; rw [hsc']; rfl
      refine call_inner (C := C1 w mg mb) (ok := every) (k := k + 1) (sc := env'.scope) (x := Str.ofString "inner") rfl rfl rfl ⟨fun _ _ => trivial, n₉⟩ rfl hA' f₉ (gS.ext e₉) (e₉.keep_cls (FB.ext gB ex).obj (by simp)) rfl (evs_cons (ev_name rfl rfl rfl) (evs_cons (ev_name rfl rfl rfl) (evs_cons (ev_name rfl rfl rfl) evs_nil (fun _ => rfl)) (fun _ => rfl)) (fun _ => rfl)) (fun _ => rfl) fun vs h₁₀ t₁₀ n₁₀ x₁₀ r₁₀ => ?_
      obtain ⟨v1, v2, v3, rfl, ra, rb, rc⟩ := r₁₀.three
      obtain ⟨w1, rfl⟩ := ra.asInt
      obtain ⟨w2, rfl⟩ := rb.asInt
      obtain ⟨w3, rfl⟩ := rc.asInt
      have e10 := e₉.trans x₁₀
      have l₁₀ : h₁₀.get? a = some { cls := .type "list", data := .seq us un } := dk (L' := 0) x₁₀.kd l₉
      have f₁₀ := f₉.ext x₁₀
      have eb10 : Ext (C1 w mg mb) (hid s.heap a) (hid h₁₀ a) := ext_hid e10 hid_none l₁₀
      refine ih (x % 2 ^ S) l m _ _ _ _ w1 w2 w3 zs us un hm1 hml (by omega) hz ?_ n₁₀ hA' l₁₀ iz (ex.trans eb10) fun us' un' h₁₁ t₁₁ n₁₁ x₁₁ l₁₁ i₁₁ => ?_
      · rw [hsm]; exact Nat.mod_lt _ (Nat.two_pow_pos _)
      have e11 := eb10.trans x₁₁
      have f₁₁ := f₁₀.over rfl l₁₀ x₁₁
      refine wpAny_execs_cons (wpAny_Expr_any ?_ ?_ rfl)
      rotate_left
      · unfold interactive; rw [hsc']; rfl
      refine call_inner (C := C1 w mg mb) (ok := every) (k := k + 1) (sc := env'.scope) (x := Str.ofString "inner") rfl rfl rfl ⟨fun _ _ => trivial, n₁₁⟩ rfl hA' f₁₁ (gS.ext e11) (e11.keep_cls (FB.ext gB ex).obj (by simp)) rfl (evs_cons (ev_name rfl rfl rfl) (evs_cons (ev_name rfl rfl rfl) (evs_cons (ev_name rfl rfl rfl) evs_nil (fun _ => rfl)) (fun _ => rfl)) (fun _ => rfl)) (fun _ => rfl) fun vs h₁₂ t₁₂ n₁₂ x₁₂ r₁₂ => ?_
      obtain ⟨v1, v2, v3, rfl, ra, rb, rc⟩ := r₁₂.three
      obtain ⟨w1, rfl⟩ := ra.asInt
      obtain ⟨w2, rfl⟩ := rb.asInt
      obtain ⟨w3, rfl⟩ := rc.asInt
      have e12 := e11.trans x₁₂
      have l₁₂ : h₁₂.get? a = some { cls := .type "list", data := .seq us' un' } := x₁₂.keep_cls l₁₁ (by simp)
      have eb12 : Ext (C1 w mg mb) (hid s.heap a) (hid h₁₂ a) := ext_hid e12 hid_none l₁₂
      have sl : (seg zs l m (ndig n (m - l) (x % 2 ^ S))).length = zs.length := seg_length (by omega) (by omega) (ndig_length ..)
      refine ih (x / 2 ^ S) m r _ _ _ _ w1 w2 w3 _ us' un' hm2 hmr (by omega) (by omega) ?_ n₁₂ hA' l₁₂ i₁₁ (ex.trans eb12) fun us'' un'' h₁₃ t₁₃ n₁₃ x₁₃ l₁₃ i₁₃ => ?_
      · rw [Nat.div_lt_iff_lt_mul (Nat.two_pow_pos _), ← Nat.pow_add]
        have : n * (r - m) + S = n * (r - l) := by rw [hsm, ← Nat.mul_add]; congr 1; omega
        rw [this]; exact hx
      refine wpAny_execs_nil (q us'' un'' h₁₃ t₁₃ n₁₃ (eb12.trans x₁₃) l₁₃ ?_)
      rw [seg_seg (by omega) (by omega) h3 (ndig_length ..) (ndig_length ..), hsm, ← ndig_add] at i₁₃
      rw [show m - l + (r - m) = r - l by omega] at i₁₃
      exact i₁₃
  have al₃ : AlH (fun b => ok b ∧ b ≠ a) h₃ := al_but (((hal.dom x₁.dom).dom k₂.dom).dom k₃.dom) ⟨_, l₃⟩
  have kdS : ∀ h', KD env.locals (fun b => ok b ∧ b ≠ a) h₃ h' → KD env.locals ok s.heap h' := fun h' k' => ⟨fun b ob hb eb hD => by
    have hne : b ≠ a := fun z => by subst z; rw [hfr] at eb; cases eb
    exact k'.k b ob ⟨hb, hne⟩ (k₃.k b ob trivial (k₂.k b ob trivial ((x₁.kd (ok := every)).k b ob trivial eb hD) hD) hD) hD, ((x₁.dom.trans k₂.dom).trans k₃.dom).trans k'.dom⟩
  by_cases hx0 : x = 0
  · have hN0 : N = 0 := by
      rw [← hN, hx0]; unfold idigN
      rw [show Builtin.Int.intBits ((0 : Nat) : Int) = 0 from rfl]
      exact Nat.div_eq_of_lt (by omega)
    refine wpAny_execs_cons (ExS.use (k := j + 2) (o := .next _) (exs_if_f ((ts_int (i := x) (ev_name rfl rfl rfl) (fun _ _ => rfl)).is (by rw [hx0]; rfl)) ex_nil) _ env _ _ _ _ h₀ al₃ n₃ hsc hA hf g e₃ f₃ fun fl h₄ t₄ n₄ e₄ k₄ o₄ => ?_)
    obtain ⟨rfl, f₄⟩ := o₄
    obtain ⟨us, un, ow⟩ := f₄.own (x := Str.ofString "a_digits") rfl
    refine wpAny_execs_cons (wpAny_Return_some (name_own f₄ (x := Str.ofString "a_digits") rfl rfl rfl ?_))
    refine q _ h₄ t₄ e₄ (kdS _ k₄) ⟨_, rfl, .list hok ow.obj ?_⟩
    have : idigs n x = List.replicate N 0 := by unfold idigs; rw [hN, hN0]; rfl
    rw [this]
    exact ow.rep.allow fun _ z => z.1
  · have hxi : (((x : Nat) : Int) != 0) = true := by simp; omega
    have hNpos : 0 < N := by
      rw [← hN]; unfold idigN
      have h1 : 1 ≤ Builtin.Int.intBits (x : Int) := by
        unfold Builtin.Int.intBits
        have : ((x : Int) == 0) = false := by simp; omega
        rw [this]; simp
      exact Nat.div_pos (by omega) (by omega)
    refine wpAny_execs_cons (wpAny_If (TsT.use (k := j + 2) (b := true) ((ts_int (i := x) (ev_name rfl rfl rfl) (fun _ _ => rfl)).is hxi) (fun b => ok b ∧ b ≠ a) env _ _ _ _ ⟨al₃, n₃⟩ hsc hA f₃ g₃ fun h₄ t₄ n₄ x₄ => ?_))
    have f₄ := f₃.ext x₄
    have al₄ := al₃.ext x₄
    refine wpAny_execs_cons (wpAny_Expr_any ?_ ?_ rfl)
    rotate_left
    · unfold interactive; rw [hsc]; rfl
    refine call_inner (C := C1 w mg mb) (ok := fun b => ok b ∧ b ≠ a) (k := j + 2) (ds := [.int x, .int 0, .int N]) (x := Str.ofString "inner") rfl rfl rfl ⟨al₄, n₄⟩ hsc hA f₄ (g₃.ext x₄) (x₄.keep_cls F.obj (by simp)) rfl (evs_cons (ev_name rfl rfl rfl) (evs_cons ev_int (evs_cons ?_ evs_nil (fun _ => rfl)) (fun _ => rfl)) (fun _ => rfl)) (fun _ => rfl) fun vs h₅ t₅ n₅ x₅ r₅ => ?_
    · refine ev_shown (x := Str.ofString "a_digits") (ds := dInts (List.replicate N 0)) rfl rfl ?_
      refine (ev_call_builtin (id := "len") rfl rfl (by kernel_rfl) (by decide) rfl (evs_cons (ev_name rfl rfl rfl) evs_nil (fun _ => rfl)) (ct_len (xs := dInts (List.replicate N 0)) (by simp; omega)) (fun _ => rfl) (fun _ => rfl)).is ?_
      simp
    obtain ⟨v1, v2, v3, rfl, ra, rb, rc⟩ := r₅.three
    obtain ⟨w1, rfl⟩ := ra.asInt
    obtain ⟨w2, rfl⟩ := rb.asInt
    obtain ⟨w3, rfl⟩ := rc.asInt
    have x45 := x₄.trans x₅
    have f₅ := f₄.ext x₅
    obtain ⟨us, un, ow⟩ := f₅.own (x := Str.ofString "a_digits") rfl
    have eb5 : Ext (C1 w mg mb) (hid h₃ a) (hid h₅ a) := ext_hid (hid_ext.trans x45) hid_none ow.obj
    refine inner j x 0 N _ _ _ _ w1 w2 w3 (List.replicate N 0) us un hNpos (by omega) (by simp) (by simp; omega) (by simpa using hxN) n₅ (hA.le (by omega)) ow.obj ow.rep.ints eb5 fun us' un' h₆ t₆ n₆ x₆ l₆ i₆ => ?_
    refine wpAny_execs_nil ?_
    have f₆ := f₅.putX (x := Str.ofString "a_digits") rfl rfl ow x₆ l₆ (ds' := dInts (seg (List.replicate N 0) 0 N (ndig n (N - 0) x))) (repL_ints i₆)
    refine wpAny_execs_cons (wpAny_Return_some (name_own f₆ (x := Str.ofString "a_digits") rfl rfl rfl ?_))
    have e6 : Ext (C1 w mg mb) h₀ h₆ := (ext_hid (e₃.trans x45) ha₀ ow.obj).trans x₆
    refine q _ h₆ t₆ e6 (kdS _ (x45.kd.trans (kd_ownX ow.no x₆ l₆))) ⟨_, rfl, .list hok l₆ ?_⟩
    have : idigs n x = seg (List.replicate N 0) 0 N (ndig n (N - 0) x) := by unfold idigs seg; rw [hN]; simp
    rw [this]
    exact repL_ints i₆
end
end Mine
namespace Mine
variable {C : Cx} {ok : Addr → Prop} {k : Nat} {sc : Scope} {σ : Store}

theorem exs_assign_tuple {ts : List Expr} {kk : Nat} {p pos : Pos} {value : Expr} {d : D} {σ' : Store} (hv : EvT C k sc σ value d) (ht : AsT C (fun _ => True) sc σ (.Tuple ts kk p) d σ')
    (hs : ∀ env : Env, env.scope = sc → swapsWithSole [.Tuple ts kk p] value pos.line env = pure false) (hw : ∀ env : Env, env.scope = sc → swappedStores [.Tuple ts kk p] value env = pure none) :
    ExS C k sc σ (.Assign [.Tuple ts kk p] value pos) (.next σ') := by
  intro ok env A s Q E h₀ hal hn hsc hA hf g e f q
  refine Assign_Tuple ?_ (hs env hsc) (hw env hsc)
  refine hv.use ok env A s _ E ⟨hal, hn⟩ hsc hA f (g.ext e) fun v h₁ t₁ n₁ x₁ r₁ => ?_
  exact ht ok env A _ _ E h₀ v hsc hA.hd hf g (e.trans x₁) (f.ext x₁) r₁ fun h₂ t₂ e₂ k₂ f₂ => q .next h₂ t₂ e₂ (x₁.kd.trans k₂.some) ⟨rfl, f₂⟩

theorem ev_global_int {x : Str} {p : Pos} {i : Int} {t : Tok} (hx : sc.names.lookup x = some .globalImplicit) (hd : (x == ("__debug__" : Str)) = false) (hmg : nsIn C.K mainGlobals x = some (some (.int i t))) : EvT C k sc σ (.Name x p) (.int i) := by
  intro ok env A s Q E hal hsc hA f g q
  exact name_global hsc f g hx hd (.inl (mg_of g.frag g.g hmg)) (q _ s.heap s.toks (.refl _) (.int _ _))
theorem ev_global_str {x : Str} {p : Pos} {i : Str} {t : Tok} (hx : sc.names.lookup x = some .globalImplicit) (hd : (x == ("__debug__" : Str)) = false) (hmg : nsIn C.K mainGlobals x = some (some (.str i t))) : EvT C k sc σ (.Name x p) (.str i) := by
  intro ok env A s Q E hal hsc hA f g q
  exact name_global hsc f g hx hd (.inl (mg_of g.frag g.g hmg)) (q _ s.heap s.toks (.refl _) (.str _ _))
end Mine
set_option maxRecDepth 100000
namespace Mine
def hstep (b n : Nat) (s : List Nat × Nat) (d : Nat) : List Nat × Nat := (s.1 ++ [(s.2 * 2 ^ n + d) / b], (s.2 * 2 ^ n + d) % b)
def hrun (b n : Nat) (ds : List Nat) : List Nat × Nat := ds.foldl (hstep b n) ([], 0)
def hval (n : Nat) (ds : List Nat) : Nat := ds.foldl (fun v d => v * 2 ^ n + d) 0
theorem hrun_take {b n : Nat} {ds : List Nat} {i d : Nat} (h : ds[i]? = some d) : hrun b n (ds.take (i + 1)) = hstep b n (hrun b n (ds.take i)) d := by
  unfold hrun
  rw [List.take_add_one, h, List.foldl_append]; rfl
theorem hrun_snoc (b n : Nat) (ds : List Nat) (d : Nat) : hrun b n (ds ++ [d]) = hstep b n (hrun b n ds) d := by
  unfold hrun; rw [List.foldl_append]; rfl
theorem hval_snoc (n : Nat) (ds : List Nat) (d : Nat) : hval n (ds ++ [d]) = hval n ds * 2 ^ n + d := by
  unfold hval; rw [List.foldl_append]; rfl
theorem hrun_spec {b n : Nat} (hb : 0 < b) : ∀ (ds : List Nat), (∀ d ∈ ds, d < 2 ^ n) → (hrun b n ds).2 = hval n ds % b ∧ hval n (hrun b n ds).1 = hval n ds / b ∧ (∀ q ∈ (hrun b n ds).1, q < 2 ^ n) ∧ (hrun b n ds).1.length = ds.length := by
  intro ds
  generalize hr : ds.reverse = rs
  induction rs generalizing ds with
  | nil =>
    have : ds = [] := by simpa using hr
    subst this
    intro _
    exact ⟨(Nat.zero_mod b).symm, (Nat.zero_div b).symm, fun q hq => (by cases hq), rfl⟩
  | cons d rs ih =>
    have e : ds = rs.reverse ++ [d] := by rw [← List.reverse_reverse ds, hr, List.reverse_cons]
    intro hd
    subst e
    obtain ⟨h1, h2, h3, h4⟩ := ih rs.reverse (List.reverse_reverse rs) fun y hy => hd y (List.mem_append_left _ hy)
    have hdd : d < 2 ^ n := hd d (List.mem_append_right _ (List.mem_cons_self))
    rw [hrun_snoc, hval_snoc]
    unfold hstep
    have hrb : (hrun b n rs.reverse).2 < b := by rw [h1]; exact Nat.mod_lt _ hb
    have hdm := Nat.div_add_mod (hval n rs.reverse) b
    rw [← h1, ← h2] at hdm
    have key : hval n rs.reverse * 2 ^ n + d = b * (hval n (hrun b n rs.reverse).1 * 2 ^ n) + ((hrun b n rs.reverse).2 * 2 ^ n + d) := by
      rw [← hdm, Nat.add_mul, Nat.mul_assoc, Nat.add_assoc]
    refine ⟨?_, ?_, ?_, ?_⟩
    · rw [key, Nat.mul_add_mod]
    · rw [hval_snoc, key, Nat.mul_add_div hb]
    · intro q hq
      rcases List.mem_append.mp hq with hq | hq
      · exact h3 q hq
      · rw [List.mem_singleton.mp hq, Nat.div_lt_iff_lt_mul hb]
        have : ((hrun b n rs.reverse).2 + 1) * 2 ^ n ≤ b * 2 ^ n := Nat.mul_le_mul_right _ hrb
        rw [Nat.add_mul, Nat.one_mul] at this
        rw [Nat.mul_comm (2 ^ n) b]
        omega
    · simp [h4]
theorem dsum_rev (n : Nat) (ds : List Nat) : dsum n (ds.map Int.ofNat) = (hval n ds.reverse : Int) := by
  induction ds with
  | nil => rfl
  | cons d ds ih =>
    rw [List.map_cons, dsum, ih, List.reverse_cons, hval_snoc]
    simp [Int.mul_comm]
    omega
theorem dsum_ndig (n : Nat) : ∀ m x, x < 2 ^ (n * m) → dsum n ((ndig n m x).map Int.ofNat) = x
  | 0, x, h => by
    have : x = 0 := by simpa using h
    subst this; rfl
  | m + 1, x, h => by
    have e : 2 ^ (n * (m + 1)) = 2 ^ n * 2 ^ (n * m) := by rw [← Nat.pow_add]; congr 1; rw [Nat.mul_succ]; omega
    rw [ndig, List.map_cons, dsum, dsum_ndig n m (x / 2 ^ n) (by rw [Nat.div_lt_iff_lt_mul (Nat.two_pow_pos _), Nat.mul_comm, ← e]; exact h)]
    have := Nat.mod_add_div x (2 ^ n)
    have h2 : ((x % 2 ^ n + 2 ^ n * (x / 2 ^ n) : Nat) : Int) = (x : Int) := by rw [this]
    simpa using h2
theorem ndig_lt {n : Nat} : ∀ {m x d : Nat}, d ∈ ndig n m x → d < 2 ^ n
  | 0, x, d, h => by cases h
  | m + 1, x, d, h => by
    rw [ndig] at h
    rcases List.mem_cons.mp h with rfl | h
    · exact Nat.mod_lt _ (Nat.two_pow_pos _)
    · exact ndig_lt h
theorem lt_idigN {n x : Nat} (hn : 1 ≤ n) : x < 2 ^ (n * idigN n x) := by
  have h1 : x < 2 ^ Builtin.Int.intBits (x : Int) := by simpa using intBits_le_iff.mp (Nat.le_refl (Builtin.Int.intBits (x : Int)))
  refine Nat.lt_of_lt_of_le h1 (Nat.pow_le_pow_right (by decide) ?_)
  unfold idigN
  have := Nat.div_add_mod (Builtin.Int.intBits (x : Int) + n - 1) n
  have := Nat.mod_lt (Builtin.Int.intBits (x : Int) + n - 1) (show 0 < n by omega)
  omega
theorem ItT.is {C : Cx} {k : Nat} {sc : Scope} {σ : Store} {e : Expr} {d d' : List D} (h : ItT C k sc σ e d) (q : d = d') : ItT C k sc σ e d' := q ▸ h
section
variable {w : World} {mg mb : Str → Option Value}

theorem div2_ct {a b n : Int} (hb : b ≠ 0) (hp : b.natAbs.log2 < 9000) (h : (Builtin.Int.intBits a : Int) - n ≤ 4000) : CT (C1 w mg mb) 2 (.ref 45) [.int a, .int b, .int n] (.tuple [.int (a.fdiv b), .int (a.fmod b)]) := by
  refine ct_fun (names := ["a", "b", "n"]) (o := _) rfl rfl ⟨_, _, _, _, rfl, rfl, rfl, rfl⟩ rfl rfl rfl rfl rfl rfl rfl (by decide +kernel) (by decide +kernel) rfl (by decide +kernel) (by rintro (_ | ⟨v, _ | ⟨w, _ | ⟨u, _ | ⟨u', _⟩⟩⟩⟩) h <;> first | rfl | simp at h) ?_
  dsimp only [List.zip, List.zipWith]
  refine ex_cons_ret (exs_if_t (ts_cmp (ev_binop (ev_meth0 (od := .int a) (ev_name rfl rfl rfl) F.plainAttrs_int F.slot_int_bit_length F.type_int_bit_length ct_bitlen (fun _ => rfl) rfl) (ev_name rfl rfl rfl) op_sub_int) (ev_global_int (i := 4000) rfl rfl rfl) (op_le_int.is (c' := .bool true) ?_) rfl)
    (ex_cons_ret (exs_ret (ev_call_builtin (id := "divmod") rfl rfl (by kernel_rfl) (by decide) rfl (evs_cons (ev_name rfl rfl rfl) (evs_cons (ev_name rfl rfl rfl) evs_nil (fun _ => rfl)) (fun _ => rfl)) (ct_divmod hb (PyProof.noPylong_of_log2 hp)) (fun _ => rfl) (fun _ => rfl)))))
  simp [h]

theorem divpos_ct {a b j : Nat} (hb : 1 ≤ b) (hn2 : Builtin.Int.intBits (b : Int) ≤ 1000) (hj : idigN (Builtin.Int.intBits (b : Int)) a ≤ 2 ^ j) (hj2 : j ≤ 9) :
    CT (C1 w mg mb) (j + 4) (.ref 73) [.int a, .int b] (.tuple [.int ((a / b : Nat) : Int), .int ((a % b : Nat) : Int)]) := by
  generalize hn : Builtin.Int.intBits (b : Int) = n at hn2 hj
  have hn1 : 1 ≤ n := by
    rw [← hn]; unfold Builtin.Int.intBits
    have : ((b : Int) == 0) = false := by simp; omega
    rw [this]; simp
  have hbn : b < 2 ^ n := by
    have := intBits_le_iff.mp (Nat.le_of_eq hn); simpa using this
  have hlog : (b : Int).natAbs.log2 < 9000 := by
    rw [Int.natAbs_natCast]
    have := (Nat.log2_lt (n := b) (k := n) (by omega)).mpr hbn
    omega
  generalize hds : (ndig n (idigN n a) a).reverse = ds
  have hdl : ∀ d ∈ ds, d < 2 ^ n := fun d hd => ndig_lt (by rw [← hds] at hd; exact List.mem_reverse.mp hd)
  have hN : idigN n a ≤ 512 := Nat.le_trans hj (Nat.pow_le_pow_right (by decide) hj2)
  have hdlen : ds.length = idigN n a := by rw [← hds, List.length_reverse, ndig_length]
  have hspec := fun i => hrun_spec (b := b) (n := n) hb (ds.take i) fun d hd => hdl d (List.mem_of_mem_take hd)
  have hv : hval n ds = a := by
    have h1 := dsum_rev n (ndig n (idigN n a) a)
    rw [dsum_ndig n _ a (lt_idigN hn1), hds] at h1
    omega
  refine ct_fun (k := j + 3) (names := ["a", "b"]) (o := _) rfl rfl ⟨_, _, _, _, rfl, rfl, rfl, rfl⟩ rfl rfl rfl rfl rfl rfl rfl (by decide +kernel) (by decide +kernel) rfl (by decide +kernel) (by rintro (_ | ⟨v, _ | ⟨w, _ | ⟨u, _⟩⟩⟩) h <;> first | rfl | simp at h) ?_
  dsimp only [List.zip, List.zipWith]
  refine ex_cons (exs_assign ((ev_meth0 (od := .int b) (ev_name rfl rfl rfl) F.plainAttrs_int F.slot_int_bit_length F.type_int_bit_length ct_bitlen (fun _ => rfl) rfl).is (d' := .int n) (by rw [hn])) (.inl rfl) (fun _ _ => rfl)) ?_
  refine ex_cons (exs_assign (ev_call_fun (a := 59) rfl rfl rfl rfl rfl (evs_cons (ev_name rfl rfl rfl) (evs_cons (ev_name rfl rfl rfl) evs_nil (fun _ => rfl)) (fun _ => rfl)) (i2d_ct hn1 hn2 hj (by omega)) (fun _ => rfl)) (.inl rfl) (fun _ _ => rfl)) ?_
  refine ex_cons (exs_assign ev_int (.inl rfl) (fun _ _ => rfl)) ?_
  refine ex_own (ds := []) (new_list evs_nil (by decide)) (.inl rfl) (fun _ _ => rfl) fun qa => ?_
  refine exo_cons (exs_for (ds := dInts (ds.map Int.ofNat)) (fun i => (Str.ofString "q_digits", .mut qa (dInts ((hrun b n (ds.take i)).1.map Int.ofNat))) :: (Str.ofString "r", .int ((hrun b n (ds.take i)).2 : Int)) :: (Str.ofString "a_digits", .list (dInts (idigs n a))) :: (Str.ofString "n", .int n) :: [(Str.ofString "a", .int a), (Str.ofString "b", .int b)])
    (fun i => (Str.ofString "a_digit", .int ((ds.getD i 0 : Nat) : Int)) :: (Str.ofString "q_digits", .mut qa (dInts ((hrun b n (ds.take i)).1.map Int.ofNat))) :: (Str.ofString "r", .int ((hrun b n (ds.take i)).2 : Int)) :: (Str.ofString "a_digits", .list (dInts (idigs n a))) :: (Str.ofString "n", .int n) :: [(Str.ofString "a", .int a), (Str.ofString "b", .int b)]) ?_ rfl ?_ ?_ (fun _ _ => rfl)) ?_
  · refine (it_rev (ds := dInts (idigs n a)) rfl rfl rfl rfl (ev_name rfl rfl rfl) (fun _ => rfl)).is ?_
    rw [← hds]; unfold idigs; simp [List.map_reverse]
  · intro i d hd
    have hi : i < ds.length := by
      have := (List.getElem?_eq_some_iff.mp hd).1; simpa using this
    have : d = .int ((ds.getD i 0 : Nat) : Int) := by
      simp [hi] at hd
      rw [← hd]; simp [hi]
    subst this
    exact as_name trivial (.inl rfl)
  · intro i d hd
    have hi : i < ds.length := by
      have := (List.getElem?_eq_some_iff.mp hd).1; simpa using this
    have hgi : ds[i]? = some (ds.getD i 0) := by simp [hi]
    have hdi : ds.getD i 0 < 2 ^ n := hdl _ (List.mem_of_getElem? hgi)
    generalize ds.getD i 0 = d at hgi hdi
    have hs := hrun_take (b := b) (n := n) hgi
    obtain ⟨h1, h2, h3, h4⟩ := hspec i
    have hrb : (hrun b n (ds.take i)).2 < b := by rw [h1]; exact Nat.mod_lt _ hb
    rw [hs]
    generalize hst : hrun b n (ds.take i) = st at *
    have hlt : st.2 * 2 ^ n + d < 2 ^ (n + n) := by
      have h5 : (st.2 + 1) * 2 ^ n ≤ 2 ^ n * 2 ^ n := Nat.mul_le_mul_right _ (by omega)
      rw [Nat.add_mul, Nat.one_mul] at h5
      rw [Nat.pow_add]; omega
    have e1 : (st.2 : Int) * 2 ^ ((n : Nat) : Int).toNat + ((d : Nat) : Int) = ((st.2 * 2 ^ n + d : Nat) : Int) := by
      rw [Int.toNat_natCast]; simp
    have e2 : (((st.2 * 2 ^ n + d : Nat) : Int)).fdiv (b : Int) = (((st.2 * 2 ^ n + d) / b : Nat) : Int) := by
      rw [Int.fdiv_eq_ediv_of_nonneg _ (by omega)]; exact (Int.natCast_ediv _ _).symm
    have e3 : (((st.2 * 2 ^ n + d : Nat) : Int)).fmod (b : Int) = (((st.2 * 2 ^ n + d) % b : Nat) : Int) := by
      rw [Int.fmod_eq_emod_of_nonneg _ (by omega)]; exact (Int.natCast_emod _ _).symm
    have hbits : Builtin.Int.intBits (((st.2 * 2 ^ n + d : Nat) : Int)) ≤ n + n := intBits_le_iff.mpr (by rw [Int.natAbs_natCast]; exact hlt)
    have hrbits : Builtin.Int.intBits (st.2 : Int) ≤ n := intBits_le_iff.mpr (by rw [Int.natAbs_natCast]; omega)
    have hql : st.1.length ≤ 1000 := by rw [h4, List.length_take]; omega
    refine ex_weaken (ex_cons (exs_assign_tuple (d := .tuple [.int (((st.2 * 2 ^ n + d) / b : Nat) : Int), .int (((st.2 * 2 ^ n + d) % b : Nat) : Int)]) ((ev_call_fun (a := 45) rfl rfl rfl rfl rfl (evs_cons ((ev_binop (ev_binop (ev_name rfl rfl rfl) (ev_name rfl rfl rfl) (op_shl_int ?_ ?_)) (ev_name rfl rfl rfl) op_add_int).is (congrArg D.int e1)) (evs_cons (ev_name rfl rfl rfl) (evs_cons (ev_name rfl rfl rfl) evs_nil (fun _ => rfl)) (fun _ => rfl)) (fun _ => rfl)) ((div2_ct ?_ hlog ?_).le (by omega)) (fun _ => rfl)).is (by rw [e2, e3])) (as_tuple (ass_cons (as_name trivial (.inl rfl)) (ass_cons (as_name trivial (.inl rfl)) ass_nil)) (fun _ => rfl) (fun _ => rfl)) (fun _ _ => rfl) (fun _ _ => rfl))
      (ex_cons (exs_append (a := qa) (ds := dInts (st.1.map Int.ofNat)) rfl rfl (ev_name rfl rfl rfl) (by simpa using hql) rfl rfl (fun _ => rfl) rfl (fun _ => rfl) (fun env he => by unfold interactive; rw [he]; rfl) (fun _ _ => rfl)) ex_nil)) ?_
    · omega
    · omega
    · omega
    · omega
    intro nm dd hh
    have hm := mem_of_lookup hh
    simp only [List.mem_cons, List.not_mem_nil, or_false, Prod.mk.injEq] at hm
    rcases hm with ⟨rfl, rfl⟩ | ⟨rfl, rfl⟩ | ⟨rfl, rfl⟩ | ⟨rfl, rfl⟩ | ⟨rfl, rfl⟩ | ⟨rfl, rfl⟩
    · show some _ = some _
      congr 2
      unfold hstep; simp
    · rfl
    · rfl
    · rfl
    · rfl
    · rfl
  · have hlen : (dInts (ds.map Int.ofNat)).length = ds.length := by simp
    rw [hlen, List.take_length]
    obtain ⟨h1, h2, h3, h4⟩ := hspec ds.length
    rw [List.take_length] at h1 h2 h3 h4
    rw [hv] at h1 h2
    generalize hst : hrun b n ds = st at *
    refine exo_cons (exs_reverse (a := qa) (ds := dInts (st.1.map Int.ofNat)) rfl rfl (by simp; omega) rfl rfl (fun _ => rfl) rfl (fun env he => by unfold interactive; rw [he]; rfl) (fun _ _ => rfl)) ?_
    refine exo_end (x := Str.ofString "q_digits") (ds := dInts (st.1.reverse.map Int.ofNat)) (by show some _ = some _; simp [List.map_reverse]) rfl ?_
    refine ex_cons (exs_assign ((ev_call_fun (a := 66) rfl rfl rfl rfl rfl (evs_cons (ev_name rfl rfl rfl) (evs_cons (ev_name rfl rfl rfl) evs_nil (fun _ => rfl)) (fun _ => rfl)) (d2i_ct (j := j) (B := n) ?_ (by omega) hn1 hn2 ?_ (by omega)) (fun _ => rfl)).is (d' := .int ((a / b : Nat) : Int)) ?_) (.inl rfl) (fun _ _ => rfl)) ?_
    · simp; omega
    · intro x hx
      obtain ⟨y, hy, rfl⟩ := List.mem_map.mp hx
      have := h3 y (List.mem_reverse.mp hy)
      show (Int.ofNat y).natAbs ≤ 2 ^ n
      simp; omega
    · rw [dsum_rev, List.reverse_reverse, h2]
    · refine ex_cons_ret (exs_ret (ev_tuple (evs_cons (ev_name rfl rfl rfl) (evs_cons ((ev_name (d := .int (st.2 : Int)) rfl rfl rfl).is (by rw [h1])) evs_nil (fun _ => rfl)) (fun _ => rfl)) ⟨by simp, by simp⟩))
end
end Mine
set_option maxRecDepth 100000
namespace Mine
section
variable {w : World} {mg mb : Str → Option Value}

theorem idm_ct {a b j : Nat} (hb : 1 ≤ b) (hn2 : Builtin.Int.intBits (b : Int) ≤ 1000) (hj : idigN (Builtin.Int.intBits (b : Int)) a ≤ 2 ^ j) (hj2 : j ≤ 9) :
    CT (C1 w mg mb) (j + 5) (.ref 80) [.int a, .int b] (.tuple [.int ((a / b : Nat) : Int), .int ((a % b : Nat) : Int)]) := by
  refine ct_fun (k := j + 4) (names := ["a", "b"]) (o := _) rfl rfl ⟨_, _, _, _, rfl, rfl, rfl, rfl⟩ rfl rfl rfl rfl rfl rfl rfl (by decide +kernel) (by decide +kernel) rfl (by decide +kernel) (by rintro (_ | ⟨v, _ | ⟨w, _ | ⟨u, _⟩⟩⟩) h <;> first | rfl | simp at h) ?_
  dsimp only [List.zip, List.zipWith]
  refine ex_cons_ret (exs_if_f (ts_cmp (ev_name rfl rfl rfl) ev_int (op_eq_int.is (c' := .bool false) ?_) rfl) (ex_cons_ret (exs_if_f (ts_cmp (ev_name rfl rfl rfl) ev_int (op_lt_int.is (c' := .bool false) ?_) rfl) (ex_cons_ret (exs_if_f (ts_cmp (ev_name rfl rfl rfl) ev_int (op_lt_int.is (c' := .bool false) ?_) rfl)
    (ex_cons_ret (exs_ret (ev_call_fun (a := 73) rfl rfl rfl rfl rfl (evs_cons (ev_name rfl rfl rfl) (evs_cons (ev_name rfl rfl rfl) evs_nil (fun _ => rfl)) (fun _ => rfl)) (divpos_ct hb hn2 hj hj2) (fun _ => rfl)))))))))
  · simp; omega
  · have : ¬ ((b : Int) < 0) := by omega
    simp [this]
  · have : ¬ ((a : Int) < 0) := by omega
    simp [this]
end
end Mine
namespace Mine
variable {C : Cx} {ok : Addr → Prop} {k : Nat} {sc : Scope} {σ : Store}

/-- a text of a class -/
theorem ev_cls_str {x attr : Str} {p pos : Pos} {Cl : Addr} {mc : Value} {i : Str} {t : Tok} (hx : sc.names.lookup x = some .globalImplicit) (hd : (x == ("__debug__" : Str)) = false) (hmg : nsIn C.K mainGlobals x = some (some (.ref Cl)))
    (hr : readsIn C.K Cl mc = true) (he : findCls C.K (.ref Cl) mc attr = some (.val (.str i t)))
    (hbase : ∀ env : Env, attributeBase (.Name x p) attr env (eval (.Name x p) env) = eval (.Name x p) env) : EvT C k sc σ (.Attribute (.Name x p) attr pos) (.str i) := by
  intro ok env A s Q E hal hsc hA f g q
  rw [arm_eval_Attribute, hbase]
  refine wpAny_bind (name_global hsc f g hx hd (.inl (mg_of g.frag g.g hmg)) ?_)
  refine wpAny_bind (wpAny_standAt (wpAny_bind (wpAny_holding ?_)))
  refine cls_value (K := C.K) (mc := mc) g.frag hr he rfl ?_
  exact wpAny_bind (wpAny_letTemporaryGo (wpAny_pure (q _ s.heap _ (.refl _) (.str _ _))))

theorem exs_assign3 {x y z : Str} {p1 p2 p3 pos : Pos} {value : Expr} {d : D} {σ₁ σ₂ σ₃ : Store} (hv : EvT C k sc σ value d) (h1 : AsT C (fun _ => True) sc σ (.Name x p1) d σ₁) (h2 : AsT C (fun _ => True) sc σ₁ (.Name y p2) d σ₂) (h3 : AsT C (fun _ => True) sc σ₂ (.Name z p3) d σ₃)
    (hw : ∀ env : Env, env.scope = sc → swappedStores [.Name x p1, .Name y p2, .Name z p3] value env = pure none) : ExS C k sc σ (.Assign [.Name x p1, .Name y p2, .Name z p3] value pos) (.next σ₃) := by
  intro ok env A s Q E h₀ hal hn hsc hA hf g e f q
  refine wpAny_Assign_three ?_ rfl (hw env hsc)
  refine hv.use ok env A s _ E ⟨hal, hn⟩ hsc hA f (g.ext e) fun v h₁ t₁ n₁ x₁ r₁ => ?_
  refine h1 ok env A _ _ E h₀ v hsc hA.hd hf g (e.trans x₁) (f.ext x₁) r₁ fun h₂ t₂ e₂ k₂ f₂ => ?_
  have r₂ := r₁.mono k₂.kr.some
  refine h2 ok env A _ _ E h₀ v hsc hA.hd hf g e₂ f₂ r₂ fun h₃ t₃ e₃ k₃ f₃ => ?_
  refine h3 ok env A _ _ E h₀ v hsc hA.hd hf g e₃ f₃ (r₂.mono k₃.kr.some) fun h₄ t₄ e₄ k₄ f₄ => ?_
  exact q .next h₄ t₄ e₄ (((x₁.kd.trans k₂.some).trans k₃.some).trans k₄.some) ⟨rfl, f₄⟩

/-- a new tuple -/
theorem exs_swap2 {x y : Str} {p1 p2 tp pos : Pos} {kk : Nat} {value : Expr} {d1 d2 : D} (hv : EvT C k sc σ value (.tuple [d1, d2])) (hx : sc.names.lookup x = some .local ∨ sc.names.lookup x = some .cell) (hy : sc.names.lookup y = some .local ∨ sc.names.lookup y = some .cell)
    (hs : ∀ env : Env, env.scope = sc → swapsWithSole [.Tuple [.Name x p1, .Name y p2] kk tp] value pos.line env = pure false) (hw : ∀ env : Env, env.scope = sc → swappedStores [.Tuple [.Name x p1, .Name y p2] kk tp] value env = pure (some [x, y])) :
    ExS C k sc σ (.Assign [.Tuple [.Name x p1, .Name y p2] kk tp] value pos) (.next ((x, d1) :: (y, d2) :: σ)) := by
  intro ok env A s Q E h₀ hal hn hsc hA hf g e f q
  refine Assign_Tuple_swapped (names := [x, y]) ?_ (hs env hsc) (hw env hsc)
  refine hv.use ok env A s _ E ⟨hal, hn⟩ hsc hA f (g.ext e) fun v h₁ t₁ n₁ x₁ r₁ => ?_
  obtain ⟨a, vs, n, rfl, ha, l, rl⟩ := r₁.asTuple
  obtain ⟨v1, v2, hvs, ra, rb⟩ := rl.two
  have hsz : ([x, y] : List Str).length = vs.size := by rw [← Array.length_toList, hvs]; rfl
  rw [hsz]
  refine wpAny_unpackItems_tuple hA.hd (Rep.isTuple l) fun h₂ x₂ => ?_
  have k₂ : Ext C h₁ h₂ := .of_keeps fun b o eb => x₂ b o (Nat.ne_of_lt (Heap.lt_size eb)) eb
  rw [hvs]
  show wpAny C.M A (do holding _ (bindName env y v2); holding _ (bindName env x v1); pure ()) _ _ _
  refine wpAny_bind (wpAny_holding (wpAny_bindName ?_))
  have f₂ := (f.ext x₁).ext k₂
  refine store_name (C := C) (ok := ok) (σ := σ) (d := d2) (N := fun _ => True) (h₀ := h₀) (by unfold Env.kindOf; rw [hsc]; exact hy) trivial hf ((e.trans x₁).trans k₂) f₂ (rb.ext k₂) fun h₃ t₃ e₃ k₃ f₃ _ _ => ?_
  refine wpAny_bind (wpAny_holding (wpAny_bindName ?_))
  refine store_name (C := C) (ok := ok) (d := d1) (N := fun _ => True) (h₀ := h₀) (by unfold Env.kindOf; rw [hsc]; exact hx) trivial hf e₃ f₃ ((ra.ext k₂).mono k₃.kr.some) fun h₄ t₄ e₄ k₄ f₄ _ _ => ?_
  exact wpAny_pure (q .next h₄ t₄ e₄ (((x₁.trans k₂).kd.trans k₃.some).trans k₄.some) ⟨rfl, f₄⟩)
theorem ct_tuple {xs : List D} (hn : xs.length ≤ 1000000) : CT C k (.type "tuple") [.list xs] (.tuple xs) := by
  intro ok A s Q E vs hal hA g r q
  obtain ⟨v, rfl, r1⟩ := r.one
  obtain ⟨a, vs, n, rfl, ha, l, rl⟩ := r1.asList
  have e1 := rl.length
  rw [Array.length_toList] at e1
  refine call_tuple_list (Rep.isList l) (fun h' hk => ?_) (by rw [e1]; exact Nat.le_trans hn (by decide))
  have x₁ : Ext C s.heap h' := .of_keeps hk
  exact q _ _ s.toks (x₁.trans (.push _ _)) (.tuple (hal.new x₁) (Heap.get?_push_size _ rfl) (rl.ext (x₁.trans (.push _ _))))

/-- `if test: x = a new list`, the test true; x's list is its own from here on -/
theorem ex_own_if {x : Str} {p pos ipos : Pos} {test value : Expr} {orelse : List Stmt} {ds : List D} {rest : List Stmt} {o : Out} (ht : TsT C k sc σ test true) (hv : NewT C k sc σ value ds) (hx : sc.names.lookup x = some .local ∨ sc.names.lookup x = some .cell)
    (hs : ∀ env : Env, env.scope = sc → swapsWith value (some (.Name x p)) pos.line env = pure false)
    (hr : ∀ a, ExO C k sc a ((x, .mut a ds) :: σ) rest o) : ExT C k sc σ (.If test [.Assign [.Name x p] value pos] orelse ipos :: rest) o := by
  intro ok env A s Q E h₀ hal hn hsc hA hf g e f q
  refine wpAny_execs_cons (wpAny_If (ht.use ok env A s _ E ⟨hal, hn⟩ hsc hA f (g.ext e) fun hh tt nn xx => ?_))
  have ff := f.ext xx
  have ee := e.trans xx
  have hal' := hal.ext xx
  refine wpAny_execs_cons (wpAny_Assign_Name ?_ (hs env hsc))
  refine wpAny_with_toks (s := { s with heap := hh, toks := tt }) nn (hv ok env A _ _ _ ⟨hal', nn⟩ hsc hA ff (g.ext ee) fun a vs n h₁ t₁ hlo hfr hok x₁ l₁ r₁ n₁ => ?_)
  have f₁ : FS C (fun b => ok b ∧ b ≠ a) env σ h₁ := (ff.narrow (fun b o eb z => ⟨z, fun q => by subst q; rw [hfr] at eb; cases eb⟩) fun b z => z.1).ext x₁
  refine wpAny_with_toks (s := { s with heap := h₁, toks := t₁ }) n₁ (store_own (C := C) (ok := fun b => ok b ∧ b ≠ a) (ds := ds) (h₀ := h₀) (by unfold Env.kindOf; rw [hsc]; exact hx) hf (ee.trans x₁) f₁ ⟨fun z => z.2 rfl, hlo, l₁, r₁⟩ fun h₂ t₂ e₂ k₂ f₂ n₂ => ?_)
  refine wpAny_execs_nil ?_
  refine hr a ok env A _ _ E h₀ ((hal'.dom x₁.dom).dom k₂.dom) n₂ hsc hA hf g e₂ hok (k₂.dom.has ⟨_, l₁⟩) f₂ fun fl h₃ t₃ e₃ k₃ o₃ => ?_
  refine q fl h₃ t₃ e₃ ⟨fun b ob hb eb hD => ?_, ((xx.dom.trans x₁.dom).trans k₂.dom).trans k₃.dom⟩ o₃
  have eb' := (xx.kd (L := env.locals) (ok := every)).k b ob trivial eb hD
  have hne : b ≠ a := fun z => by subst z; rw [hfr] at eb'; cases eb'
  exact k₃.k b ob ⟨hb, hne⟩ (k₂.k b ob trivial ((x₁.kd (L := env.locals) (ok := every)).k b ob trivial eb' hD) hD) hD
end Mine
set_option maxRecDepth 100000
namespace Mine
variable {C : Cx} {ok : Addr → Prop} {k : Nat} {sc : Scope} {σ : Store}

/-- a made object of a plain class: x its object, dx its dict -/
structure InstP (h : Heap) (x dx cl : Addr) (mA : Str → Option Value) : Prop where
  obj : ∃ o, h.get? x = some o ∧ o.cls = .ref cl ∧ o.dict = some dx ∧ o.data = .plain
  ns : h.Ns1 dx mA
  ne : dx ≠ x
theorem InstP.inst {h : Heap} {x dx cl : Addr} {mA : Str → Option Value} (X : InstP h x dx cl mA) : h.Inst x cl mA := by
  obtain ⟨o, e, hc, hd, hp⟩ := X.obj
  exact ⟨o, e, hc, fun c z => (by rw [hp] at z; cases z), .inr ⟨dx, hd, X.ne, X.ns⟩⟩
theorem InstP.at {h h' : Heap} {x dx cl : Addr} {mA : Str → Option Value} (X : InstP h x dx cl mA) (k1 : ∀ o, h.get? x = some o → h'.get? x = some o) (k2 : ∀ o, h.get? dx = some o → h'.get? dx = some o) : InstP h' x dx cl mA := by
  obtain ⟨o, e, r⟩ := X.obj
  exact ⟨⟨o, k1 o e, r⟩, X.ns.at k2, X.ne⟩
theorem InstP.ext {h h' : Heap} {x dx cl : Addr} {mA : Str → Option Value} (X : InstP h x dx cl mA) (y : Ext C h h') : InstP h' x dx cl mA := by
  obtain ⟨o, e, hc, hd, hp⟩ := X.obj
  refine X.at (fun o' e' => y.keep_data e' fun vs hv => ?_) (fun o' e' => y.keep_data e' fun vs hv => ?_)
  · rw [e] at e'; cases e'; rw [hp] at hv; cases hv
  · obtain ⟨o2, es, ep, e2, hd2, _⟩ := X.ns
    rw [e2] at e'; cases e'; rw [hd2] at hv; cases hv
theorem InstP.kd {L : Addr} {h h' : Heap} {x dx cl : Addr} {mA : Str → Option Value} (X : InstP h x dx cl mA) (y : KD L every h h') (hx : x ≠ L) (hd : dx ≠ L) : InstP h' x dx cl mA := by
  obtain ⟨o, e, hc, _, hp⟩ := X.obj
  refine X.at (fun o' e' => y.k _ _ trivial e' (.inr (.inr ⟨.inl ?_, hx⟩))) (fun o' e' => y.k _ _ trivial e' (.inr (.inr ⟨.inr ?_, hd⟩)))
  · rw [e] at e'; cases e'; exact hp
  · obtain ⟨o2, es, ep, e2, hd2, _⟩ := X.ns
    rw [e2] at e'; cases e'; exact ⟨es, ep, hd2⟩

mutual
theorem Rep.avoid {h : Heap} {x dx cl : Addr} {mA : Str → Option Value} (X : InstP h x dx cl mA) : ∀ {d : D} {v : Value}, Rep C ok h d v → Rep C (fun b => ok b ∧ b ≠ x ∧ b ≠ dx) h d v
  | _, _, .none => .none
  | _, _, .bool b => .bool b
  | _, _, .int i t => .int i t
  | _, _, .str y t => .str y t
  | _, _, .val v => .val v
  | _, _, .list ha l r => .list ⟨ha, fun z => (by subst z; obtain ⟨o, e, hc, _⟩ := X.obj; rw [l] at e; cases e; cases hc), fun z => (by subst z; obtain ⟨o, es, ep, e, hd, _⟩ := X.ns; rw [l] at e; cases e; cases hd)⟩ l (RepL.avoid X r)
  | _, _, .tuple ha l r => .tuple ⟨ha, fun z => (by subst z; obtain ⟨o, e, hc, _⟩ := X.obj; rw [l] at e; cases e; cases hc), fun z => (by subst z; obtain ⟨o, es, ep, e, hd, _⟩ := X.ns; rw [l] at e; cases e; cases hd)⟩ l (RepL.avoid X r)
  | _, _, .dict ha l ne r => .dict ⟨ha, fun z => (by
      subst z
      obtain ⟨o, e, hc, _, hp⟩ := X.obj
      obtain ⟨o2, e2, hD⟩ := dictOf_data l ne
      rw [e2] at e; cases e
      rcases hD with ⟨its, n, hd'⟩ | ⟨es', n, hd', _⟩ <;> rw [hp] at hd' <;> cases hd'), fun z => (by
      subst z
      obtain ⟨o, es, ep, e, hd, hk, _⟩ := X.ns
      obtain ⟨o2, e2, hD⟩ := dictOf_data l ne
      rw [e2] at e; cases e
      rcases hD with ⟨its, n, hd'⟩ | ⟨es', n, hd', e', he', hne⟩
      · rw [hd] at hd'; cases hd'
      · rw [hd] at hd'; cases hd'
        obtain ⟨y, t, hy⟩ := hk e' he'
        exact absurd hy (hne y t))⟩ l ne (RepD.avoid X r)
theorem RepL.avoid {h : Heap} {x dx cl : Addr} {mA : Str → Option Value} (X : InstP h x dx cl mA) : ∀ {ds : List D} {vs : List Value}, RepL C ok h ds vs → RepL C (fun b => ok b ∧ b ≠ x ∧ b ≠ dx) h ds vs
  | _, _, .nil => .nil
  | _, _, .cons r rs => .cons (Rep.avoid X r) (RepL.avoid X rs)
theorem RepD.avoid {h : Heap} {x dx cl : Addr} {mA : Str → Option Value} (X : InstP h x dx cl mA) : ∀ {ds : List (Int × D)} {vs : List (Int × Value)}, RepD C ok h ds vs → RepD C (fun b => ok b ∧ b ≠ x ∧ b ≠ dx) h ds vs
  | _, _, .nil => .nil
  | _, _, .cons r rs => .cons (Rep.avoid X r) (RepD.avoid X rs)
end
/-- data over a change of a made object -/
theorem Rep.inst {h h' : Heap} {x dx cl : Addr} {mA : Str → Option Value} (X : InstP h x dx cl mA) (kp : ∀ b o, b ≠ x → b ≠ dx → h.get? b = some o → h'.get? b = some o) {d : D} {v : Value} (r : Rep C ok h d v) : Rep C ok h' d v :=
  ((r.avoid X).but fun b o hb e => kp b o hb.2.1 hb.2.2 e).allow fun _ z => z.1
theorem FS.inst {env : Env} {h h' : Heap} {x dx cl : Addr} {mA : Str → Option Value} (f : FS C ok env σ h) (X : InstP h x dx cl mA) (hm : (σ.all fun p => !p.2.isMut) = true) (hL : dx ≠ env.locals) (kp : ∀ b o, b ≠ x → b ≠ dx → h.get? b = some o → h'.get? b = some o) : FS C ok env σ h' := by
  have nm : ∀ y d, σ.lookup y = some d → d.isMut = false := fun y d e => by have := List.all_eq_true.mp hm (y, d) (mem_of_lookup e); simpa using this
  have rp : ∀ {y d v}, σ.lookup y = some d → RepM C ok env.locals h d v → RepM C ok env.locals h' d v := fun {y d v} e r => .inl ((r.rep (nm y d e)).inst X kp)
  have nc : ∀ c v, h.IsCell c v → h'.IsCell c v := by
    rintro c v ⟨o, e, hd⟩
    refine ⟨o, kp c o (fun z => ?_) (fun z => ?_) e, hd⟩
    · subst z; obtain ⟨o2, e2, _, _, hp⟩ := X.obj; rw [e] at e2; cases e2; rw [hp] at hd; cases hd
    · subst z; obtain ⟨o2, es, ep, e2, hd2, _⟩ := X.ns; rw [e] at e2; cases e2; rw [hd2] at hd; cases hd
  refine ⟨f.fn, f.gl, f.bl, ?_, fun y d e kk => ?_, fun y kk => ?_, f.apart⟩
  · obtain ⟨m, ⟨o, es, ep, e, hd, rest⟩, hv⟩ := f.ns
    refine ⟨m, ⟨o, es, ep, kp _ o (fun z => ?_) (Ne.symm hL) e, hd, rest⟩, fun y d e kk => let ⟨v, h1, h2⟩ := hv y d e kk; ⟨v, h1, rp e h2⟩⟩
    obtain ⟨o2, e2, _, _, hp⟩ := X.obj
    rw [z, e2] at e; cases e; rw [hp] at hd; cases hd
  · obtain ⟨h0, c, v, h1, h2, h3⟩ := f.cell y d e kk
    exact ⟨h0, c, v, h1, nc _ _ h2, rp e h3⟩
  · obtain ⟨c, v, h1, h2⟩ := f.cells y kk
    exact ⟨c, v, h1, nc _ _ h2⟩
/-- a base that does not know the made object -/
theorem Ext.inst {h₀ h h' : Heap} {x dx cl : Addr} {mA : Str → Option Value} (e : Ext C h₀ h) (X : InstP h x dx cl mA) (hx : h₀.get? x = none) (hd : h₀.get? dx = none) (kp : ∀ b o, b ≠ x → b ≠ dx → h.get? b = some o → h'.get? b = some o) : Ext C h₀ h' := by
  have ne : ∀ b o, h₀.get? b = some o → b ≠ x ∧ b ≠ dx := fun b o eb => ⟨fun z => (by subst z; rw [hx] at eb; cases eb), fun z => (by subst z; rw [hd] at eb; cases eb)⟩
  have nf : ∀ b ob vs, h.get? b = some ob → ob.data = .fields vs → b ≠ x ∧ b ≠ dx := fun b ob vs eb hv => ⟨fun z => (by
    subst z; obtain ⟨o2, e2, _, _, hp⟩ := X.obj; rw [eb] at e2; cases e2; rw [hp] at hv; cases hv), fun z => (by
    subst z; obtain ⟨o2, es, ep, e2, hd2, _⟩ := X.ns; rw [eb] at e2; cases e2; rw [hd2] at hv; cases hv)⟩
  refine ⟨fun b o eb n => kp b o (ne b o eb).1 (ne b o eb).2 (e.keep b o eb n), fun b vs eb => let ⟨m, r⟩ := e.tab b vs eb; ⟨m, kp b _ (ne b _ eb).1 (ne b _ eb).2 r⟩,
    fun b o vs eb hc hdd => let ⟨o', r⟩ := e.tab' b o vs eb hc hdd; ⟨o', kp b _ (ne b _ eb).1 (ne b _ eb).2 r⟩, fun z q hq => ?_⟩
  obtain ⟨ps, hc, ht, r⟩ := e.inv z q hq
  obtain ⟨o, us, f, tf, fl, tg, b, n', tt, op, f1, f2, f3, f4, f5, f6, f7, f8, f9, f10⟩ := hc
  obtain ⟨⟨o2, us2, g1, g2, g3, g4⟩, g5⟩ := ht
  have kf : ∀ b ob vs, h.get? b = some ob → ob.data = .fields vs → h'.get? b = some ob := fun b ob vs eb hv => kp b ob (nf b ob vs eb hv).1 (nf b ob vs eb hv).2 eb
  refine ⟨ps, ⟨o, us, f, tf, fl, tg, b, n', tt, op, kf _ _ _ f1 f2, f2, f3, f4, f5, f6, f7, kf _ _ _ f8 f9, f9, f10⟩, ⟨⟨o2, us2, kf _ _ _ g1 g3, g2, g3, g4⟩, kf _ _ _ g5 rfl⟩, ?_⟩
  rcases r with r | ⟨c', ec, c, oc, vs', t, e1, e2, e3, e4⟩
  · exact .inl r
  · exact .inr ⟨c', ec, c, oc, vs', t, e1, kf _ _ _ e2 e3, e3, e4⟩
theorem set_attr {A : Around} {s : Shared} {Q : Unit → Shared → Prop} {E : Value → Shared → Prop} {x dx cl N : Addr} {mA mN : Str → Option Value} {name : Str} {v : Value} {ns : List Str} (X : InstP s.heap x dx cl mA) (hc : ClsAt s.heap cl N mN)
    (hns : mN "__setattr__" = none) (hna : mN name = none) (hB : typeLookup (.type "object") name = pure none) (hxC : x ≠ cl) (hw : Within mA ns) (hsz : ns.length ≤ sizeLine)
    (q : ∀ h' tk, InstP h' x dx cl (fun y => if y = name then some v else mA y) → (∀ b o, b ≠ x → b ≠ dx → s.heap.get? b = some o → h'.get? b = some o) → Q () { s with heap := h', toks := tk }) :
    wpAny C.M A (setAttr (.ref x) name v) Q E s := by
  obtain ⟨hh, g, d, t, os⟩ := s
  obtain ⟨nm, q', bs, sn, sub, col, dd, k0, k1, k2, k3, k5, hC⟩ := hc.obj
  obtain ⟨ox, hx, hcx, hdx, hpx⟩ := X.obj
  refine store_attr PySem.F.store_object hC hc.ns hns hna hB hxC X.inst (fun h' tk' I' hk hsame => ?_) hw hsz
  have kk : ∀ b o, b ≠ x → b ≠ dx → hh.get? b = some o → h'.get? b = some o := fun b o h1 h2 e => hk b o h1 (fun o₀ d' e₀ ed => by
    obtain rfl := Option.some.inj (hx.symm.trans e₀); obtain rfl := Option.some.inj (hdx.symm.trans ed); exact h2) e
  refine q h' tk' ?_ kk
  obtain ⟨o₁, e₁, c₁, dt₁, _, dk₁⟩ := hsame ox hx
  obtain ⟨o', e', _, _, hd'⟩ := I'
  obtain rfl := Option.some.inj (e₁.symm.trans e')
  rcases hd' with ⟨hn0, _⟩ | ⟨d', hd', _, hns'⟩
  · rw [dk₁ dx hdx] at hn0; cases hn0
  · obtain rfl := Option.some.inj ((dk₁ dx hdx).symm.trans hd')
    exact ⟨⟨o₁, e₁, c₁.trans hcx, dk₁ _ hdx, dt₁.trans hpx⟩, hns', X.ne⟩
theorem get_attr {A : Around} {s : Shared} {Q E : Value → Shared → Prop} {x dx cl N : Addr} {mA mN : Str → Option Value} {name : Str} {v : Value} {expr : Bool} (X : InstP s.heap x dx cl mA) (hc : ClsAt s.heap cl N mN)
    (hng : mN "__getattribute__" = none) (hna : mN name = none) (hB : typeLookup (.type "object") name = pure none) (hv : mA name = some v) (hh : handedOut v = pure v)
    (q : Q v { s with toks := s.toks + 1 }) : wpAny C.M A (getAttr (.ref x) name expr) Q E s := by
  obtain ⟨hp, g, d, t, os⟩ := s
  obtain ⟨nm, q', bs, sn, sub, col, dd, k0, k1, k2, k3, k5, hC⟩ := hc.obj
  exact load_attr hC hc.ns hng hna hB X.inst hv hh q

section
variable {prog : Program} {w : World} {A : Around} {E : Value → Shared → Prop} {h : Heap} {g : Array GenState} {d : Drawn} {t : Nat} {os : OsState}
variable {nm q : Str} {cl N : Addr} {bs : List Value} {sn : List Str} {sub : List Value} {col : Option Bool} {dd : Option Addr} {k0 k1 k2 k3 k5 : Option Value} {newId : String}
/-- a made object is made, and its __init__ called: the new heap is told -/
theorem type_call_init (F : ObjNewFacts newId) {mN : Str → Option Value} {rest : List Value} {fI : Addr} {oI : Obj} {Q : PySem.Fin → Shared → Prop}
    (hC : h.get? cl = some (excClassObj nm q cl N bs [.type "object"] true sn sub false col dd k0 k1 k2 k3 k5 newId)) (hn : h.Ns N mN) (hi : mN "__init__" = some (.ref fI))
    (hfI : h.get? fI = some oI) (hfc : oI.cls = .type "function")
    (hq : wpAny (model prog w) A (call (.ref fI) (.ref (h.objs.size + 1) :: rest)) (fun r s' => r = .none ∧ Q (.done (.ret (.ref (h.objs.size + 1)))) s') E
      ⟨(h.push { cls := .type "dict", data := .dict #[] }).push { cls := .ref cl, dict := some h.objs.size, data := .plain }, g, d, t, os⟩) :
    wpAny (model prog w) A (Builtin.«type.__call__» ⟨.ref cl :: rest, []⟩) Q E ⟨h, g, d, t, os⟩ := by
  have hmro : mroOf (.type "object") = pure [.type "object"] := by kernel_rfl
  have hlk : typeLookup (.type "object") "__init__" = pure (some (.builtin "object.__init__")) := by rw [typeLookup_type, builtinLookup_eq_fast]; kernel_rfl
  repeat (first | with_reducible refine wpAny_loadPart_at hC ?_ | with_reducible refine wpAny_madeBy_exc hC ?_ | wp_step)
  refine codeAny_call_builtin_code (Code.quiet_builtin _ F.quiet) (wpAny_check_obj_new F hC ?_)
  refine codeAny_obj_new F hC hn hi ?_
  show wpAny _ _ _ _ _ _
  have hC₁ := Heap.get?_push_of_some { cls := .ref cl, dict := some h.objs.size, data := .plain } (Heap.get?_push_of_some { cls := .type "dict", data := .dict #[] } hC)
  have hfI₁ := Heap.get?_push_of_some { cls := .ref cl, dict := some h.objs.size, data := .plain } (Heap.get?_push_of_some { cls := .type "dict", data := .dict #[] } hfI)
  have hn₁ : ((h.push { cls := .type "dict", data := .dict #[] }).push { cls := .ref cl, dict := some h.objs.size, data := .plain }).Ns N mN :=
    let ⟨o, es, ep, e, r⟩ := hn; ⟨o, es, ep, Heap.get?_push_of_some _ (Heap.get?_push_of_some _ e), r⟩
  have hget : ((h.push { cls := .type "dict", data := .dict #[] }).push { cls := .ref cl, dict := some h.objs.size, data := .plain }).get? (h.objs.size + 1) = some { cls := .ref cl, dict := some h.objs.size, data := .plain } := by heap_get
  have hcC : (Value.ref cl :: [Value.type "object"]).contains (.ref cl) = true := by simp
  unfold isInstance
  repeat (first | with_reducible refine wpAny_loadPart_at hget ?_ | (with_reducible refine wpAny_isSubtype_exc hC₁ ?_; rw [hcC]) | wp_step)
  show wpAny _ _ (typeLookup (.ref cl) _) _ _ _
  refine wpAny_typeLookup_exc hC₁ hn₁ hmro hlk ?_
  rw [hi]
  refine wpAny_holding (wpAny_bind ?_)
  unfold bindSpecial
  refine wpAny_bind (wpAny_typeOf (T := "function") ⟨_, hfI₁, hfc⟩ ?_)
  rw [if_pos (by decide)]
  refine wpAny_pure (wpAny_bind (wpAny_mono hq (fun r s' hr => ?_) fun _ _ x => x))
  obtain ⟨rfl, hQ⟩ := hr
  wp_walk
  exact hQ
theorem call_init (F : ObjNewFacts newId) {mN : Str → Option Value} {rest : List Value} {fI : Addr} {oI : Obj} {Q : Value → Shared → Prop}
    (hC : h.get? cl = some (excClassObj nm q cl N bs [.type "object"] true sn sub false col dd k0 k1 k2 k3 k5 newId)) (hn : h.Ns N mN) (hi : mN "__init__" = some (.ref fI))
    (hfI : h.get? fI = some oI) (hfc : oI.cls = .type "function")
    (hq : wpAny (model prog w) (A.under (.builtin "type.__call__" ⟨.ref cl :: rest, []⟩)) (call (.ref fI) (.ref (h.objs.size + 1) :: rest)) (fun r s' => r = .none ∧ Q (.ref (h.objs.size + 1)) s') E
      ⟨(h.push { cls := .type "dict", data := .dict #[] }).push { cls := .ref cl, dict := some h.objs.size, data := .plain }, g, d, t, os⟩) :
    wpAny (model prog w) A (call (.ref cl) rest) Q E ⟨h, g, d, t, os⟩ := by
  have f1 := tc_lookup
  have f2 := tc_bind (.ref cl)
  have hT : (⟨h, g, d, t, os⟩ : Shared).TypeIs (.ref cl) "type" := ⟨_, hC, rfl⟩
  refine wpAny_call (codeAny_of_tree ?_)
  show wpAny _ _ (callAny (.ref cl) _) _ _ _
  repeat (any_goals (first | assumption | with_reducible refine wpAny_loadPart_at hC ?_ | wp_step))
  refine ⟨rfl, ?_⟩
  exact codeAny_call_builtin_at (Code.quiet_builtin _ (by decide +kernel)) entry_typeCall (wpAny_check_type_call_sub hC (type_call_init F hC hn hi hfI hfc hq))
end
end Mine
namespace Mine
variable {C : Cx} {k : Nat} {sc : Scope} {σ : Store}

/-- a for loop that leaves by break in turn j; its iterable is walked in this frame -/
theorem for_brk_at {target iter : Expr} {body : List Stmt} {pos : Pos} {ds : List D} (S : Nat → Store) (T : Nat → Store) (j : Nat) {dj : D} {σ' : Store} (h0 : S 0 = σ) (hj : ds[j]? = some dj)
    (ha : ∀ i d, i ≤ j → ds[i]? = some d → AsT C (fun _ => True) sc (S i) target d (T i))
    (hb : ∀ i d, i < j → ds[i]? = some d → ExT C k sc (T i) body (.next (S (i + 1))))
    (hr : ExT C k sc (T j) body (.brk σ'))
    (hs : ∀ env x, foldedSetIterable iter env x = pure x) {ok : Addr → Prop} {env : Env} {A : Around} {s : Shared} {Q : Flow → Shared → Prop} {E : Value → Shared → Prop} {h₀ : Heap} (hal : AlH ok s.heap) (hsc : env.scope = sc) (hA : Room A k) (hf : Fresh (fun _ => True) env h₀) (g : G C h₀) (e : Ext C h₀ s.heap) (f : FS C ok env σ s.heap)
    (hi : ∀ (Q E : Value → Shared → Prop), (∀ I St h' tk, 1 ≤ tk → Ext C s.heap h' → s.heap.get? I = none → ItW C ok A I ds St h' → Q (.ref I) { s with heap := h', toks := tk }) → wpAny C.M A (eval iter env) (fun x s₁ => wpAny C.M A (pyIter x) Q E s₁) E s)
    (q : Post C ok h₀ env (.next σ') Q s) : wpAny C.M A (exec (.For target iter body [] pos) env) Q E s := by
  refine wpAny_For ?_ (hs env)
  refine hi _ E fun I St h₁ t₁ n₁ x₁ hI W => ?_
  refine codeAny_forLoop_any (fun n s' => ∃ i h' tk, s' = { s with heap := h', toks := tk } ∧ 1 ≤ tk ∧ i ≤ j ∧ n = ds.length + 1 - i ∧ Ext C h₀ h' ∧ KD env.locals ok s.heap h' ∧ KR ok h₁ h' ∧ Dom h₁ h' ∧ St i h' ∧ FS C ok env (S i) h') ?_ (ds.length + 1)
    ⟨0, h₁, t₁, rfl, n₁, Nat.zero_le _, rfl, e.trans x₁, x₁.kd, KR.refl _, Dom.refl _, W.st, h0 ▸ f.ext x₁⟩
  rintro n s' ⟨i, H, tk, rfl, nH, hle, rfl, eH, kH, rH, dmH, stH, fH⟩
  have hjl : j < ds.length := (List.getElem?_eq_some_iff.mp hj).1
  have hI₀ : h₀.get? I = none := e.fresh hI
  have kdI : ∀ h', (∀ b o, b ≠ I → H.get? b = some o → h'.get? b = some o) → KD env.locals ok s.heap h' := fun h' kk => ⟨fun b o z eb hD => kk b o (fun hb => by subst hb; rw [hI] at eb; cases eb) (kH.k b o z eb hD), fun a ea => by
    cases q : s.heap.get? a with
    | none => rfl
    | some o =>
      have h1 : a ≠ I := fun hb => by subst hb; rw [hI] at q; cases q
      cases q2 : H.get? a with
      | none => rw [kH.dom a q2] at q; cases q
      | some o2 => rw [kk a o2 h1 q2] at ea; cases ea⟩
  have hlt : i < ds.length := by omega
  have hd : ds[i]? = some ds[i] := by simp [hlt]
  refine wpAny_with_toks (s := { s with heap := H, toks := tk }) nH (W.item ok i _ _ _ _ (fun _ _ _ z => z) hd rH stH fun v h₂ t₂ r₂ st₂ k₂ n₂ => ?_)
  have oH := W.obj _ _ stH
  have e₂ := eH.iter hI₀ oH k₂
  have dm₂ : Dom h₁ h₂ := dmH.trans (dom_iter (W.obj _ _ st₂) k₂)
  refine own_go (W.obj _ _ st₂) ?_
  refine (ha i _ hle hd).use ok env A _ _ _ h₀ v n₂ hsc hA.hd hf g e₂ (fH.iter oH k₂) r₂ fun h₃ t₃ n₃ e₃ k₃ f₃ => ?_
  by_cases hij : i < j
  · refine (hb i _ hij hd).use ok env A _ _ _ h₀ (hal.dom (x₁.dom.trans (dm₂.trans k₃.dom))) n₃ hsc hA hf g e₃ f₃ fun fl h₄ t₄ n₄ e₄ k₄ o₄ => ?_
    obtain ⟨rfl, f₄⟩ := o₄
    exact ⟨ds.length + 1 - (i + 1), by omega, i + 1, h₄, t₄, rfl, n₄, hij, rfl, e₄, ((kdI h₂ k₂).trans k₃.some).trans k₄, ((rH.trans (kr_iter oH k₂)).trans k₃.kr.some).trans k₄.kr, (dm₂.trans k₃.dom).trans k₄.dom, W.kd _ _ _ (W.kd _ _ _ st₂ k₃.some.to1) k₄.to1, f₄⟩
  · have : i = j := by omega
    subst this
    refine hr ok env A _ _ _ h₀ (hal.dom (x₁.dom.trans (dm₂.trans k₃.dom))) n₃ hsc hA hf g e₃ f₃ fun fl h₄ t₄ e₄ k₄ o₄ => ?_
    obtain ⟨rfl, f₄⟩ := o₄
    exact q _ h₄ t₄ e₄ (((kdI h₂ k₂).trans k₃.some).trans k₄) ⟨rfl, f₄⟩
end Mine
set_option maxRecDepth 100000
namespace Mine
def entriesAt (K : Frag) (a : Addr) : Array DictEntry := match K.lookup a with
  | some o => match o.data with
    | .dict es _ => es
    | _ => #[]
  | none => #[]
def strKey (e : DictEntry) : Bool := match e.key with
  | .str _ _ => true
  | _ => false
section
variable {w : World} {mg mb : Str → Option Value}
noncomputable def mN1 (w : World) (x : Str) : Option Value := nsFind (entriesAt (hd.heap_39 w.params) 158) x
theorem cls1 {h : Heap} (X : (C1 w mg mb).K.In h) : ClsAt h 159 158 (mN1 w) := by
  refine ⟨⟨_, _, _, _, _, _, _, _, _, _, _, _, X 159 _ rfl⟩, _, _, _, X 158 _ rfl, rfl, ?_, fun _ => rfl⟩
  intro e he
  have hall : ((entriesAt (hd.heap_39 w.params) 158).all strKey) = true := by kernel_rfl
  have := Array.all_eq_true'.mp hall e he
  unfold strKey at this
  split at this
  · rename_i x t q; exact ⟨x, t, q⟩
  · cases this
theorem mN_init : mN1 w "__init__" = some (.ref 114) := by kernel_rfl
theorem mN_level : mN1 w "indent_level" = some (.ref 128) := by kernel_rfl
end
end Mine
set_option maxRecDepth 100000
namespace Mine
theorem Room.under {A : Around} {k : Nat} (r : Room A (k + 1)) (cl : Addr) (rest : List Value) : Room (A.under (.builtin "type.__call__" ⟨.ref cl :: rest, []⟩)) k := by
  refine ⟨?_, ?_, r.hd⟩
  · have := r.d; show A.depth + 1 + k < _; omega
  · have := r.u
    have h : (Code.builtin "type.__call__" ⟨.ref cl :: rest, []⟩).cUnits ≤ 4 := by
      first | exact Nat.le_of_eq (show _ = 4 from rfl) | exact Nat.le_trans (Nat.le_of_eq (show _ = 1 from rfl)) (by decide)
    show A.units + (Code.builtin "type.__call__" ⟨.ref cl :: rest, []⟩).cUnits + 50 * k < 9000
    omega

def wsCounts (d : Nat) : List Int := List.replicate d 0 ++ [1]
/-- what __init__ leaves of d blanks, a tab and more -/
structure WsAt (C : Cx) (h : Heap) (x dx cl : Addr) (d : Nat) : Prop where
  go : ∃ mA, InstP h x dx cl mA ∧ (∃ v, mA "norm" = some v ∧ Rep C every h (.tuple [.tuple (dInts (wsCounts d)), .int 0]) v) ∧ (∃ t, mA "nt" = some (.int 1 t)) ∧
    ∀ y : Str, y ∉ [Str.ofString "raw", "n", "nt", "norm", "is_simple"] → mA y = none
theorem WsAt.ext {C : Cx} {h h' : Heap} {x dx cl : Addr} {d : Nat} (X : WsAt C h x dx cl d) (y : Ext C h h') : WsAt C h' x dx cl d := by
  obtain ⟨mA, a, ⟨v, b, c⟩, e⟩ := X.go
  exact ⟨mA, a.ext y, ⟨v, b, c.ext y⟩, e⟩

theorem flat_rep (n : Nat) (d : D) : (List.replicate n [d]).flatten = List.replicate n d := by
  induction n with
  | zero => rfl
  | succ n ih => rw [List.replicate_succ, List.flatten_cons, ih, List.replicate_succ]; rfl
section
variable {w : World} {mg mb : Str → Option Value}
/-- a field of self is stored -/
theorem attr_step {A : Around} {s : Shared} {Q : Flow → Shared → Prop} {E : Value → Shared → Prop} {env : Env} {sc : Scope} {σ : Store} {k : Nat} {hh : Heap} {x dx : Addr} {mA : Str → Option Value} {name : Str} {p apos pos : Pos} {value : Expr} {d : D} {rest : List Stmt} {ns : List Str}
    (hx : σ.lookup (Str.ofString "self") = some (.val (.ref x))) (hv : EvT (C1 w mg mb) k sc σ value d) (hm : (σ.all fun p => !p.2.isMut) = true) (I : InstP s.heap x dx 159 mA) (n : 1 ≤ s.toks) (hsc : env.scope = sc) (hA : Room A k) (f : FS (C1 w mg mb) every env σ s.heap) (e : Ext (C1 w mg mb) hh s.heap) (g : G (C1 w mg mb) hh)
    (hxh : hh.get? x = none) (hdh : hh.get? dx = none) (hld : dx ≠ env.locals) (hxC : x ≠ 159) (hns : mN1 w "__setattr__" = none) (hna : mN1 w name = none) (hB : typeLookup (.type "object") name = pure none) (hw : Within mA ns) (hsz : ns.length ≤ sizeLine)
    (hsw : swapsWith value (some (.Attribute (.Name (Str.ofString "self") p) name apos)) pos.line env = pure false)
    (q : ∀ v h' tk, 1 ≤ tk → Ext (C1 w mg mb) hh h' → InstP h' x dx 159 (fun y => if y = name then some v else mA y) → FS (C1 w mg mb) every env σ h' → Rep (C1 w mg mb) every h' d v → (∀ d' v', Rep (C1 w mg mb) every s.heap d' v' → Rep (C1 w mg mb) every h' d' v') → wpAny (C1 w mg mb).M A (execs rest env) Q E { s with heap := h', toks := tk }) :
    wpAny (C1 w mg mb).M A (execs (.Assign [.Attribute (.Name (Str.ofString "self") p) name apos] value pos :: rest) env) Q E s := by
  refine wpAny_execs_cons (plainObj_wpAny_Assign_Attribute ?_ hsw)
  refine hv.use every env _ _ _ _ ⟨fun _ _ => trivial, n⟩ hsc hA f (g.ext e) fun v h₂ t₂ n₂ x₂ r₂ => ?_
  refine EvT.use (k := k) (d := .val (.ref x)) (ev_name hx rfl rfl) every env _ _ _ _ ⟨fun _ _ => trivial, n₂⟩ hsc hA (f.ext x₂) (g.ext (e.trans x₂)) fun v h₃ t₃ n₃ x₃ r₃ => ?_
  cases r₃
  have I₃ := I.ext (x₂.trans x₃)
  have e₃ := e.trans (x₂.trans x₃)
  have f₃ := f.ext (x₂.trans x₃)
  refine wpAny_with_toks (s := { s with heap := h₃, toks := t₃ }) n₃ (set_attr (C := C1 w mg mb) (ns := ns) I₃ (cls1 (g.ext e₃).frag) hns hna hB hxC hw hsz fun h₄ t₄ I₄ k₄ n₄ => ?_)
  exact q _ h₄ t₄ n₄ (e₃.inst I₃ hxh hdh k₄) I₄ (f₃.inst I₃ hm hld k₄) ((r₂.ext x₃).inst I₃ k₄) fun d' v' r' => (r'.ext (x₂.trans x₃)).inst I₃ k₄
end

section
variable {w : World} {mg mb : Str → Option Value}
theorem ws_make {A : Around} {s : Shared} {Q E : Value → Shared → Prop} {text : Str} {t : Tok} {d : Nat} (hx : text.cps.toList = List.replicate d 32 ++ [9, 120, 32]) (hd : d ≤ 100) (ht : 1 ≤ s.toks) (hA : Room A 5) (g : G (C1 w mg mb) s.heap)
    (q : ∀ x dx h' tk, 1 ≤ tk → Ext (C1 w mg mb) s.heap h' → s.heap.get? x = none → WsAt (C1 w mg mb) h' x dx 159 d → Q (.ref x) { s with heap := h', toks := tk }) : wpAny (C1 w mg mb).M A (call (.ref 159) [.str text t]) Q E s := by
  obtain ⟨hh, gg, dr, tk, os⟩ := s
  have hc := cls1 (mg := mg) (mb := mb) g.frag
  obtain ⟨nm, q', bs, sn, sub, col, dd, k0, k1, k2, k3, k5, hC⟩ := hc.obj
  refine call_init PySem.F.objNew hC hc.ns mN_init (g.frag 114 _ rfl) rfl ?_
  have hA' := hA.under 159 [.str text t]
  generalize hXd : hh.objs.size + 1 = x
  generalize hDd : hh.objs.size = dx at *
  have kp0 : ∀ b o, hh.get? b = some o → ((hh.push { cls := .type "dict", data := .dict #[] }).push { cls := .ref 159, dict := some dx, data := .plain }).get? b = some o := fun b o e => Heap.get?_push_of_some _ (Heap.get?_push_of_some _ e)
  have e0 : Ext (C1 w mg mb) hh _ := .of_keeps kp0
  have I0 : InstP ((hh.push { cls := .type "dict", data := .dict #[] }).push { cls := .ref 159, dict := some dx, data := .plain }) x dx 159 fun _ => none := by
    subst hXd hDd
    refine ⟨⟨{ cls := .ref 159, dict := some hh.objs.size, data := .plain }, ?_, rfl, rfl, rfl⟩, Heap.Ns1.of_empty ⟨_, #[], _, Heap.get?_push_of_some _ (Heap.get?_push_size _ rfl), rfl, fun e he => absurd he (by simp), fun _ => rfl⟩, Nat.ne_of_lt (Nat.lt_succ_self _)⟩
    have := Heap.get?_push_size (hh.push { cls := .type "dict", data := .dict #[] }) (o := { cls := .ref 159, dict := some hh.objs.size, data := .plain }) rfl
    rwa [Heap.size_push] at this
  refine inner_call' (C := C1 w mg mb) (ok := every) (k := 3) (hb := hh) (fi := 114) (names := [Str.ofString "self", Str.ofString "ws"]) (ds := [.val (.ref x), .str text]) (σc := []) (clos := []) ⟨e0.keep_cls (g.frag 114 _ rfl) (by simp), ⟨_, _, _, _, rfl⟩, ?_⟩ kp0 (g.ext e0).nolimit ht hA' (.cons (.val _) (.cons (.str _ _) .nil)) rfl rfl rfl (by decide) (by decide +kernel) rfl (by decide +kernel)
    (by rintro doc pm cv ctv (_ | ⟨v, _ | ⟨w, _ | ⟨u, _⟩⟩⟩) h <;> first | rfl | simp at h) (by simp) (by intro y d hy; cases hy) ?_ fun env h₁ t₁ E' hsc hf kp f n₁ hA₁ hloc => ?_
  · exact (coderec_of (C := C1 w mg mb) g ⟨_, _, _, _, rfl, rfl, rfl, rfl⟩).keeps kp0
  · intro y hy
    have := mem_of_lookup hy
    simp only [List.mem_cons, List.not_mem_nil, or_false, Prod.mk.injEq, reduceCtorEq, and_false] at this
  dsimp only [List.zip, List.zipWith, List.append_nil] at f
  have hxh : hh.get? x = none := by rw [← hXd, ← hDd]; exact fresh_above _ (Nat.le_succ _)
  have hdh : hh.get? dx = none := by rw [← hDd]; exact fresh_push _
  have e₁ : Ext (C1 w mg mb) hh h₁ := .of_keeps fun b o e => kp b o (kp0 b o e)
  have I₁ : InstP h₁ x dx 159 fun _ => none := I0.at (fun o e => kp _ _ e) (fun o e => kp _ _ e)
  have hlx : x ≠ env.locals := by
    rintro rfl
    obtain ⟨m, ⟨o, es, ep, e, hd, _⟩, _⟩ := f.ns
    obtain ⟨o2, e2, _, _, hp⟩ := I₁.obj
    rw [e] at e2; cases e2; rw [hp] at hd; cases hd
  have hld : dx ≠ env.locals := by
    rintro rfl
    obtain ⟨o, es, ep, e, _⟩ := I0.ns
    exact absurd e (by rw [hloc]; simp)
  have hxC : x ≠ 159 := fun z => by
    have := g.frag 159 _ rfl
    rw [← z] at this; exact absurd this (by rw [hxh]; simp)
  refine wpAny_execs_cons (plainObj_wpAny_Assign_Attribute ?_ rfl)
  refine EvT.use (k := 3) (d := .str text) (ev_name rfl rfl rfl) every env _ _ _ _ ⟨fun _ _ => trivial, n₁⟩ hsc hA₁ f (g.ext e₁) fun v h₂ t₂ n₂ x₂ r₂ => ?_
  obtain ⟨tt, rfl⟩ := r₂.asStr
  refine EvT.use (k := 3) (d := .val (.ref x)) (ev_name rfl rfl rfl) every env _ _ _ _ ⟨fun _ _ => trivial, n₂⟩ hsc hA₁ (f.ext x₂) (g.ext (e₁.trans x₂)) fun v h₃ t₃ n₃ x₃ r₃ => ?_
  cases r₃
  have I₃ := I₁.ext (x₂.trans x₃)
  have e₃ := e₁.trans (x₂.trans x₃)
  have f₃ := f.ext (x₂.trans x₃)
  refine wpAny_with_toks (s := { heap := h₃, gens := gg, drawn := dr, toks := t₃, os := os }) n₃ (set_attr (C := C1 w mg mb) (ns := []) I₃ (cls1 (g.ext e₃).frag) (by kernel_rfl) (by kernel_rfl) (by rw [typeLookup_type, builtinLookup_eq_fast]; kernel_rfl) hxC (by within_ways) (by decide) fun h₄ t₄ I₄ k₄ n₄ => ?_)
  have e₄ := e₃.inst I₃ hxh hdh k₄
  have f₄ := f₃.inst I₃ rfl hld k₄
  refine wpAny_execs_cons (ExS.use (k := 3) (o := .next _) (exs_swap2 (d1 := .str (Str.ofString " ")) (d2 := .str (Str.ofString "\t")) (ev_tuple (evs_cons (ev_cls_str (Cl := 159) (mc := .type "type") rfl rfl rfl (by kernel_rfl) rfl (fun _ => rfl)) (evs_cons (ev_cls_str (Cl := 159) (mc := .type "type") rfl rfl rfl (by kernel_rfl) rfl (fun _ => rfl)) evs_nil (fun _ => rfl)) (fun _ => rfl)) ⟨by decide, by decide⟩) (.inl rfl) (.inl rfl) (fun _ _ => rfl) (fun env he => by
    have hk : ∀ y, env.kindOf y = _ := fun y => by unfold Env.kindOf; rw [he]
    unfold swappedStores Env.blockKind; simp only [hk, he]; rfl)) every env _ _ _ _ hh (fun _ _ => trivial) n₄ hsc hA₁ hf g e₄ f₄ fun fl h₅ t₅ n₅ e₅ k₅ o₅ => ?_)
  obtain ⟨rfl, f₅⟩ := o₅
  have I₅ := I₄.kd k₅ hlx hld
  refine wpAny_execs_cons (ExS.use (k := 3) (o := .next _) (exs_assign (ev_list evs_nil (by decide)) (.inl rfl) (fun _ _ => rfl)) every env _ _ _ _ hh (fun _ _ => trivial) n₅ hsc hA₁ hf g e₅ f₅ fun fl h₆ t₆ n₆ e₆ k₆ o₆ => ?_)
  obtain ⟨rfl, f₆⟩ := o₆
  have I₆ := I₅.kd k₆ hlx hld
  refine wpAny_execs_cons (ExS.use (k := 3) (o := .next _) (exs_assign3 ev_int (as_name trivial (.inl rfl)) (as_name trivial (.inl rfl)) (as_name trivial (.inl rfl)) (fun _ _ => rfl)) every env _ _ _ _ hh (fun _ _ => trivial) n₆ hsc hA₁ hf g e₆ f₆ fun fl h₇ t₇ n₇ e₇ k₇ o₇ => ?_)
  obtain ⟨rfl, f₇⟩ := o₇
  have I₇ := I₆.kd k₇ hlx hld
  have hlen : text.cps.toList.length = d + 3 := by rw [hx]; simp
  have hc1 : ∀ i, i < d → text.cps.toList[i]? = some 32 := fun i hi => by rw [hx, List.getElem?_append_left (by simpa using hi)]; simp [hi]
  have hc2 : text.cps.toList[d]? = some 9 := by rw [hx, List.getElem?_append_right (by simp)]; simp
  have hc3 : text.cps.toList[d + 1]? = some 120 := by rw [hx, List.getElem?_append_right (by simp)]; simp
  have hasc : text.cps.all (· < 128) = true := by
    rw [← Array.all_toList, hx]
    simp
  generalize hS : (fun i : Nat => (Str.ofString "nt", D.int (if i ≤ d then 0 else 1)) :: (Str.ofString "n", D.int (i : Int)) :: (Str.ofString "b", D.int (if i ≤ d then (i : Int) else 0)) :: (Str.ofString "count", D.list (if i ≤ d then [] else dInts (wsCounts d))) :: (Str.ofString "S", D.str (Str.ofString " ")) :: (Str.ofString "T", D.str (Str.ofString "\t")) :: [(Str.ofString "self", D.val (.ref x)), (Str.ofString "ws", D.str text)]) = S
  have S1 : ∀ i, i ≤ d → S i = (Str.ofString "nt", D.int 0) :: (Str.ofString "n", D.int (i : Int)) :: (Str.ofString "b", D.int (i : Int)) :: (Str.ofString "count", D.list []) :: (Str.ofString "S", D.str (Str.ofString " ")) :: (Str.ofString "T", D.str (Str.ofString "\t")) :: [(Str.ofString "self", D.val (.ref x)), (Str.ofString "ws", D.str text)] := fun i hi => by rw [← hS]; simp only [if_pos hi]
  have S2 : S (d + 1) = (Str.ofString "nt", D.int 1) :: (Str.ofString "n", D.int ((d + 1 : Nat) : Int)) :: (Str.ofString "b", D.int 0) :: (Str.ofString "count", D.list (dInts (wsCounts d))) :: (Str.ofString "S", D.str (Str.ofString " ")) :: (Str.ofString "T", D.str (Str.ofString "\t")) :: [(Str.ofString "self", D.val (.ref x)), (Str.ofString "ws", D.str text)] := by rw [← hS]; simp only [if_neg (show ¬ d + 1 ≤ d by omega)]
  refine wpAny_execs_cons (wpAny_with_toks (s := { heap := h₇, gens := gg, drawn := dr, toks := t₇, os := os }) n₇ (for_brk_at (C := C1 w mg mb) (k := 3) (ok := every) (ds := text.cps.toList.map fun c => D.str ⟨#[c]⟩) S (fun i => (Str.ofString "ch", .str ⟨#[text.cps.toList.getD i 0]⟩) :: S i) (σ' := (Str.ofString "ch", .str ⟨#[text.cps.toList.getD (d + 1) 0]⟩) :: S (d + 1))
    (d + 1) (dj := .str ⟨#[120]⟩) ?_ ?_ ?_ ?_ ?_ (fun _ _ => rfl) (fun _ _ => trivial) hsc hA₁ hf g e₇ f₇ ?_ fun fl h₈ t₈ e₈ k₈ o₈ n₈' => ?_))
  · exact S1 0 (Nat.zero_le _)
  · rw [List.getElem?_map, hc3]; rfl
  · intro i dd hi hdd
    have hgi : dd = .str ⟨#[text.cps.toList.getD i 0]⟩ := by
      rw [List.getElem?_map] at hdd
      obtain ⟨c, h1, rfl⟩ := Option.map_eq_some_iff.mp hdd
      rw [List.getD_eq_getElem?_getD, h1]; rfl
    subst hgi
    exact as_name trivial (.inl rfl)
  · intro i dd hi hdd
    by_cases hid : i < d
    · have hch : text.cps.toList.getD i 0 = 32 := by rw [List.getD_eq_getElem?_getD, hc1 i hid]; rfl
      rw [hch, S1 i (by omega), S1 (i + 1) (by omega)]
      refine ex_weaken (ex_cons (exs_if_t (ts_cmp (ev_name rfl rfl rfl) (ev_name rfl rfl rfl) (op_eqstr.is (c' := .bool true) (congrArg D.bool (by decide))) rfl) (ex_cons (exs_assign (ev_binop (ev_name rfl rfl rfl) ev_int op_add_int) (.inl rfl) (fun _ _ => rfl)) (ex_cons (exs_assign (ev_binop (ev_name rfl rfl rfl) ev_int op_add_int) (.inl rfl) (fun _ _ => rfl)) ex_nil))) ex_nil) ?_
      intro nm dd hh
      have hm := mem_of_lookup hh
      simp only [List.mem_cons, List.not_mem_nil, or_false, Prod.mk.injEq] at hm
      rcases hm with ⟨rfl, rfl⟩ | ⟨rfl, rfl⟩ | ⟨rfl, rfl⟩ | ⟨rfl, rfl⟩ | ⟨rfl, rfl⟩ | ⟨rfl, rfl⟩ | ⟨rfl, rfl⟩ | ⟨rfl, rfl⟩ <;> rfl
    · have hid' : i = d := by omega
      subst hid'
      have hch : text.cps.toList.getD i 0 = 9 := by rw [List.getD_eq_getElem?_getD, hc2]; rfl
      rw [hch, S1 i (by omega), S2]
      refine ex_cons (exs_if_f (ts_cmp (ev_name rfl rfl rfl) (ev_name rfl rfl rfl) (op_eqstr.is (c' := .bool false) (congrArg D.bool (by decide))) rfl) ?_) ex_nil
      refine ex_cons (exs_if_t (ts_cmp (ev_name rfl rfl rfl) (ev_name rfl rfl rfl) (op_eqstr.is (c' := .bool true) (congrArg D.bool (by decide))) rfl) ?_) ex_nil
      refine ex_cons (exs_assign (ev_binop (ev_name rfl rfl rfl) ev_int op_add_int) (.inl rfl) (fun _ _ => rfl)) (ex_cons (exs_assign (ev_binop (ev_name rfl rfl rfl) ev_int op_add_int) (.inl rfl) (fun _ _ => rfl)) ?_)
      have hil : (i : Int) - ((0 : Nat) : Int) + 1 = ((i + 1 : Nat) : Int) := by omega
      refine ex_own_if (ds := dInts (List.replicate (i + 1) 0)) ?_ ?_ (.inl rfl) (fun _ _ => rfl) fun a => ?_
      · refine ts_cmp (ev_name rfl rfl rfl) (ev_call_builtin (id := "len") rfl rfl (by kernel_rfl) (by decide) rfl (evs_cons (ev_name rfl rfl rfl) evs_nil (fun _ => rfl)) (ct_len (xs := []) (by decide)) (fun _ => rfl) (fun _ => rfl)) (op_ge_int.is (c' := .bool true) ?_) rfl
        simp
      · refine (new_binop (ev_name rfl rfl rfl) (ev_binop (ev_list (ds := [.int 0]) (evs_cons ev_int evs_nil (fun _ => rfl)) (by decide)) (ev_binop (ev_binop (ev_name rfl rfl rfl) (ev_call_builtin (id := "len") rfl rfl (by kernel_rfl) (by decide) rfl (evs_cons (ev_name rfl rfl rfl) evs_nil (fun _ => rfl)) (ct_len (xs := []) (by decide)) (fun _ => rfl) (fun _ => rfl)) op_sub_int) ev_int (op_add_int.is (congrArg D.int hil))) (op_mullist ?_ ?_ ?_)) (opn_addlist ?_)).is ?_
        · omega
        · simp; omega
        · omega
        · simp; omega
        · rw [flat_rep]; simp
      · have hle : (dInts (List.replicate (i + 1) 0)).length = i + 1 := by simp
        refine exo_cons (exs_setitem (a := a) (ds := dInts (List.replicate (i + 1) 0)) (i := (i : Int)) (d := .int 1) rfl rfl ?_ (ev_name rfl rfl rfl) (by omega) (by rw [hle]; omega) (by omega) rfl rfl (fun _ _ => rfl)) ?_
        · refine ev_shown (x := Str.ofString "count") (ds := dInts (List.replicate (i + 1) 0)) rfl rfl ?_
          exact ev_binop (ev_sub (a := .list (dInts (List.replicate (i + 1) 0))) (ev_name rfl rfl rfl) (ev_name rfl rfl rfl) list_getitem_lookup (op_getlist (d := .int 0) (by omega) (by simp) (by omega)) (fun _ _ => rfl)) ev_int op_add_int
        have hset : (dInts (List.replicate (i + 1) 0)).set (i : Int).toNat (D.int 1) = dInts (wsCounts i) := by
          unfold wsCounts dInts
          rw [Int.toNat_natCast, ← List.replicate_append_replicate, List.map_append, List.set_append_right _ _ (by simp)]
          simp
        rw [hset]
        refine exo_end (x := Str.ofString "count") (ds := dInts (wsCounts i)) rfl rfl ?_
        refine ex_weaken (ex_cons (exs_assign ev_int (.inl rfl) (fun _ _ => rfl)) ex_nil) ?_
        intro nm dd hh
        have hm := mem_of_lookup hh
        simp only [List.mem_cons, List.not_mem_nil, or_false, Prod.mk.injEq] at hm
        rcases hm with ⟨rfl, rfl⟩ | ⟨rfl, rfl⟩ | ⟨rfl, rfl⟩ | ⟨rfl, rfl⟩ | ⟨rfl, rfl⟩ | ⟨rfl, rfl⟩ | ⟨rfl, rfl⟩ | ⟨rfl, rfl⟩ <;> rfl
  · have hch : text.cps.toList.getD (d + 1) 0 = 120 := by rw [List.getD_eq_getElem?_getD, hc3]; rfl
    rw [hch, S2]
    exact ex_cons_brk (exs_if_f (ts_cmp (ev_name rfl rfl rfl) (ev_name rfl rfl rfl) (op_eqstr.is (c' := .bool false) (congrArg D.bool (by decide))) rfl) (ex_cons_brk (exs_if_f (ts_cmp (ev_name rfl rfl rfl) (ev_name rfl rfl rfl) (op_eqstr.is (c' := .bool false) (congrArg D.bool (by decide))) rfl) (ex_cons_brk exs_brk))))
  · intro Q' E'' qq
    rw [arm_eval_Attribute]
    refine wpAny_bind (EvT.use (k := 3) (d := .val (.ref x)) (ev_name rfl rfl rfl) every env _ _ _ _ ⟨fun _ _ => trivial, n₇⟩ hsc hA₁ f₇ (g.ext e₇) fun v h₈ t₈ n₈ x₈ r₈ => ?_)
    cases r₈
    refine wpAny_bind (wpAny_standAt (wpAny_bind (wpAny_holding ?_)))
    refine get_attr (C := C1 w mg mb) (I₇.ext x₈) (cls1 (g.ext (e₇.trans x₈)).frag) (by kernel_rfl) (by kernel_rfl) (by rw [typeLookup_type, builtinLookup_eq_fast]; kernel_rfl) (if_pos rfl) rfl ?_
    refine wpAny_bind (wpAny_letTemporaryGo (wpAny_pure ?_))
    refine wpAny_pyIter_ascii hasc ?_
    refine qq _ _ _ _ (Nat.le_add_left _ _) (x₈.trans (.push _ _)) (x₈.fresh (fresh_push _)) (itw_str trivial hA₁.hd text tt _ _ (Walks.strAscii hA₁.hd _ text tt) ⟨_, Heap.get?_push_size _ rfl, rfl, rfl⟩ fun i h' st => ⟨_, st, by decide⟩)
  · obtain ⟨rfl, f₈⟩ := o₈
    have I₈ := I₇.kd k₈ hlx hld
    rw [S2] at f₈
    refine attr_step (k := 3) rfl (ev_name rfl rfl rfl) rfl I₈ n₈' hsc hA₁ f₈ e₈ g hxh hdh hld hxC (by kernel_rfl) (by kernel_rfl) (by rw [typeLookup_type, builtinLookup_eq_fast]; kernel_rfl) (ns := [Str.ofString "raw"]) (by within_ways) (by decide) rfl fun v1 h₉ t₉ n₉ e₉ I₉ f₉ r₉ k₉ => ?_
    refine attr_step (k := 3) rfl (ev_name rfl rfl rfl) rfl I₉ n₉ hsc hA₁ f₉ e₉ g hxh hdh hld hxC (by kernel_rfl) (by kernel_rfl) (by rw [typeLookup_type, builtinLookup_eq_fast]; kernel_rfl) (ns := [Str.ofString "n", Str.ofString "raw"]) (by within_ways) (by decide) rfl fun v2 h₁₀ t₁₀ n₁₀ e₁₀ I₁₀ f₁₀ r₁₀ k₁₀ => ?_
    refine attr_step (k := 3) (d := .tuple [.tuple (dInts (wsCounts d)), .int 0]) rfl (ev_tuple (evs_cons (ev_call_type (T := "tuple") rfl rfl (by kernel_rfl) (by decide) rfl (evs_cons (ev_name rfl rfl rfl) evs_nil (fun _ => rfl)) (ct_tuple (by simp [wsCounts]; omega)) (fun _ => rfl) (fun _ => rfl)) (evs_cons (ev_name rfl rfl rfl) evs_nil (fun _ => rfl)) (fun _ => rfl)) ⟨by simp, by simp⟩) rfl I₁₀ n₁₀ hsc hA₁ f₁₀ e₁₀ g hxh hdh hld hxC (by kernel_rfl) (by kernel_rfl) (by rw [typeLookup_type, builtinLookup_eq_fast]; kernel_rfl) (ns := [Str.ofString "nt", Str.ofString "n", Str.ofString "raw"]) (by within_ways) (by decide) rfl fun v3 h₁₁ t₁₁ n₁₁ e₁₁ I₁₁ f₁₁ r₁₁ k₁₁ => ?_
    refine attr_step (k := 3) rfl (ev_cmp (ev_call_builtin (id := "len") rfl rfl (by kernel_rfl) (by decide) rfl (evs_cons (ev_name rfl rfl rfl) evs_nil (fun _ => rfl)) (ct_len (xs := dInts (wsCounts d)) (by simp [wsCounts]; omega)) (fun _ => rfl) (fun _ => rfl)) ev_int op_le_int rfl) rfl I₁₁ n₁₁ hsc hA₁ f₁₁ e₁₁ g hxh hdh hld hxC (by kernel_rfl) (by kernel_rfl) (by rw [typeLookup_type, builtinLookup_eq_fast]; kernel_rfl) (ns := [Str.ofString "norm", Str.ofString "nt", Str.ofString "n", Str.ofString "raw"]) (by within_ways) (by decide) rfl fun v4 h₁₂ t₁₂ n₁₂ e₁₂ I₁₂ f₁₂ r₁₂ k₁₂ => ?_
    refine wpAny_execs_nil ⟨rfl, q x dx h₁₂ t₁₂ n₁₂ e₁₂ hxh ⟨_, I₁₂, ⟨v3, by kernel_rfl, k₁₂ _ _ r₁₁⟩, ?_, ?_⟩⟩
    · obtain ⟨t2, rfl⟩ := r₁₀.asInt
      exact ⟨t2, by kernel_rfl⟩
    · intro y hy
      simp only [List.mem_cons, List.not_mem_nil, or_false, not_or] at hy
      simp only [hy.1, hy.2.1, hy.2.2.1, hy.2.2.2.1, hy.2.2.2.2, if_false]
end
end Mine
set_option maxRecDepth 100000
namespace Mine
theorem ct_lenT {C : Cx} {k : Nat} {xs : List D} (hn : xs.length ≤ 1000000) : CT C k (.builtin "len") [.tuple xs] (.int xs.length) := by
  intro ok A s Q E vs hal hA g r q
  obtain ⟨v, rfl, r1⟩ := r.one
  obtain ⟨a, vs, n, rfl, ha, l, rl⟩ := r1.asTuple
  have e := rl.length
  rw [Array.length_toList] at e
  refine len_tuple (Rep.isTuple l) (by rw [e]; omega) ?_
  rw [e]
  exact q _ s.heap _ (.refl _) (.int _ _)
section
variable {w : World} {mg mb : Str → Option Value} {ok : Addr → Prop} {k : Nat} {sc : Scope} {σ : Store}

/-- a field of a made object that a name holds is read -/
theorem ev_field {A : Around} {s : Shared} {Q E : Value → Shared → Prop} {env : Env} {x dx : Addr} {mA : Str → Option Value} {nm name : Str} {p apos : Pos} {v : Value}
    (hx : σ.lookup nm = some (.val (.ref x))) (hd : (nm == ("__debug__" : Str)) = false) (hc : (nm == ("__classdict__" : Str)) = false) (I : InstP s.heap x dx 159 mA) (hv : mA name = some v) (hal : Al ok s) (hsc : env.scope = sc) (hA : Room A k) (f : FS (C1 w mg mb) ok env σ s.heap) (g : G (C1 w mg mb) s.heap)
    (hng : mN1 w "__getattribute__" = none) (hna : mN1 w name = none) (hB : typeLookup (.type "object") name = pure none) (hh : handedOut v = pure v)
    (hbase : attributeBase (.Name nm p) name env (eval (.Name nm p) env) = eval (.Name nm p) env)
    (q : ∀ h' tk, 1 ≤ tk → Ext (C1 w mg mb) s.heap h' → Q v { s with heap := h', toks := tk }) : wpAny (C1 w mg mb).M A (eval (.Attribute (.Name nm p) name apos) env) Q E s := by
  rw [arm_eval_Attribute, hbase]
  refine wpAny_bind ((ev_name (C := C1 w mg mb) (k := k) (sc := sc) hx hd hc).use ok env A s _ _ hal hsc hA f g fun v' h₁ t₁ n₁ x₁ r₁ => ?_)
  cases r₁
  refine wpAny_bind (wpAny_standAt (wpAny_bind (wpAny_holding ?_)))
  refine get_attr (C := C1 w mg mb) (I.ext x₁) (cls1 (g.ext x₁).frag) hng hna hB hv hh ?_
  exact wpAny_bind (wpAny_letTemporaryGo (wpAny_pure (q _ _ (Nat.le_add_left _ _) x₁)))

theorem level_val {d sz : Nat} : (0 : Int) + (sz : Int) * (((d / sz : Nat) : Int) + 1) = ((sz * (d / sz + 1) : Nat) : Int) := by
  rw [Int.zero_add, Int.natCast_mul, Int.natCast_add]; rfl

theorem level_call {A : Around} {s : Shared} {Q E : Value → Shared → Prop} {x dx : Addr} {d sz : Nat} {u : Tok} (W : WsAt (C1 w mg mb) s.heap x dx 159 d) (hd : d ≤ 100) (h1 : 1 ≤ sz) (h2 : sz ≤ 100) (ht : 1 ≤ s.toks) (hA : Room A 4) (g : G (C1 w mg mb) s.heap)
    (q : ∀ t h' tk, 1 ≤ tk → Ext (C1 w mg mb) s.heap h' → Q (.int ((sz * (d / sz + 1) : Nat) : Int) t) { s with heap := h', toks := tk }) : wpAny (C1 w mg mb).M A (call (.ref 128) [.ref x, .int sz u]) Q E s := by
  refine inner_call' (C := C1 w mg mb) (ok := every) (k := 3) (hb := s.heap) (fi := 128) (names := [Str.ofString "self", Str.ofString "tabsize"]) (ds := [.val (.ref x), .int sz]) (σc := []) (clos := []) ⟨g.frag 128 _ rfl, ⟨_, _, _, _, rfl⟩, ?_⟩ (fun _ _ e => e) g.nolimit ht hA (.cons (.val _) (.cons (.int _ _) .nil)) rfl rfl rfl (by decide) (by decide +kernel) rfl (by decide +kernel)
    (by rintro doc pm cv ctv (_ | ⟨v, _ | ⟨w, _ | ⟨u, _⟩⟩⟩) h <;> first | rfl | simp at h) (by simp) (by intro y d hy; cases hy) ?_ fun env h₁ t₁ E' hsc hf kp f n₁ hA₁ hloc => ?_
  · exact coderec_of (C := C1 w mg mb) g ⟨_, _, _, _, rfl, rfl, rfl, rfl⟩
  · intro y hy
    have := mem_of_lookup hy
    simp only [List.mem_cons, List.not_mem_nil, or_false, Prod.mk.injEq, reduceCtorEq, and_false] at this
  dsimp only [List.zip, List.zipWith, List.append_nil] at f
  have e₁ : Ext (C1 w mg mb) s.heap h₁ := .of_keeps kp
  have W₁ := W.ext e₁
  obtain ⟨mA, I₁, ⟨v, hv, rv⟩, ⟨t2, hnt⟩, hno⟩ := W₁.go
  have hor : handedOut v = pure v := by
    cases rv <;> rfl
  refine wpAny_execs_cons (Assign_Tuple ?_ rfl rfl)
  refine ev_field (k := 3) (ok := every) rfl rfl rfl I₁ hv ⟨fun _ _ => trivial, n₁⟩ hsc hA₁ f (g.ext e₁) (by kernel_rfl) (by kernel_rfl) (by rw [typeLookup_type, builtinLookup_eq_fast]; kernel_rfl) hor rfl fun h₂ t₂ n₂ x₂ => ?_
  have e₂ := e₁.trans x₂
  refine AsT.use (N := fun _ => True) (d := .tuple [.tuple (dInts (wsCounts d)), .int 0]) (as_tuple (ass_cons (as_name trivial (.inl rfl)) (ass_cons (as_name trivial (.inl rfl)) ass_nil)) (fun _ => rfl) (fun _ => rfl)) every env _ _ _ _ s.heap v n₂ hsc hA₁.hd hf g e₂ (f.ext x₂) (rv.ext x₂) fun h₃ t₃ n₃ e₃ k₃ f₃ => ?_
  have hlx : x ≠ env.locals := by
    rintro rfl
    obtain ⟨m, ⟨o, es, ep, e, hd, _⟩, _⟩ := f.ns
    obtain ⟨o2, e2, _, _, hp⟩ := I₁.obj
    rw [e] at e2; cases e2; rw [hp] at hd; cases hd
  have hld : dx ≠ env.locals := by
    obtain ⟨mA', I', _⟩ := W.go
    rintro rfl
    obtain ⟨o, es, ep, e, _⟩ := I'.ns
    exact absurd e (by rw [hloc]; simp)
  have I₃ := (I₁.ext x₂).kd k₃ hlx hld
  generalize hS : (fun i : Nat => (Str.ofString "il", D.int ((if d < sz + i then d / sz else 0 : Nat) : Int)) :: [(Str.ofString "trailing", D.int 0), (Str.ofString "count", D.tuple (dInts (wsCounts d))), (Str.ofString "self", D.val (.ref x)), (Str.ofString "tabsize", D.int sz)]) = S
  have hN : ((d + 1 : Nat) : Int) - (sz : Int) = ((d + 1 : Nat) : Int) - (sz : Int) := rfl
  have hwl : (wsCounts d).length = d + 1 := by simp [wsCounts]
  refine wpAny_execs_cons (ExS.use (k := 3) (o := .next _) (exs_assign ev_int (.inl rfl) (fun _ _ => rfl)) every env _ _ _ _ s.heap (fun _ _ => trivial) n₃ hsc hA₁ hf g e₃ f₃ fun fl h₄ t₄ n₄ e₄ k₄ o₄ => ?_)
  obtain ⟨rfl, f₄⟩ := o₄
  have I₄ := I₃.kd k₄ hlx hld
  refine wpAny_execs_cons (ExS.use (k := 3) (o := .next _) (exs_for (ds := dInts (upFrom (sz : Int) ((d + 1 : Nat) - (sz : Int)).toNat)) S (fun i => (Str.ofString "i", .int ((sz + i : Nat) : Int)) :: S i) ?_ ?_ ?_ ?_ (fun _ _ => rfl)) every env _ _ _ _ s.heap (fun _ _ => trivial) n₄ hsc hA₁ hf g e₄ f₄ fun fl h₅ t₅ n₅ e₅ k₅ o₅ => ?_)
  · refine it_range2 rfl rfl (by kernel_rfl) rfl (ev_name rfl rfl rfl) ((ev_call_builtin (id := "len") rfl rfl (by kernel_rfl) (by decide) rfl (evs_cons (ev_name rfl rfl rfl) evs_nil (fun _ => rfl)) (ct_lenT (xs := dInts (wsCounts d)) (by simp [wsCounts]; omega)) (fun _ => rfl) (fun _ => rfl)).is ?_) (by omega) (by omega) (by omega) (by omega) (fun _ => rfl)
    rw [List.length_map, hwl]
  · rw [← hS]
    show _ :: _ = _ :: _
    congr 3
    by_cases h : d < sz
    · simp [h, Nat.div_eq_of_lt h]
    · simp [h]
  · intro i dd hdd
    have hi : i < ((d + 1 : Nat) - (sz : Int)).toNat := by have := (List.getElem?_eq_some_iff.mp hdd).1; simpa [upFrom_length] using this
    have : dd = .int ((sz + i : Nat) : Int) := by
      rw [List.getElem?_map, upFrom_get hi] at hdd
      simp at hdd; rw [← hdd]; simp
    subst this
    exact as_name trivial (.inl rfl)
  · intro i dd hdd
    have hi : i < ((d + 1 : Nat) - (sz : Int)).toNat := by have := (List.getElem?_eq_some_iff.mp hdd).1; simpa [upFrom_length] using this
    have hsi : sz + i ≤ d := by omega
    have hc : (dInts (wsCounts d))[(((sz + i : Nat) : Int)).toNat]? = some (.int (if sz + i = d then 1 else 0)) := by
      rw [Int.toNat_natCast, List.getElem?_map]
      unfold wsCounts
      by_cases h : sz + i = d
      · rw [List.getElem?_append_right (by simp [h])]; simp [h]
      · rw [List.getElem?_append_left (by simp; omega), if_neg h, List.getElem?_replicate, if_pos (by omega)]; rfl
    have hdiv : ((sz + i : Nat) : Int).fdiv (sz : Int) = (((sz + i) / sz : Nat) : Int) := by
      rw [Int.fdiv_eq_ediv_of_nonneg _ (by omega)]; exact (Int.natCast_ediv _ _).symm
    have hq : (sz + i) / sz ≤ 200 := Nat.le_trans (Nat.div_le_self _ _) (by omega)
    rw [← hS]
    dsimp only
    refine ex_weaken (ex_cons (exs_assign (ev_binop (ev_name rfl rfl rfl) (ev_binop (ev_binop (ev_name rfl rfl rfl) (ev_name rfl rfl rfl) ((op_div_int (by omega) (PyProof.noPylong_of_log2 ?_)).is (congrArg D.int hdiv))) (ev_sub (a := .tuple (dInts (wsCounts d))) (ev_name rfl rfl rfl) (ev_name rfl rfl rfl) F.slot_tuple_getitem.lookup (op_gettuple (by omega) hc (by omega)) (fun _ _ => rfl)) (op_mul_int ?_)) op_add_int) (.inl rfl) (fun _ _ => rfl)) ex_nil) ?_
    · rw [Int.natAbs_natCast]
      refine Nat.lt_of_le_of_lt (Nat.log2_le_self _) (by omega)
    · exact IntMulOk.of_right (intBits_le_64 (by split <;> omega) (by split <;> omega))
    intro nm dd hh
    have hm := mem_of_lookup hh
    simp only [List.mem_cons, List.not_mem_nil, or_false, Prod.mk.injEq] at hm
    rcases hm with ⟨rfl, rfl⟩ | ⟨rfl, rfl⟩ | ⟨rfl, rfl⟩ | ⟨rfl, rfl⟩ | ⟨rfl, rfl⟩
    · show some _ = some _
      congr 2
      by_cases h : sz + i = d
      · have a1 : ¬ d < sz + i := by omega
        have a2 : d < sz + (i + 1) := by omega
        simp [h, a1, a2]
      · have a1 : ¬ d < sz + i := by omega
        have a2 : ¬ d < sz + (i + 1) := by omega
        simp [h, a1, a2]
    · rfl
    · rfl
    · rfl
    · rfl
  obtain ⟨rfl, f₅⟩ := o₅
  have I₅ := I₄.kd k₅ hlx hld
  have hlast : S (dInts (upFrom (sz : Int) ((d + 1 : Nat) - (sz : Int)).toNat)).length = (Str.ofString "il", D.int ((d / sz : Nat) : Int)) :: [(Str.ofString "trailing", D.int 0), (Str.ofString "count", D.tuple (dInts (wsCounts d))), (Str.ofString "self", D.val (.ref x)), (Str.ofString "tabsize", D.int sz)] := by
    rw [← hS, List.length_map, upFrom_length]
    dsimp only
    congr 3
    split
    · rfl
    · exfalso; omega
  rw [hlast] at f₅
  have hdz : d / sz ≤ 100 := Nat.le_trans (Nat.div_le_self _ _) hd
  have hmb : IntMulOk (sz : Int) (((d / sz : Nat) : Int) + 1) := by
    generalize d / sz = qd at hdz
    exact IntMulOk.of_right (intBits_le_64 (by omega) (by omega))
  refine wpAny_execs_cons (wpAny_Return_some (wpAny_BinOp ?_))
  refine EvT.use (k := 3) (d := .int 0) (ev_name rfl rfl rfl) every env _ _ _ _ ⟨fun _ _ => trivial, n₅⟩ hsc hA₁ f₅ (g.ext e₅) fun v1 h₆ t₆ n₆ x₆ r₆ => ?_
  obtain ⟨u1, rfl⟩ := r₆.asInt
  refine wpAny_BinOp ?_
  refine EvT.use (k := 3) (d := .int sz) (ev_name rfl rfl rfl) every env _ _ _ _ ⟨fun _ _ => trivial, n₆⟩ hsc hA₁ (f₅.ext x₆) (g.ext (e₅.trans x₆)) fun v2 h₇ t₇ n₇ x₇ r₇ => ?_
  obtain ⟨u2, rfl⟩ := r₇.asInt
  refine wpAny_BinOp ?_
  have x67 := x₆.trans x₇
  refine EvT.use (k := 3) (d := .int ((d / sz : Nat) : Int)) (ev_name rfl rfl rfl) every env _ _ _ _ ⟨fun _ _ => trivial, n₇⟩ hsc hA₁ (f₅.ext x67) (g.ext (e₅.trans x67)) fun v3 h₈ t₈ n₈ x₈ r₈ => ?_
  obtain ⟨u3, rfl⟩ := r₈.asInt
  have x68 := x67.trans x₈
  refine ev_field (k := 3) (ok := every) rfl rfl rfl (I₅.ext x68) hnt ⟨fun _ _ => trivial, n₈⟩ hsc hA₁ (f₅.ext x68) (g.ext (e₅.trans x68)) (by kernel_rfl) (by kernel_rfl) (by rw [typeLookup_type, builtinLookup_eq_fast]; kernel_rfl) rfl rfl fun h₉ t₉ n₉ x₉ => ?_
  have e₉ := e₅.trans (x68.trans x₉)
  refine (op_add_int (C := C1 w mg mb)).use every _ _ _ _ _ _ ⟨fun _ _ => trivial, n₉⟩ hA₁.hd hA₁.cl (g.ext e₉) (.int _ _) (.int _ _) fun v4 h₁₀ t₁₀ n₁₀ x₁₀ r₁₀ => ?_
  obtain ⟨u4, rfl⟩ := r₁₀.asInt
  refine (op_mul_int (C := C1 w mg mb) hmb).use every _ _ _ _ _ _ ⟨fun _ _ => trivial, n₁₀⟩ hA₁.hd hA₁.cl (g.ext (e₉.trans x₁₀)) (.int _ _) (.int _ _) fun v5 h₁₁ t₁₁ n₁₁ x₁₁ r₁₁ => ?_
  obtain ⟨u5, rfl⟩ := r₁₁.asInt
  refine (op_add_int (C := C1 w mg mb)).use every _ _ _ _ _ _ ⟨fun _ _ => trivial, n₁₁⟩ hA₁.hd hA₁.cl (g.ext ((e₉.trans x₁₀).trans x₁₁)) (.int _ _) (.int _ _) fun v6 h₁₂ t₁₂ n₁₂ x₁₂ r₁₂ => ?_
  obtain ⟨u6, rfl⟩ := r₁₂.asInt
  rw [level_val]
  exact q u6 h₁₂ t₁₂ n₁₂ (((e₉.trans x₁₀).trans x₁₁).trans x₁₂)
end
end Mine
set_option maxRecDepth 100000
namespace Mine
/-- a heap that holds the class alone -/
def onlyAt (h : Heap) (a b : Addr) : Heap := hideAll h ((List.range h.objs.size).filter fun c => c != a && c != b)
theorem onlyAt_of {h : Heap} {a b c : Addr} {o : Obj} (e : (onlyAt h a b).get? c = some o) : (c = a ∨ c = b) ∧ h.get? c = some o := by
  have e' := of_hideAll _ e
  refine ⟨?_, e'⟩
  by_cases h1 : c = a
  · exact .inl h1
  by_cases h2 : c = b
  · exact .inr h2
  have : c ∈ (List.range h.objs.size).filter fun c => c != a && c != b := by
    rw [List.mem_filter]
    exact ⟨List.mem_range.mpr (Heap.lt_size e'), by simp [h1, h2]⟩
  unfold onlyAt at e
  rw [hideAll_none _ this] at e; cases e
theorem onlyAt_get {h : Heap} {a b c : Addr} {o : Obj} (hc : c = a ∨ c = b) (e : h.get? c = some o) : (onlyAt h a b).get? c = some o := by
  refine hideAll_get _ e fun z => ?_
  have := (List.mem_filter.mp z).2
  rcases hc with rfl | rfl <;> simp at this
theorem cls_only {h : Heap} {a b : Addr} {mN : Str → Option Value} (X : ClsAt h a b mN) : ClsAt (onlyAt h a b) a b mN := by
  obtain ⟨nm, q, bs, sn, sub, col, dd, k0, k1, k2, k3, k5, e⟩ := X.obj
  obtain ⟨o, es, ep, e2, r⟩ := X.ns
  exact ⟨⟨nm, q, bs, sn, sub, col, dd, k0, k1, k2, k3, k5, onlyAt_get (.inl rfl) e⟩, o, es, ep, onlyAt_get (.inr rfl) e2, r⟩
theorem only_ext {C : Cx} {h h' : Heap} {a b : Addr} {mN : Str → Option Value} (X : ClsAt h a b mN) (y : Ext C h h') : ∀ c o, (onlyAt h a b).get? c = some o → h'.get? c = some o := by
  intro c o e
  obtain ⟨hc, e'⟩ := onlyAt_of e
  obtain ⟨nm, q, bs, sn, sub, col, dd, k0, k1, k2, k3, k5, e1⟩ := X.obj
  obtain ⟨o2, es, ep, e2, hd, _⟩ := X.ns
  rcases hc with rfl | rfl
  · rw [e'] at e1; cases e1
    exact y.keep_cls e' (by simp [excClassObj])
  · rw [e'] at e2; cases e2
    exact y.keep_data e' (by rw [hd]; simp)

section
variable {w : World} {mg mb : Str → Option Value} {k : Nat} {sc : Scope} {σ : Store}

/-- Whitespace(text) -/
theorem ev_make {ok : Addr → Prop} {env : Env} {A : Around} {s : Shared} {Q E : Value → Shared → Prop} {e : Expr} {p pos : Pos} {text : Str} {d : Nat} (he : EvT (C1 w mg mb) k sc σ e (.str text)) (hx : text.cps.toList = List.replicate d 32 ++ [9, 120, 32]) (hd : d ≤ 100) (hk : 5 ≤ k)
    (hn : sc.names.lookup (Str.ofString "Whitespace") = some .globalImplicit) (hs : ∀ env : Env, starEach [e] env = [(false, eval e env)])
    (hal : Al ok s) (hsc : env.scope = sc) (hA : Room A k) (f : FS (C1 w mg mb) ok env σ s.heap) (g : G (C1 w mg mb) s.heap)
    (q : ∀ x dx h' tk, 1 ≤ tk → Ext (C1 w mg mb) s.heap h' → s.heap.get? x = none → WsAt (C1 w mg mb) h' x dx 159 d → Q (.ref x) { s with heap := h', toks := tk }) :
    wpAny (C1 w mg mb).M A (eval (.Call (.Name (Str.ofString "Whitespace") p) [e] [] pos) env) Q E s := by
  refine wpAny_Call_NameR (name_global hsc f g hn rfl (.inl (mg_of g.frag g.g (by rfl : nsIn (C1 w mg mb).K mainGlobals (Str.ofString "Whitespace") = some (some (.ref 159))))) ?_)
  have X := cls1 (mg := mg) (mb := mb) g.frag
  refine callWith_cls (cls_only X) ?_ (by rw [hs]; rfl) rfl
  refine (evs_cons he evs_nil hs).use ok env A s _ E pos hal hsc hA f g fun vs h₁ t₁ n₁ x₁ r₁ => ⟨only_ext X x₁, ?_⟩
  obtain ⟨v, rfl, r⟩ := r₁.one
  obtain ⟨t, rfl⟩ := r.asStr
  exact ws_make hx hd n₁ (hA.le hk) (g.ext x₁) fun x dx h' tk n e' fr W => q x dx h' tk n (x₁.trans e') (x₁.fresh fr) W

/-- x.indent_level(e2), x a made object that an expression gave -/
theorem meth_level {ok : Addr → Prop} {env : Env} {A : Around} {s : Shared} {Q E : Value → Shared → Prop} {o e2 : Expr} {ap pos : Pos} {x dx : Addr} {d sz : Nat} (W : WsAt (C1 w mg mb) s.heap x dx 159 d) (hd : d ≤ 100) (he2 : EvT (C1 w mg mb) k sc σ e2 (.int sz)) (h1 : 1 ≤ sz) (h2 : sz ≤ 100) (hk : 4 ≤ k)
    (hs : ∀ env : Env, starEach [e2] env = [(false, eval e2 env)]) (hline : (ap.endLine == pos.line) = true)
    (hal : Al ok s) (hsc : env.scope = sc) (hA : Room A k) (f : FS (C1 w mg mb) ok env σ s.heap) (g : G (C1 w mg mb) s.heap)
    (q : ∀ t h' tk, 1 ≤ tk → Ext (C1 w mg mb) s.heap h' → Q (.int ((sz * (d / sz + 1) : Nat) : Int) t) { s with heap := h', toks := tk }) :
    wpAny (C1 w mg mb).M A (methodCall o (Str.ofString "indent_level") ap pos env (.ref x) 1 (backTo pos (starEach [e2] env)) (backToKw pos (keywordEach [] env))) Q E s := by
  obtain ⟨mA, I, _, _, hno⟩ := W.go
  have X := cls1 (mg := mg) (mb := mb) g.frag
  obtain ⟨nm, q', bs, sn, sub, col, dd, k0, k1, k2, k3, k5, hC⟩ := X.obj
  have hform : methodCallForm 1 (backTo pos (starEach [e2] env)) (backToKw pos (keywordEach [] env)) = true := by rw [hs]; rfl
  have hpos : methodCallPos true o env ap pos = pure pos := by unfold methodCallPos; simp [hline]
  unfold methodCall
  rw [hform]
  refine wpAny_bind (wpAny_holding ?_)
  obtain ⟨hh, gg, dr, tk, os⟩ := s
  refine method_of (of := _) hC X.ns (by kernel_rfl) (by kernel_rfl) mN_level (g.frag 128 _ rfl) rfl (y := none) (by rw [typeLookup_type, builtinLookup_eq_fast]; kernel_rfl) I.inst (hno _ (by decide)) ?_
  refine wpAny_bind (wpAny_of_eq hpos ?_)
  refine Calls.callWith_function (o := _) (fd := _) (args_plain hal hsc hA f g (evs_cons he2 evs_nil hs) (fun env => by rw [hs]; rfl) fun vs h₁ t₁ n₁ x₁ r₁ => ⟨⟨(g.ext x₁).frag 128 _ rfl, rfl⟩, ?_⟩)
  obtain ⟨v, rfl, r⟩ := r₁.one
  obtain ⟨t, rfl⟩ := r.asInt
  exact level_call (W.ext x₁) hd h1 h2 n₁ (hA.le hk) (g.ext x₁) fun t h' tk n e' => q t h' tk n (x₁.trans e')

/-- Whitespace(text).indent_level(size) -/
theorem ev_ws {e e2 : Expr} {p p2 ap pos : Pos} {text : Str} {d sz : Nat} (he : EvT (C1 w mg mb) k sc σ e (.str text)) (hx : text.cps.toList = List.replicate d 32 ++ [9, 120, 32]) (hd : d ≤ 100) (he2 : EvT (C1 w mg mb) k sc σ e2 (.int sz)) (h1 : 1 ≤ sz) (h2 : sz ≤ 100) (hk : 5 ≤ k)
    (hn : sc.names.lookup (Str.ofString "Whitespace") = some .globalImplicit) (hs : ∀ env : Env, starEach [e] env = [(false, eval e env)]) (hs2 : ∀ env : Env, starEach [e2] env = [(false, eval e2 env)]) (hline : (ap.endLine == pos.line) = true)
    (hbase : ∀ env : Env, attributeBase (.Call (.Name (Str.ofString "Whitespace") p) [e] [] p2) (Str.ofString "indent_level") env (eval (.Call (.Name (Str.ofString "Whitespace") p) [e] [] p2) env) = eval (.Call (.Name (Str.ofString "Whitespace") p) [e] [] p2) env) :
    EvT (C1 w mg mb) k sc σ (.Call (.Attribute (.Call (.Name (Str.ofString "Whitespace") p) [e] [] p2) (Str.ofString "indent_level") ap) [e2] [] pos) (.int ((sz * (d / sz + 1) : Nat) : Int)) := by
  intro ok env A s Q E hal hsc hA f g q
  rw [arm_eval_Call, hbase]
  refine wpAny_bind (ev_make he hx hd hk hn hs hal hsc hA f g fun x dx h₁ t₁ n₁ x₁ hfr W => wpAny_bind (wpAny_standAt ?_))
  exact meth_level W hd he2 h1 h2 (by omega) hs2 hline (hal.ext x₁ n₁) hsc hA (f.ext x₁) (g.ext x₁) fun t h' tk n e' => q _ h' tk (x₁.trans e') (.int _ _)
end
end Mine
namespace Mine

/-- n steps from m, none of them at an end -/
inductive Steps : Nat → Sre.M → Sre.M → Prop
  | nil (m : Sre.M) : Steps 0 m m
  | cons {n : Nat} {m m' : Sre.M} (h : m.outcome = none) (t : Steps n m.step m') : Steps (n + 1) m m'
theorem Steps.one {n : Nat} {m m₁ m' : Sre.M} (h : m.outcome = none) (e : m.step = m₁) (t : Steps n m₁ m') : Steps (n + 1) m m' := .cons h (e ▸ t)
theorem Steps.trans {a b : Nat} {m m₁ m₂ : Sre.M} (x : Steps a m m₁) (y : Steps b m₁ m₂) : Steps (a + b) m m₂ := by
  induction x with
  | nil => rw [Nat.zero_add]; exact y
  | cons h t ih => rw [Nat.add_right_comm]; exact .cons h (ih y)
theorem runFor_end {m : Sre.M} (h : m.outcome.isSome = true) : ∀ k, Sre.M.runFor k m = m
  | 0 => rfl
  | k + 1 => by unfold Sre.M.runFor; rw [if_pos h]
theorem runFor_le {n : Nat} {m m' : Sre.M} (x : Steps n m m') (h : m'.outcome.isSome = true) : ∀ k, n ≤ k → Sre.M.runFor k m = m' := by
  induction x with
  | nil => exact fun k _ => runFor_end h k
  | cons h0 t ih =>
    intro k hk
    match k, hk with
    | k + 1, hk =>
      unfold Sre.M.runFor
      rw [if_neg (by rw [h0]; simp)]
      exact ih h k (Nat.le_of_succ_le_succ hk)
theorem runFor_lt {n : Nat} {m m' : Sre.M} (x : Steps n m m') : ∀ k, k ≤ n → Steps (n - k) (Sre.M.runFor k m) m' := by
  induction x with
  | nil => intro k hk; have : k = 0 := by omega
           subst this; exact .nil _
  | cons h0 t ih =>
    intro k hk
    match k, hk with
    | 0, _ => exact .cons h0 t
    | k + 1, hk =>
      unfold Sre.M.runFor
      rw [if_neg (by rw [h0]; simp), Nat.add_sub_add_right]
      exact ih k (Nat.le_of_succ_le_succ hk)

def code1 : Array Nat := #[14, 4, 0, 1, 1, 6, 1, 16, 46, 1]
def code2 : Array Nat := #[14, 9, 4, 1, 2, 16, 10, 16, 13, 0, 7, 7, 16, 13, 16, 10, 15, 18, 5, 16, 10, 15, 13, 11, 16, 13, 5, 5, 0, 16, 10, 1, 15, 2, 0, 1]

def mk1 (t : Array Nat) (s pc pos : Nat) (fr : List Sre.Frame) (wt : Nat) (om : Bool) (hd : Nat) (ans : Option Bool) (sn : Sre.Seen) (out : Option Sre.Outcome) : Sre.M :=
  { code := code1, text := t, lim := t.size, start := s, lastStart := t.size, pc, pos, handed := hd, outermost := om, marks := #[], frames := fr, weight := wt, answer := ans, seen := sn, outcome := out }
abbrev fs1 (s : Nat) (om : Bool) : Sre.Frame := { wait := .nextStart, pc := 5, pos := s, outermost := om }
section
variable {t : Array Nat} {s pos pc hd wt : Nat} {fr : List Sre.Frame} {om : Bool} {sn : Sre.Seen}
theorem s1_at (h : (s == 0 || t.getD (s - 1) 0 == 10) = true) : ∃ sn', (mk1 t s 5 s fr wt om hd none sn none).step = mk1 t s 7 s fr wt om hd none sn' none := by
  refine ⟨(sn.add 6).add 44, ?_⟩
  show (if (s == 0 || t.getD (s - 1) 0 == 10) = true then _ else _) = _
  rw [if_pos h]; rfl
theorem s1_not (h : (s == 0 || t.getD (s - 1) 0 == 10) = false) : ∃ sn', (mk1 t s 5 s fr wt om hd none sn none).step = mk1 t s 5 s fr wt om hd (some false) sn' none := by
  refine ⟨(sn.add 6).add 44, ?_⟩
  show (if (s == 0 || t.getD (s - 1) 0 == 10) = true then _ else _) = _
  rw [h]; rfl
theorem s1_hit (h1 : pos < t.size) (h2 : t.getD pos 0 = 46) : ∃ sn', (mk1 t s 7 pos fr wt om hd none sn none).step = mk1 t s 9 (pos + 1) fr wt om hd none sn' none := by
  refine ⟨sn.add 16, ?_⟩
  show (if pos ≥ t.size then _ else (match (Except.ok (t.getD pos 0 == 46, sn.add 16) : Except String (Bool × Sre.Seen)) with | .error why => _ | .ok (false, seen) => _ | .ok (true, seen) => _)) = _
  rw [if_neg (Nat.not_le.mpr h1), h2]; rfl
theorem s1_miss (h : pos ≥ t.size ∨ t.getD pos 0 ≠ 46) : ∃ sn', (mk1 t s 7 pos fr wt om hd none sn none).step = mk1 t s 7 pos fr wt om hd (some false) sn' none := by
  by_cases hp : pos ≥ t.size
  · refine ⟨sn.add 16, ?_⟩
    show (if pos ≥ t.size then _ else _) = _
    rw [if_pos hp]; rfl
  · refine ⟨sn.add 16, ?_⟩
    show (if pos ≥ t.size then _ else (match (Except.ok (t.getD pos 0 == 46, sn.add 16) : Except String (Bool × Sre.Seen)) with | .error why => _ | .ok (false, seen) => _ | .ok (true, seen) => _)) = _
    rw [if_neg hp, beq_eq_false_iff_ne.mpr (h.resolve_left hp)]; rfl
theorem s1_succ : ∃ sn', (mk1 t s 9 pos fr wt om hd none sn none).step = mk1 t s 9 pos fr wt om pos (some true) sn' none := by
  refine ⟨sn.add 1, ?_⟩
  show (if (om && ((false && _) || (false && _))) = true then _ else _) = _
  rw [if_neg (by cases om <;> simp)]; rfl
theorem s1_yes {om' : Bool} : (mk1 t s pc pos [fs1 s om] 1 om' hd (some true) sn none).step = mk1 t s 5 s [] 0 om hd (some true) sn none := rfl
theorem s1_no {om' : Bool} (h : s < t.size) : (mk1 t s pc pos [fs1 s om] 1 om' hd (some false) sn none).step = mk1 t (s + 1) 5 (s + 1) [fs1 (s + 1) false] 1 false (s + 1) none sn none := by
  show (if s < t.size then _ else _) = _
  rw [if_pos h]; rfl
theorem s1_over {om' : Bool} (h : ¬ s < t.size) : (mk1 t s pc pos [fs1 s om] 1 om' hd (some false) sn none).step = mk1 t s 5 s [] 0 om hd (some false) sn none := by
  show (if s < t.size then _ else _) = _
  rw [if_neg h]; rfl
theorem s1_end {b : Bool} : (mk1 t s pc pos [] wt om hd (some b) sn none).step = mk1 t s pc pos [] wt om hd (some b) sn (some (if b then .matched else .failed)) := rfl

def find1 (t : Array Nat) : Nat → Nat → Option Nat
  | 0, _ => none
  | n + 1, s => if (s == 0 || t.getD (s - 1) 0 == 10) && t.getD s 0 == 46 then some s else find1 t n (s + 1)

def Found (m : Sre.M) : Option (Nat × Nat) → Prop
  | some (b, e) => m.outcome = some .matched ∧ m.start = b ∧ m.handed = e
  | none => m.outcome = some .failed
theorem run1 : ∀ (n s : Nat) (om : Bool) (sn : Sre.Seen), s + n = t.size → ∃ N m', N ≤ 3 * n + 6 ∧ Steps N (mk1 t s 5 s [fs1 s om] 1 om s none sn none) m' ∧ Found m' ((find1 t n s).map fun b => (b, b + 1)) := by
  intro n
  induction n with
  | zero =>
    intro s om sn hs
    have fin : ∀ pc pos sn', ∃ m', Steps 2 (mk1 t s pc pos [fs1 s om] 1 om s (some false) sn' none) m' ∧ m'.outcome = some .failed := fun pc pos sn' =>
      ⟨_, .one rfl (s1_over (by omega)) (.one rfl s1_end (.nil _)), rfl⟩
    cases h : (s == 0 || t.getD (s - 1) 0 == 10) with
    | true =>
      obtain ⟨sn1, e1⟩ := s1_at (fr := [fs1 s om]) (wt := 1) (om := om) (hd := s) (sn := sn) h
      obtain ⟨sn2, e2⟩ := s1_miss (s := s) (pos := s) (fr := [fs1 s om]) (wt := 1) (om := om) (hd := s) (sn := sn1) (t := t) (.inl (by omega))
      obtain ⟨m', st, ho⟩ := fin 7 s sn2
      exact ⟨4, m', by omega, .one rfl e1 (.one rfl e2 st), ho⟩
    | false =>
      obtain ⟨sn1, e1⟩ := s1_not (fr := [fs1 s om]) (wt := 1) (om := om) (hd := s) (sn := sn) h
      obtain ⟨m', st, ho⟩ := fin 5 s sn1
      exact ⟨3, m', by omega, .one rfl e1 st, ho⟩
  | succ n ih =>
    intro s om sn hs
    have hlt : s < t.size := by omega
    have nxt : ∀ pc pos sn', find1 t (n + 1) s = find1 t n (s + 1) → ∃ N m', N ≤ 3 * n + 7 ∧ Steps N (mk1 t s pc pos [fs1 s om] 1 om s (some false) sn' none) m' ∧ Found m' ((find1 t (n + 1) s).map fun b => (b, b + 1)) := fun pc pos sn' he => by
      obtain ⟨N, m', h1, h2, h3⟩ := ih (s + 1) false sn' (by omega)
      exact ⟨N + 1, m', by omega, .one rfl (s1_no hlt) h2, he ▸ h3⟩
    cases h : (s == 0 || t.getD (s - 1) 0 == 10) with
    | true =>
      obtain ⟨sn1, e1⟩ := s1_at (fr := [fs1 s om]) (wt := 1) (om := om) (hd := s) (sn := sn) h
      by_cases hc : t.getD s 0 = 46
      · obtain ⟨sn2, e2⟩ := s1_hit (s := s) (pos := s) (fr := [fs1 s om]) (wt := 1) (om := om) (hd := s) (sn := sn1) hlt hc
        obtain ⟨sn3, e3⟩ := s1_succ (t := t) (s := s) (pos := s + 1) (fr := [fs1 s om]) (wt := 1) (om := om) (hd := s) (sn := sn2)
        have hf : find1 t (n + 1) s = some s := by unfold find1; rw [h, hc]; rfl
        rw [hf]
        exact ⟨5, _, by omega, .one rfl e1 (.one rfl e2 (.one rfl e3 (.one rfl s1_yes (.one rfl s1_end (.nil _))))), rfl, rfl, rfl⟩
      · obtain ⟨sn2, e2⟩ := s1_miss (s := s) (pos := s) (fr := [fs1 s om]) (wt := 1) (om := om) (hd := s) (sn := sn1) (t := t) (.inr hc)
        have hf : find1 t (n + 1) s = find1 t n (s + 1) := by
          conv => lhs; unfold find1
          rw [h, beq_eq_false_iff_ne.mpr hc]; rfl
        obtain ⟨N, m', h1, h2, h3⟩ := nxt 7 s sn2 hf
        exact ⟨N + 2, m', by omega, .one rfl e1 (.one rfl e2 h2), h3⟩
    | false =>
      obtain ⟨sn1, e1⟩ := s1_not (fr := [fs1 s om]) (wt := 1) (om := om) (hd := s) (sn := sn) h
      have hf : find1 t (n + 1) s = find1 t n (s + 1) := by
        conv => lhs; unfold find1
        rw [h]; rfl
      obtain ⟨N, m', h1, h2, h3⟩ := nxt 5 s sn1 hf
      exact ⟨N + 1, m', by omega, .one rfl e1 h2, h3⟩

theorem search1 {p : Nat} (hp : p ≤ t.size) : ∃ N m', N ≤ 3 * t.size + 6 ∧ Steps N (Sre.forSearch code1 t 0 p t.size false) m' ∧ Found m' ((find1 t (t.size - p) p).map fun b => (b, b + 1)) := by
  by_cases h : t.size - p < 1
  · have e : Sre.forSearch code1 t 0 p t.size false = _ := rfl
    have hz : t.size - p = 0 := by omega
    rw [hz]
    refine ⟨1, _, by omega, .one (m := Sre.forSearch code1 t 0 p t.size false) ?_ rfl (.nil _), ?_⟩
    · show (Sre.M.outcome (if (decide (p > t.size) || decide (t.size - p < 1)) = true then _ else _)) = none
      rw [if_pos (by simp; omega)]; rfl
    · show (Sre.M.outcome (Sre.M.step (if (decide (p > t.size) || decide (t.size - p < 1)) = true then _ else _))) = _
      rw [if_pos (by simp; omega)]; rfl
  · obtain ⟨N, m', h1, h2, h3⟩ := run1 (t := t) (t.size - p) p true (({} : Sre.Seen).add 14) (by omega)
    refine ⟨N, m', by omega, ?_, h3⟩
    have : Sre.forSearch code1 t 0 p t.size false = mk1 t p 5 p [fs1 p true] 1 true p none (({} : Sre.Seen).add 14) none := by
      show (if (decide (p > t.size) || decide (t.size - p < 1)) = true then _ else _) = _
      rw [if_neg (by simp; omega)]; rfl
    rw [this]; exact h2
end
end Mine
namespace Mine
def mk2 (t : Array Nat) (s pc pos : Nat) (fr : List Sre.Frame) (wt : Nat) (om : Bool) (hd : Nat) (ans : Option Bool) (sn : Sre.Seen) (out : Option Sre.Outcome) : Sre.M :=
  { code := code2, text := t, lim := t.size, start := s, lastStart := t.size, pc, pos, handed := hd, outermost := om, marks := #[], frames := fr, weight := wt, answer := ans, seen := sn, outcome := out }
abbrev f0 (s : Nat) : Sre.Frame := { wait := .nextStart, pc := 10, pos := s, outermost := true }
abbrev fb (q s : Nat) : Sre.Frame := { wait := .nextBranch, pc := q, pos := s, outermost := true }
abbrev fl (pos : Nat) : Sre.Frame := { wait := .lookNot, pc := 26, pos := pos, outermost := true }
section
variable {t : Array Nat} {s pos pc hd wt : Nat} {fr : List Sre.Frame} {om : Bool} {sn : Sre.Seen}
theorem h12 (h1 : pos < t.size) (h2 : t.getD pos 0 = 13) : (mk2 t s 12 pos fr wt om hd none sn none).step = mk2 t s 14 (pos + 1) fr wt om hd none (sn.add 16) none := by
  show (if pos ≥ t.size then _ else (match (Except.ok (t.getD pos 0 == 13, sn.add 16) : Except String (Bool × Sre.Seen)) with | .error why => _ | .ok (false, seen) => _ | .ok (true, seen) => _)) = _
  rw [if_neg (Nat.not_le.mpr h1), h2]; rfl
theorem m12 (h : pos ≥ t.size ∨ t.getD pos 0 ≠ 13) : (mk2 t s 12 pos fr wt om hd none sn none).step = mk2 t s 12 pos fr wt om hd (some false) (sn.add 16) none := by
  by_cases hp : pos ≥ t.size
  · show (if pos ≥ t.size then _ else _) = _
    rw [if_pos hp]; rfl
  · show (if pos ≥ t.size then _ else (match (Except.ok (t.getD pos 0 == 13, sn.add 16) : Except String (Bool × Sre.Seen)) with | .error why => _ | .ok (false, seen) => _ | .ok (true, seen) => _)) = _
    rw [if_neg hp, beq_eq_false_iff_ne.mpr (h.resolve_left hp)]; rfl
theorem h14 (h1 : pos < t.size) (h2 : t.getD pos 0 = 10) : (mk2 t s 14 pos fr wt om hd none sn none).step = mk2 t s 16 (pos + 1) fr wt om hd none (sn.add 16) none := by
  show (if pos ≥ t.size then _ else (match (Except.ok (t.getD pos 0 == 10, sn.add 16) : Except String (Bool × Sre.Seen)) with | .error why => _ | .ok (false, seen) => _ | .ok (true, seen) => _)) = _
  rw [if_neg (Nat.not_le.mpr h1), h2]; rfl
theorem m14 (h : pos ≥ t.size ∨ t.getD pos 0 ≠ 10) : (mk2 t s 14 pos fr wt om hd none sn none).step = mk2 t s 14 pos fr wt om hd (some false) (sn.add 16) none := by
  by_cases hp : pos ≥ t.size
  · show (if pos ≥ t.size then _ else _) = _
    rw [if_pos hp]; rfl
  · show (if pos ≥ t.size then _ else (match (Except.ok (t.getD pos 0 == 10, sn.add 16) : Except String (Bool × Sre.Seen)) with | .error why => _ | .ok (false, seen) => _ | .ok (true, seen) => _)) = _
    rw [if_neg hp, beq_eq_false_iff_ne.mpr (h.resolve_left hp)]; rfl
theorem h19 (h1 : pos < t.size) (h2 : t.getD pos 0 = 10) : (mk2 t s 19 pos fr wt om hd none sn none).step = mk2 t s 21 (pos + 1) fr wt om hd none (sn.add 16) none := by
  show (if pos ≥ t.size then _ else (match (Except.ok (t.getD pos 0 == 10, sn.add 16) : Except String (Bool × Sre.Seen)) with | .error why => _ | .ok (false, seen) => _ | .ok (true, seen) => _)) = _
  rw [if_neg (Nat.not_le.mpr h1), h2]; rfl
theorem m19 (h : pos ≥ t.size ∨ t.getD pos 0 ≠ 10) : (mk2 t s 19 pos fr wt om hd none sn none).step = mk2 t s 19 pos fr wt om hd (some false) (sn.add 16) none := by
  by_cases hp : pos ≥ t.size
  · show (if pos ≥ t.size then _ else _) = _
    rw [if_pos hp]; rfl
  · show (if pos ≥ t.size then _ else (match (Except.ok (t.getD pos 0 == 10, sn.add 16) : Except String (Bool × Sre.Seen)) with | .error why => _ | .ok (false, seen) => _ | .ok (true, seen) => _)) = _
    rw [if_neg hp, beq_eq_false_iff_ne.mpr (h.resolve_left hp)]; rfl
theorem h24 (h1 : pos < t.size) (h2 : t.getD pos 0 = 13) : (mk2 t s 24 pos fr wt om hd none sn none).step = mk2 t s 26 (pos + 1) fr wt om hd none (sn.add 16) none := by
  show (if pos ≥ t.size then _ else (match (Except.ok (t.getD pos 0 == 13, sn.add 16) : Except String (Bool × Sre.Seen)) with | .error why => _ | .ok (false, seen) => _ | .ok (true, seen) => _)) = _
  rw [if_neg (Nat.not_le.mpr h1), h2]; rfl
theorem m24 (h : pos ≥ t.size ∨ t.getD pos 0 ≠ 13) : (mk2 t s 24 pos fr wt om hd none sn none).step = mk2 t s 24 pos fr wt om hd (some false) (sn.add 16) none := by
  by_cases hp : pos ≥ t.size
  · show (if pos ≥ t.size then _ else _) = _
    rw [if_pos hp]; rfl
  · show (if pos ≥ t.size then _ else (match (Except.ok (t.getD pos 0 == 13, sn.add 16) : Except String (Bool × Sre.Seen)) with | .error why => _ | .ok (false, seen) => _ | .ok (true, seen) => _)) = _
    rw [if_neg hp, beq_eq_false_iff_ne.mpr (h.resolve_left hp)]; rfl
theorem h29 (h1 : pos < t.size) (h2 : t.getD pos 0 = 10) : (mk2 t s 29 pos fr wt om hd none sn none).step = mk2 t s 31 (pos + 1) fr wt om hd none (sn.add 16) none := by
  show (if pos ≥ t.size then _ else (match (Except.ok (t.getD pos 0 == 10, sn.add 16) : Except String (Bool × Sre.Seen)) with | .error why => _ | .ok (false, seen) => _ | .ok (true, seen) => _)) = _
  rw [if_neg (Nat.not_le.mpr h1), h2]; rfl
theorem m29 (h : pos ≥ t.size ∨ t.getD pos 0 ≠ 10) : (mk2 t s 29 pos fr wt om hd none sn none).step = mk2 t s 29 pos fr wt om hd (some false) (sn.add 16) none := by
  by_cases hp : pos ≥ t.size
  · show (if pos ≥ t.size then _ else _) = _
    rw [if_pos hp]; rfl
  · show (if pos ≥ t.size then _ else (match (Except.ok (t.getD pos 0 == 10, sn.add 16) : Except String (Bool × Sre.Seen)) with | .error why => _ | .ok (false, seen) => _ | .ok (true, seen) => _)) = _
    rw [if_neg hp, beq_eq_false_iff_ne.mpr (h.resolve_left hp)]; rfl
theorem j16 : (mk2 t s 16 pos fr wt om hd none sn none).step = mk2 t s 35 pos fr wt om hd none (sn.add 15) none := rfl
theorem j21 : (mk2 t s 21 pos fr wt om hd none sn none).step = mk2 t s 35 pos fr wt om hd none (sn.add 15) none := rfl
theorem j32 : (mk2 t s 32 pos fr wt om hd none sn none).step = mk2 t s 35 pos fr wt om hd none (sn.add 15) none := rfl
theorem s2_succ : (mk2 t s 35 pos fr wt om hd none sn none).step = mk2 t s 35 pos fr wt om pos (some true) (sn.add 1) none := by
  show (if (om && ((false && _) || (false && _))) = true then _ else _) = _
  rw [if_neg (by cases om <;> simp)]; rfl
theorem s2_branch : (mk2 t s 10 s [f0 s] 1 true hd none sn none).step = mk2 t s 12 s [fb 11 s, f0 s] 2 true s none (sn.add 7) none := rfl
theorem s2_yesb {q : Nat} : (mk2 t s pc pos [fb q s, f0 s] 2 om hd (some true) sn none).step = mk2 t s q s [f0 s] 1 true hd (some true) sn none := rfl
theorem s2_no11 : (mk2 t s pc pos [fb 11 s, f0 s] 2 om hd (some false) sn none).step = mk2 t s 19 s [fb 18 s, f0 s] 2 true s none sn none := rfl
theorem s2_no18 : (mk2 t s pc pos [fb 18 s, f0 s] 2 om hd (some false) sn none).step = mk2 t s 24 s [fb 23 s, f0 s] 2 true s none sn none := rfl
theorem s2_look {f1 f2 : Sre.Frame} : (mk2 t s 26 pos [f1, f2] 2 true hd none sn none).step = mk2 t s 29 pos [fl pos, f1, f2] 3 false pos none (sn.add 5) none := rfl
theorem s2_unlook {f1 f2 : Sre.Frame} {p2 : Nat} : (mk2 t s pc p2 [fl pos, f1, f2] 3 om hd (some false) sn none).step = mk2 t s 32 pos [f1, f2] 2 true hd none sn none := rfl
theorem s2_yes : (mk2 t s pc pos [f0 s] 1 om hd (some true) sn none).step = mk2 t s 10 s [] 0 true hd (some true) sn none := rfl
theorem s2_end {b : Bool} : (mk2 t s pc pos [] wt om hd (some b) sn none).step = mk2 t s pc pos [] wt om hd (some b) sn (some (if b then .matched else .failed)) := rfl

def end2 (t : Array Nat) (s : Nat) : Nat := if t.getD s 0 == 13 && t.getD (s + 1) 0 == 10 then s + 2 else s + 1
theorem getD_lt {t : Array Nat} {i c : Nat} (h : t.getD i 0 = c) (hc : c ≠ 0) : i < t.size := by
  by_cases hi : i < t.size
  · exact hi
  · rw [Array.getD_eq_getD_getElem?, Array.getElem?_eq_none (by omega)] at h
    exact absurd h.symm hc
/-- the tail: at the end of a branch -/
theorem tail2 {q e : Nat} : Steps 4 (mk2 t s 35 e [fb q s, f0 s] 2 om hd none sn none) (mk2 t s 10 s [] 0 true e (some true) (sn.add 1) (some .matched)) :=
  .one rfl s2_succ (.one rfl s2_yesb (.one rfl s2_yes (.one rfl s2_end (.nil _))))
theorem run2 (h : t.getD s 0 = 10 ∨ t.getD s 0 = 13) : ∃ N m', N ≤ 20 ∧ Steps N (mk2 t s 10 s [f0 s] 1 true s none sn none) m' ∧ Found m' (some (s, end2 t s)) := by
  rcases h with h | h
  · have hlt := getD_lt h (by decide)
    have he : end2 t s = s + 1 := by unfold end2; rw [h]; rfl
    rw [he]
    exact ⟨9, _, by decide, .one rfl s2_branch (.one rfl (m12 (.inr (by rw [h]; decide))) (.one rfl s2_no11 (.one rfl (h19 hlt h) (.one rfl j21 tail2)))), rfl, rfl, rfl⟩
  · have hlt := getD_lt h (by decide)
    by_cases h2 : t.getD (s + 1) 0 = 10
    · have he : end2 t s = s + 2 := by unfold end2; rw [h, h2]; rfl
      rw [he]
      exact ⟨8, _, by decide, .one rfl s2_branch (.one rfl (h12 hlt h) (.one rfl (h14 (getD_lt h2 (by decide)) h2) (.one rfl j16 tail2))), rfl, rfl, rfl⟩
    · have he : end2 t s = s + 1 := by unfold end2; rw [h, beq_eq_false_iff_ne.mpr h2]; rfl
      rw [he]
      exact ⟨15, _, by decide, .one rfl s2_branch (.one rfl (h12 hlt h) (.one rfl (m14 (.inr h2)) (.one rfl s2_no11 (.one rfl (m19 (.inr (by rw [h]; decide))) (.one rfl s2_no18 (.one rfl (h24 hlt h) (.one rfl s2_look
        (.one rfl (m29 (.inr h2)) (.one rfl s2_unlook (.one rfl j32 (.one rfl s2_succ (.one rfl s2_yesb (.one rfl s2_yes (.one rfl s2_end (.nil _))))))))))))))), rfl, rfl, rfl⟩

def find2 (t : Array Nat) : Nat → Nat → Option Nat
  | 0, _ => none
  | n + 1, s => if t.getD s 0 == 10 || t.getD s 0 == 13 then some s else find2 t n (s + 1)
theorem inSet2 (c : Nat) (sn : Sre.Seen) : ∃ sn', Sre.inSet code2 c 36 5 true sn = .ok (c == 10 || c == 13, sn') := by
  cases h1 : c == 10 with
  | true =>
    refine ⟨sn.add 16, ?_⟩
    show (if (c == 10) = true then _ else _) = _
    rw [h1]; rfl
  | false =>
    cases h2 : c == 13 with
    | true =>
      refine ⟨(sn.add 16).add 16, ?_⟩
      show (if (c == 10) = true then _ else (if (c == 13) = true then _ else _)) = _
      rw [h1, h2]; rfl
    | false =>
      refine ⟨((sn.add 16).add 16).add 0, ?_⟩
      show (if (c == 10) = true then _ else (if (c == 13) = true then _ else _)) = _
      rw [h1, h2]; rfl
theorem find2_mem : ∀ {n s b : Nat}, find2 t n s = some b → s ≤ b ∧ (t.getD b 0 = 10 ∨ t.getD b 0 = 13)
  | 0, _, _, h => by cases h
  | n + 1, s, b, h => by
    unfold find2 at h
    split at h
    · rename_i hc
      cases h
      exact ⟨Nat.le_refl _, by simpa using hc⟩
    · have := find2_mem h
      exact ⟨by omega, this.2⟩
theorem admitted2 {m : Sre.M} (hc : m.code = code2) (ht : m.text = t) (hl : m.lim = t.size) : ∀ (fuel s : Nat) (sn : Sre.Seen), s + fuel = t.size + 1 → ∃ sn', Sre.M.admitted m fuel s sn = .ok (find2 t (fuel - 1) s, sn') := by
  intro fuel
  induction fuel with
  | zero => intro s sn hs; exact ⟨sn, rfl⟩
  | succ fuel ih =>
    intro s sn hs
    unfold Sre.M.admitted
    rw [hl, hc, ht]
    by_cases hlt : s ≥ t.size
    · have : fuel = 0 := by omega
      subst this
      rw [if_pos hlt]
      exact ⟨sn, rfl⟩
    · rw [if_neg hlt]
      obtain ⟨sn1, e1⟩ := inSet2 (t.getD s 0) sn
      rw [show code2.size = 36 from rfl, e1]
      obtain ⟨f', rfl⟩ : ∃ f', fuel = f' + 1 := ⟨fuel - 1, by omega⟩
      rw [show f' + 1 + 1 - 1 = f' + 1 from rfl]
      conv => enter [1, sn', 2]; unfold find2
      cases hb : (t.getD s 0 == 10 || t.getD s 0 == 13) with
      | true => exact ⟨sn1, rfl⟩
      | false =>
        obtain ⟨sn2, e2⟩ := ih (s + 1) sn1 (by omega)
        exact ⟨sn2, e2⟩

theorem search2 {p : Nat} (hp : p ≤ t.size) : ∃ N m', N ≤ 20 ∧ Steps N (Sre.forSearch code2 t 0 p t.size false) m' ∧ Found m' ((find2 t (t.size - p) p).map fun b => (b, end2 t b)) := by
  by_cases h : t.size - p < 1
  · have hz : t.size - p = 0 := by omega
    rw [hz]
    refine ⟨1, _, by omega, .one (m := Sre.forSearch code2 t 0 p t.size false) ?_ rfl (.nil _), ?_⟩
    · show (Sre.M.outcome (if (decide (p > t.size) || decide (t.size - p < 1)) = true then _ else _)) = none
      rw [if_pos (by simp; omega)]; rfl
    · show (Sre.M.outcome (Sre.M.step (if (decide (p > t.size) || decide (t.size - p < 1)) = true then _ else _))) = _
      rw [if_pos (by simp; omega)]; rfl
  · generalize hm : ({ code := code2, text := t, lim := t.size, start := p, lastStart := t.size, pc := 10, pos := p, handed := p, marks := #[], seen := ({} : Sre.Seen).add 14 } : Sre.M) = m
    obtain ⟨sn', e⟩ := admitted2 (m := m) (t := t) (by rw [← hm]) (by rw [← hm]) (by rw [← hm]) (t.size + 1 - p) p (({} : Sre.Seen).add 14) (by omega)
    have e0 : Sre.forSearch code2 t 0 p t.size false = (match Sre.M.admitted m (t.size + 1 - p) p (({} : Sre.Seen).add 14) with
        | .ok (some s, seen) => Sre.M.attemptAt { m with mustAdvance := false, seen } s true
        | .ok (none, seen) => Sre.M.say { m with seen } false
        | .error why => m.stick why) := by
      rw [← hm]
      show (if (decide (p > t.size) || decide (t.size - p < 1)) = true then _ else _) = _
      rw [if_neg (by simp; omega)]; rfl
    rw [show t.size + 1 - p - 1 = t.size - p by omega] at e
    rw [e] at e0
    cases hf : find2 t (t.size - p) p with
    | none =>
      rw [hf] at e0
      refine ⟨1, _, by decide, .one (m := Sre.forSearch code2 t 0 p t.size false) (by rw [e0, ← hm]; rfl) rfl (.nil _), ?_⟩
      rw [e0, ← hm]; rfl
    | some b =>
      rw [hf] at e0
      obtain ⟨N, m', h1, h2, h3⟩ := run2 (t := t) (s := b) (sn := sn') (find2_mem hf).2
      refine ⟨N, m', h1, ?_, h3⟩
      rw [e0, ← hm]
      exact h2
end
end Mine
set_option maxRecDepth 100000
namespace Mine
section
variable {prog : Program} {w : World} {A : Around} {E : Value → Shared → Prop} {s : Shared}
open Builtin.Re

theorem wp_drive {Q : Sre.M → Shared → Prop} {m' : Sre.M} (h : m'.outcome.isSome = true) (q : Q m' s) : ∀ (turns n : Nat) (m : Sre.M), Steps n m m' → n ≤ 4 * turns → wpAny (model prog w) A (reDrive (turns + 1) m) Q E s := by
  intro turns
  induction turns with
  | zero =>
    intro n m x hn
    unfold reDrive
    rw [show Sre.M.runFor reTurnSteps m = m' from runFor_le x h 4 (by omega), if_pos h]
    exact wpAny_pure q
  | succ turns ih =>
    intro n m x hn
    unfold reDrive
    by_cases hle : n ≤ 4
    · rw [show Sre.M.runFor reTurnSteps m = m' from runFor_le x h 4 hle, if_pos h]
      exact wpAny_pure q
    · have x' := runFor_lt x 4 (by omega)
      dsimp only
      have hno : ¬ (Sre.M.runFor reTurnSteps m).outcome.isSome = true := by
        show ¬ (Sre.M.runFor 4 m).outcome.isSome = true
        obtain ⟨j, hj⟩ : ∃ j, n - 4 = j + 1 := ⟨n - 5, by omega⟩
        rw [hj] at x'
        cases x' with
        | cons h0 _ => rw [h0]; simp
      rw [if_neg hno]
      exact wpAny_bind (wpAny_rule (ih (n - 4) _ x' (by omega)))

theorem wp_rules {Q : PUnit → Shared → Prop} {f : Nat → PUnit → Sem (ForInStep PUnit)} (hf : ∀ i r (Q : ForInStep PUnit → Shared → Prop), Q (.yield ⟨⟩) s → wpAny (model prog w) A (f i r) Q E s) (q : Q ⟨⟩ s) : ∀ l : List Nat, wpAny (model prog w) A (forIn l PUnit.unit f) Q E s
  | [] => wpAny_pure q
  | i :: l => by
    rw [List.forIn_cons]
    refine wpAny_bind (hf i _ _ ?_)
    exact wp_rules hf q l

theorem wp_runToEnd {Q : Option Sre.M → Shared → Prop} {n : Nat} {m m' : Sre.M} {r : Option (Nat × Nat)} (x : Steps n m m') (hn : n ≤ 4000000) (hr : Found m' r) (q : Q (r.map fun _ => m') s) : wpAny (model prog w) A (reRunToEnd m) Q E s := by
  have hout : m'.outcome.isSome = true := by
    cases r with
    | none => rw [show m'.outcome = some .failed from hr]; rfl
    | some be => rw [show m'.outcome = some .matched from hr.1]; rfl
  unfold reRunToEnd
  have h64 : (2 : Nat) ^ 64 = 18446744073709551615 + 1 := by decide
  rw [h64]
  refine wpAny_bind (wp_drive hout ?_ 18446744073709551615 n m x (by omega))
  refine wpAny_bind (wp_rules ?_ ?_ _)
  · intro i r Q hQ
    split
    · exact wpAny_bind (wpAny_rule (wpAny_pure hQ))
    · exact wpAny_pure hQ
  · cases r with
    | none => rw [show m'.outcome = some .failed from hr]; exact wpAny_pure q
    | some be => rw [show m'.outcome = some .matched from hr.1]; exact wpAny_pure q

structure PatAt (h : Heap) (P T : Addr) (code : Array Nat) : Prop where
  obj : ∃ fs, h.get? P = some { cls := .type "re.Pattern", data := .fields fs } ∧ fs.getD 5 .none = .ref T ∧ reRawNat (fs.getD 6 .none) = 0 ∧ reRawNat (fs.getD 2 .none) = 0
  tab : ∃ items n, h.get? T = some { cls := .type "tuple", data := .seq items n } ∧ (items.map reRawOf).map Int.toNat = code
theorem PatAt.ext {C : Cx} {h h' : Heap} {P T : Addr} {code : Array Nat} (X : PatAt h P T code) (y : Ext C h h') : PatAt h' P T code := by
  obtain ⟨⟨fs, e1, r⟩, items, n, e2, r2⟩ := X
  exact ⟨⟨fs, y.keep_cls e1 (by simp), r⟩, items, n, y.keep_cls e2 (by simp), r2⟩

theorem wp_target {Q : ReTarget → Shared → Prop} {P T : Addr} {code : Array Nat} {x : Str} {tk : Tok} (X : PatAt s.heap P T code) (q : Q ⟨.ref P, .str x tk, code, x.cps, 0, 0, 0, x.cps.size⟩ s) : wpAny (model prog w) A (reWholeTarget (.ref P) (.str x tk)) Q E s := by
  obtain ⟨⟨fs, e1, h5, h6, h2⟩, items, n, e2, hc⟩ := X
  unfold reWholeTarget fieldsOf
  refine wpAny_bind (wpAny_bind (wpAny_load e1 (wpAny_pure ?_)))
  unfold reTextOf asStr?
  refine wpAny_bind (wpAny_bind (wpAny_pure (wpAny_pure ?_)))
  dsimp only
  rw [h6, h5, h2]
  unfold reNoCollectionInside
  refine wpAny_bind (wpAny_pure ?_)
  unfold reRawItems
  refine wpAny_bind (wpAny_bind (wpAny_seqItems e2 rfl (wpAny_pure (wpAny_pure ?_))))
  show Q ⟨.ref P, .str x tk, (items.map reRawOf).map Int.toNat, x.cps, 0, 0, 0, x.cps.size⟩ s
  rw [hc]; exact q

inductive SubR (find : Nat → Option (Nat × Nat)) (t : Array Nat) (rp : List Nat) : Nat → List Nat → Prop
  | over {p : Nat} : find p = none → SubR find t rp p (t.toList.drop p)
  | next {p b e : Nat} {out : List Nat} : find p = some (b, e) → SubR find t rp e out → SubR find t rp p ((t.toList.drop p).take (b - p) ++ rp ++ out)

theorem entry_loop : entryFor table "re.Pattern.sub.loop" = some Builtin.«re.Pattern.sub.loop» := entryFor_of_tree (by kernel_rfl)

theorem join_flat : ∀ xs : List Str, (Txt.join ⟨#[]⟩ xs).cps.toList = (xs.map (·.cps.toList)).flatten := by
  intro xs
  show (Builtin.Str.glued ⟨#[]⟩ xs).cps.toList = _
  rw [StrLaws.glued_eq_join]
  induction xs with
  | nil => rfl
  | cons x r ih =>
    cases r with
    | nil => simp [Str.join]
    | cons y r =>
      have e : (Str.join ⟨#[]⟩ (x :: y :: r)).cps = x.cps ++ (#[] : Array Nat) ++ (Str.join ⟨#[]⟩ (y :: r)).cps := rfl
      rw [e]
      simp only [Array.toList_append, ih, List.map_cons, List.flatten_cons]
      simp
theorem joinOk_empty {xs : List Str} (h : (xs.map (·.cps.size)).sum ≤ 16000000) : JoinOk ⟨#[]⟩ xs = true := by
  unfold JoinOk
  rw [StrLaws.joinTotal]
  have e : (xs.map (·.length)).sum = (xs.map (·.cps.size)).sum := rfl
  simp [Builtin.Str.tooLong, sizeLine, e, Str.length]
  omega

theorem push_seq {s : Shared} {Q : Unit → Shared → Prop} {C : Cx} {L : Addr} {hb : Heap} {items : Array Value} {n : Nat} {v : Value} (hl : s.heap.get? L = some { cls := .type "list", data := .seq items n }) (he : Ext C hb s.heap) (hL : hb.get? L = none) (hsz : items.size ≤ 10000000)
    (q : ∀ h' n', h'.get? L = some { cls := .type "list", data := .seq (items.push v) n' } → Ext C hb h' → Q () { s with heap := h' }) : wpAny (model prog w) A (updateSeq L (·.push v)) Q E s := by
  have hsz' : items.size ≤ sizeLine := Nat.le_trans hsz (by decide)
  refine wpAny_updateSeq hl rfl ?_ hsz' (by rw [Array.size_push]; omega)
  have em : Obj.mapSeq (·.push v) { cls := .type "list", data := .seq items n } = { cls := .type "list", data := .seq (items.push v) (if (items.push v).size == items.size then n else n + 1) } := rfl
  refine q _ (if (items.push v).size == items.size then n else n + 1) ?_ (he.store hL hl (by simp) (Heap.SameBut.update ..))
  rw [Heap.get?_update_self _ hl (by rw [em]; rfl)]; exact congrArg some em

theorem slice_len (t : Array Nat) (b e : Nat) : (t.extract b e).toList = (t.toList.drop b).take (e - b) := by
  rw [Array.toList_extract, List.extract_eq_take_drop]
theorem strValues_push (ps : List (Str × Tok)) (x : Str) (t : Tok) : (strValues ps).toArray.push (.str x t) = (strValues (ps ++ [(x, t)])).toArray := by
  simp [strValues]
def plen (ps : List (Str × Tok)) : Nat := (ps.map (·.1.cps.size)).sum
theorem plen_snoc (ps : List (Str × Tok)) (x : Str) (t : Tok) : plen (ps ++ [(x, t)]) = plen ps + x.cps.size := by simp [plen]
def pcat (ps : List (Str × Tok)) : List Nat := (ps.map (·.1.cps.toList)).flatten
theorem pcat_snoc (ps : List (Str × Tok)) (x : Str) (t : Tok) : pcat (ps ++ [(x, t)]) = pcat ps ++ x.cps.toList := by simp [pcat]

theorem sub_loop {C : Cx} {P T L : Addr} {code : Array Nat} {find : Nat → Option (Nat × Nat)} {x rp : Str} {tx trp : Tok} {hb : Heap}
    (hfind : ∀ p, p ≤ x.cps.size → ∃ N m', N ≤ 4000000 ∧ Steps N (Sre.forSearch code x.cps 0 p x.cps.size false) m' ∧ Found m' (find p))
    (hb1 : ∀ p b e, find p = some (b, e) → p ≤ b ∧ b < e ∧ e ≤ x.cps.size) (hL : hb.get? L = none) (X : PatAt hb P T code) (hx : x.cps.size ≤ 1000000) (hrp : rp.cps.size = 2) :
    ∀ {p : Nat} {out : List Nat}, SubR find x.cps rp.cps.toList p out → p ≤ x.cps.size → ∀ (n : Int) (s : Shared) (R : Result → Shared → Prop) (ps : List (Str × Tok)) (nn : Nat),
      s.heap.get? L = some { cls := .type "list", data := .seq (strValues ps).toArray nn } → Ext C hb s.heap → ps.length ≤ 2 * p → plen ps ≤ 3 * p →
      (∀ (res : Str) t h' tk, res.cps.toList = pcat ps ++ out → Ext C hb h' → R (.ok (.ret (.str res t))) { s with heap := h', toks := tk }) →
      codeAny (model prog w) A (.builtin "re.Pattern.sub.loop" ⟨[.ref P, .str x tx, .str rp trp, rawInt 0, rawInt 0, rawInt n, rawInt p, rawInt p, .bool false, .ref L, .bool false], []⟩) R s := by
  intro p out h
  induction h with
  | @over p hn =>
    intro hp n s R ps nn hl he hpl hps q
    refine codeAny_builtin entry_loop ?_
    unfold Builtin.«re.Pattern.sub.loop»
    refine wpAny_bind (wp_target (X.ext he) ?_)
    dsimp only
    rw [if_pos (by decide)]
    unfold reLiteralCannotBeTurned asStr?
    refine wpAny_bind (wpAny_bind (wpAny_pure (wpAny_pure ?_)))
    rw [if_neg (by simp), Int.toNat_natCast]
    obtain ⟨N, m', hN, st, fo⟩ := hfind p hp
    refine wpAny_bind (wp_runToEnd st hN fo ?_)
    rw [hn]
    have fin : ∀ (s' : Shared) (ps' : List (Str × Tok)) nn', (∀ (res : Str) t h' tk, res.cps.toList = pcat ps' → Ext C hb h' → R (.ok (.ret (.str res t))) { s' with heap := h', toks := tk }) →
        s'.heap.get? L = some { cls := .type "list", data := .seq (strValues ps').toArray nn' } → Ext C hb s'.heap → plen ps' ≤ 16000000 → wpAny (model prog w) (A.under (.builtin "re.Pattern.sub.loop" ⟨[.ref P, .str x tx, .str rp trp, rawInt 0, rawInt 0, rawInt n, rawInt p, rawInt p, .bool false, .ref L, .bool false], []⟩)) (do
          let joiner ← reSlice x.cps 0 0 0
          let __do_lift ← seqItems? (.ref L)
          let text ← if (__do_lift.getD #[]).isEmpty = true then pure joiner else call (.builtin (if (0 == 0) = true then "str.join" else "bytes.join")) [joiner, .ref L]
          if false = true then do
            let __do_lift ← holding [text] do
              let __do_lift ← mkInt n
              newTuple [text, __do_lift]
            ret __do_lift
          else ret text) (fun fin s' => match fin with | .done f => R (.ok f) s' | .again c' => c'.quiet = true ∧ codeAny (model prog w) A c' R s') (fun e s' => R (.error e) s') s' := by
      intro s' ps' nn' q' hl' he' hpl'
      unfold reSlice
      rw [if_pos (by decide)]
      refine wpAny_bind (wpAny_mkStr ?_ (by simp [Str.length]))
      refine wpAny_bind (wpAny_seqItems (s := { s' with toks := s'.toks + 1 }) hl' rfl ?_)
      have em : x.cps.extract 0 0 = #[] := by simp
      rw [em]
      by_cases hz : ps' = []
      · subst hz
        rw [if_pos (by rfl)]
        refine wpAny_bind (wpAny_pure ?_)
        exact wpAny_pure (q' _ _ s'.heap _ rfl he')
      · rw [if_neg (by simpa [strValues] using hz)]
        refine wpAny_bind (SC.join (s := { s' with toks := s'.toks + 1 }) ⟨_, hl', rfl, _, rfl⟩ rfl (joinOk_empty (by rw [List.map_map]; exact hpl')) fun t' k => ?_)
        refine wpAny_pure (q' _ _ s'.heap _ ?_ he')
        rw [join_flat, List.map_map]; rfl
    show wpAny _ _ (if p < x.cps.size then _ else _) _ _ _
    split
    · rename_i hlt
      have hlt' : p < x.cps.size := hlt
      unfold reSlice
      rw [if_pos (by decide)]
      refine wpAny_bind (wpAny_mkStr ?_ (by simp [Str.length, sizeLine]; omega))
      refine wpAny_bind (push_seq (C := C) (s := { s with toks := s.toks + 1 }) hl he hL (by simp [strValues]; omega) fun h' n' hl' he' => ?_)
      rw [strValues_push] at hl'
      refine fin { s with heap := h', toks := s.toks + 1 } _ n' (fun res t h'' tk hr hee => q res t h'' tk ?_ hee) hl' he' ?_
      · rw [hr, pcat_snoc, slice_len, List.take_of_length_le (by simp)]
      · rw [plen_snoc]; simp; omega
    · rename_i hge
      have hge' : ¬ p < x.cps.size := hge
      have : x.cps.toList.drop p = [] := List.drop_eq_nil_of_le (by simp; omega)
      rw [this] at q
      refine fin s ps nn (fun res t h'' tk hr hee => q res t h'' tk (by rw [hr, List.append_nil]) hee) hl he (by omega)
  | @next p b e out hn hs ih =>
    intro hp n s R ps nn hl he hpl hps q
    obtain ⟨hpb, hbe, hes⟩ := hb1 _ _ _ hn
    refine codeAny_builtin entry_loop ?_
    unfold Builtin.«re.Pattern.sub.loop»
    refine wpAny_bind (wp_target (X.ext he) ?_)
    dsimp only
    rw [if_pos (by decide)]
    unfold reLiteralCannotBeTurned asStr?
    refine wpAny_bind (wpAny_bind (wpAny_pure (wpAny_pure ?_)))
    rw [if_neg (by simp), Int.toNat_natCast]
    obtain ⟨N, m', hN, st, fo⟩ := hfind p hp
    refine wpAny_bind (wp_runToEnd st hN fo ?_)
    rw [hn] at fo ⊢
    obtain ⟨_, f2, f3⟩ := fo
    show wpAny _ _ (if p < m'.start then _ else _) _ _ _
    rw [f2, f3]
    have hmust : (e == b) = false := by simp; omega
    rw [hmust]
    have nxt : ∀ (s' : Shared) (ps' : List (Str × Tok)) nn', (∀ (res : Str) t h' tk, res.cps.toList = pcat ps' ++ rp.cps.toList ++ out → Ext C hb h' → R (.ok (.ret (.str res t))) { s' with heap := h', toks := tk }) →
        s'.heap.get? L = some { cls := .type "list", data := .seq (strValues ps').toArray nn' } → Ext C hb s'.heap → ps'.length ≤ 2 * p + 1 → plen ps' ≤ 3 * p + (b - p) → wpAny (model prog w) (A.under (.builtin "re.Pattern.sub.loop" ⟨[.ref P, .str x tx, .str rp trp, rawInt 0, rawInt 0, rawInt n, rawInt p, rawInt p, .bool false, .ref L, .bool false], []⟩))
          (if (0 == 0) = true then do
              let item ← pure (Value.str rp trp)
              if (item != Value.none) = true then do
                  updateSeq L fun x => x.push item
                  again (.builtin "re.Pattern.sub.loop" ⟨[.ref P, .str x tx, .str rp trp, rawInt 0, rawInt 0, rawInt (n + 1), rawInt e, rawInt e, .bool false, .ref L, .bool false], []⟩)
                else again (.builtin "re.Pattern.sub.loop" ⟨[.ref P, .str x tx, .str rp trp, rawInt 0, rawInt 0, rawInt (n + 1), rawInt e, rawInt e, .bool false, .ref L, .bool false], []⟩)
            else do
              let found ← reNewMatch (Value.ref P) (Value.str x tx) 0 0 x.cps.size m'
              let item ←
                holding [found]
                    (if (0 == 1) = true then call (Value.str rp trp) [found]
                    else do
                      let __do_lift ← reFound found
                      reExpand (Value.str rp trp) __do_lift)
              if (item != Value.none) = true then do
                  updateSeq L fun x => x.push item
                  again (.builtin "re.Pattern.sub.loop" ⟨[.ref P, .str x tx, .str rp trp, rawInt 0, rawInt 0, rawInt (n + 1), rawInt e, rawInt e, .bool false, .ref L, .bool false], []⟩)
                else again (.builtin "re.Pattern.sub.loop" ⟨[.ref P, .str x tx, .str rp trp, rawInt 0, rawInt 0, rawInt (n + 1), rawInt e, rawInt e, .bool false, .ref L, .bool false], []⟩))
          (fun fin s' => match fin with | .done f => R (.ok f) s' | .again c' => c'.quiet = true ∧ codeAny (model prog w) A c' R s') (fun e s' => R (.error e) s') s' := by
      intro s' ps' nn' q' hl' he' hpl' hps'
      rw [if_pos (by decide)]
      refine wpAny_bind (wpAny_pure ?_)
      rw [if_pos (by rfl)]
      refine wpAny_bind (push_seq (C := C) hl' he' hL (by simp [strValues]; omega) fun h' n' hl'' he'' => ?_)
      rw [strValues_push] at hl''
      refine wpAny_pure ⟨Code.quiet_builtin _ (by decide +kernel), ih hes (n + 1) _ R _ n' hl'' he'' ?_ ?_ fun res t h' tk hr hee => q' res t h' tk ?_ hee⟩
      · simp; omega
      · rw [plen_snoc]; omega
      · rw [hr, pcat_snoc]
    split
    · rename_i hlt
      have hlt' : p < b := hlt
      unfold reSlice
      rw [if_pos (by decide)]
      refine wpAny_bind (wpAny_mkStr ?_ (by simp [Str.length, sizeLine]; omega))
      refine wpAny_bind (push_seq (C := C) (s := { s with toks := s.toks + 1 }) hl he hL (by simp [strValues]; omega) fun h' n' hl' he' => ?_)
      rw [strValues_push] at hl'
      refine nxt { s with heap := h', toks := s.toks + 1 } _ n' (fun res t h'' tk hr hee => q res t h'' tk ?_ hee) hl' he' ?_ ?_
      · rw [hr, pcat_snoc, slice_len]; simp only [List.append_assoc]
      · simp; omega
      · rw [plen_snoc]; simp; omega
    · rename_i hge
      have hge' : ¬ p < b := hge
      have hpb' : b - p = 0 := by omega
      rw [hpb'] at q
      refine nxt s ps nn (fun res t h'' tk hr hee => q res t h'' tk (by rw [hr, List.take_zero]; simp only [List.append_assoc, List.nil_append]) hee) hl he (by omega) (by omega)
end
end Mine
set_option maxRecDepth 100000
namespace Mine
theorem pa_pattern : PlainAttrs "re.Pattern" :=
  ⟨⟨"object.__getattribute__", by rw [typeLookup_type, builtinLookup_eq_fast]; kernel_rfl, by decide +kernel⟩, by rw [typeLookup_type, builtinLookup_eq_fast]; kernel_rfl⟩
theorem owner_pattern : Manifest.owners.lookup "re.Pattern" = some Manifest.sig_re_Pattern := by kernel_rfl
theorem slot_sub : Slot "re.Pattern" "sub" "re.Pattern.sub" :=
  .of (owner := "re.Pattern") (n := "sub") (by rw [typeLookup_type, builtinLookup_eq_fast]; kernel_rfl) (by decide +kernel) (by decide +kernel) (by decide +kernel)
    (by first | exact .inl (by decide +kernel) | exact .inr (by decide +kernel)) (by rw [isSubtype_type]; kernel_rfl)
theorem type_sub : typeOf (.builtin "re.Pattern.sub") = pure (.type "method_descriptor") := by show builtinType _ = _; rw [builtinType_eq_fast]; kernel_rfl
theorem entry_sub : entryFor table "re.Pattern.sub" = some Builtin.«re.Pattern.sub» := entryFor_of_tree (by kernel_rfl)
theorem args_sub (a b c : Value) : argsOk "re.Pattern.sub" ⟨[a, b, c], []⟩ := by
  unfold argsOk; rw [signature?_of (id := "re.Pattern.sub") (n := ['b', 'u', 's']) (o := ['n', 'r', 'e', 't', 't', 'a', 'P', '.', 'e', 'r']) (by kernel_rfl) owner_pattern]; kernel_rfl
theorem named_sub (a b : Value) : Builtin.Re.reNamed "re.Pattern.sub" "sub" ["repl", "string", "count"] 2 [a, b] [] = pure [some a, some b, none] := by rfl
theorem str_nocall : typeLookup (.type "str") "__call__" = pure none := by rw [typeLookup_type, builtinLookup_eq_fast]; kernel_rfl

section
variable {prog : Program} {w : World} {A : Around} {E : Value → Shared → Prop} {s : Shared}
theorem call_sub {C : Cx} {P T : Addr} {code : Array Nat} {find : Nat → Option (Nat × Nat)} {x rp : Str} {tx trp : Tok} {out : List Nat} {Q : Value → Shared → Prop}
    (hfind : ∀ p, p ≤ x.cps.size → ∃ N m', N ≤ 4000000 ∧ Steps N (Sre.forSearch code x.cps 0 p x.cps.size false) m' ∧ Found m' (find p))
    (hb1 : ∀ p b e, find p = some (b, e) → p ≤ b ∧ b < e ∧ e ≤ x.cps.size) (X : PatAt s.heap P T code) (hx : x.cps.size ≤ 1000000) (hrp : rp.cps.size = 2) (hno : rp.cps.contains 92 = false)
    (h : SubR find x.cps rp.cps.toList 0 out)
    (q : ∀ (res : Str) t h' tk, res.cps.toList = out → Ext C s.heap h' → Q (.str res t) { s with heap := h', toks := tk }) :
    wpAny (model prog w) A (call (.builtin "re.Pattern.sub") [.ref P, .str rp trp, .str x tx]) Q E s := by
  obtain ⟨⟨fs, e1, r1⟩, r2⟩ := id X
  refine wpAny_call (codeAny_call_builtin slot_sub.plain entry_sub (slot_sub.check _ _ _ _ _ _ _ _ ⟨_, e1, rfl⟩ (args_sub _ _ _) ?_))
  unfold Builtin.«re.Pattern.sub» Builtin.Re.reSubstitute
  dsimp only
  rw [named_sub]
  refine wpAny_bind (wpAny_pure ?_)
  dsimp only
  refine wpAny_bind (wpAny_pure ?_)
  refine wpAny_bind (wpAny_specialOf (T := "str") rfl str_nocall ?_)
  unfold asStr?
  simp only [Option.isSome_none, Bool.false_eq_true, if_false]
  refine wpAny_bind (wpAny_bind (wpAny_pure (wpAny_pure ?_)))
  dsimp only
  refine wpAny_bind (wpAny_pure ?_)
  rw [hno, if_pos (by decide)]
  refine wpAny_bind (wpAny_pure ?_)
  refine wpAny_bind (wpAny_holding (wp_target X ?_))
  rw [if_neg (by simp)]
  unfold newList
  refine wpAny_bind (wpAny_newObj_type ?_)
  have hfr : s.heap.get? s.heap.objs.size = none := fresh_push _
  refine wpAny_pure ⟨Code.quiet_builtin _ (by decide +kernel), ?_⟩
  exact sub_loop (C := C) (hb := s.heap) hfind hb1 hfr X hx hrp h (Nat.zero_le _) 0 _ _ [] 0 (Heap.get?_push_size _ rfl) (.push _ _) (Nat.zero_le _) (Nat.zero_le _) fun res t h' tk hr he => q res t h' tk (by rw [hr]; rfl) he
end
end Mine
namespace Mine
def normB : Bool → List Nat → List Nat
  | _, [] => []
  | b, c :: r => if c = 13 then 13 :: 10 :: normB true r else if c = 10 then (if b = true then normB false r else 13 :: 10 :: normB false r) else c :: normB false r
abbrev norm (l : List Nat) : List Nat := normB false l
def stuff : Bool → List Nat → List Nat
  | _, [] => []
  | b, c :: r => if b = true ∧ c = 46 then 46 :: 46 :: stuff false r else c :: stuff (c == 10) r

theorem arr_drop {t : Array Nat} {p : Nat} (h : p < t.size) : t.toList.drop p = t.getD p 0 :: t.toList.drop (p + 1) := by
  rw [List.drop_eq_getElem_cons (by simpa using h)]
  simp [Array.getD, h]
theorem take_cons_drop {t : Array Nat} {p b : Nat} (h : p < t.size) (hb : p + 1 ≤ b) : (t.toList.drop p).take (b - p) = t.getD p 0 :: (t.toList.drop (p + 1)).take (b - (p + 1)) := by
  rw [arr_drop h, show b - p = (b - (p + 1)) + 1 by omega, List.take_succ_cons]

def atLine (t : Array Nat) (s : Nat) : Bool := s == 0 || t.getD (s - 1) 0 == 10
theorem atLine_succ (t : Array Nat) (s : Nat) : atLine t (s + 1) = (t.getD s 0 == 10) := by simp [atLine]
theorem find1_law {t : Array Nat} : ∀ n p, p + n = t.size →
    (find1 t n p = none → stuff (atLine t p) (t.toList.drop p) = t.toList.drop p) ∧
    ∀ b, find1 t n p = some b → p ≤ b ∧ b < t.size ∧ stuff (atLine t p) (t.toList.drop p) = (t.toList.drop p).take (b - p) ++ [46, 46] ++ stuff (atLine t (b + 1)) (t.toList.drop (b + 1)) := by
  intro n
  induction n with
  | zero =>
    intro p hp
    have : t.toList.drop p = [] := List.drop_eq_nil_of_le (by simp; omega)
    refine ⟨fun _ => by rw [this]; cases atLine t p <;> rfl, fun b hb => by cases hb⟩
  | succ n ih =>
    intro p hp
    have hlt : p < t.size := by omega
    obtain ⟨i1, i2⟩ := ih (p + 1) (by omega)
    rw [arr_drop hlt]
    unfold find1
    by_cases hc : atLine t p = true ∧ t.getD p 0 = 46
    · have e : ((p == 0 || t.getD (p - 1) 0 == 10) && t.getD p 0 == 46) = true := by
        have h1 : (p == 0 || t.getD (p - 1) 0 == 10) = true := hc.1
        rw [h1, hc.2]; rfl
      rw [if_pos e]
      refine ⟨fun z => (by cases z), fun b hb => ?_⟩
      cases hb
      refine ⟨Nat.le_refl _, hlt, ?_⟩
      rw [stuff, if_pos hc, atLine_succ, hc.2, Nat.sub_self]
      rfl
    · have e : ¬ ((p == 0 || t.getD (p - 1) 0 == 10) && t.getD p 0 == 46) = true := by
        intro z
        obtain ⟨h1, h2⟩ := Bool.and_eq_true_iff.mp z
        exact hc ⟨h1, by simpa using h2⟩
      rw [if_neg e, stuff, if_neg hc, ← atLine_succ]
      refine ⟨fun z => by rw [i1 z], fun b hb => ?_⟩
      obtain ⟨h1, h2, h3⟩ := i2 b hb
      refine ⟨by omega, h2, ?_⟩
      rw [h3, show b - p = (b - (p + 1)) + 1 by omega, List.take_succ_cons]
      simp
abbrev look1 (t : Array Nat) (p : Nat) : Option (Nat × Nat) := (find1 t (t.size - p) p).map fun b => (b, b + 1)
theorem look1_ok {t : Array Nat} : ∀ p b e, look1 t p = some (b, e) → p ≤ b ∧ b < e ∧ e ≤ t.size := by
  intro p b e h
  obtain ⟨b', h1, h2⟩ := Option.map_eq_some_iff.mp h
  cases h2
  by_cases hp : p ≤ t.size
  · obtain ⟨h3, h4, _⟩ := (find1_law (t := t) (t.size - p) p (by omega)).2 b h1
    omega
  · rw [show t.size - p = 0 by omega] at h1; cases h1
theorem sub1 {t : Array Nat} : ∀ k p, p ≤ t.size → t.size - p ≤ k → SubR (look1 t) t [46, 46] p (stuff (atLine t p) (t.toList.drop p)) := by
  intro k
  induction k with
  | zero =>
    intro p hp hk
    have hz : t.size - p = 0 := by omega
    have := (find1_law (t := t) (t.size - p) p (by omega)).1 (by rw [hz]; rfl)
    rw [this]
    exact .over (by unfold look1; rw [hz]; rfl)
  | succ k ih =>
    intro p hp hk
    obtain ⟨l1, l2⟩ := find1_law (t := t) (t.size - p) p (by omega)
    cases hf : find1 t (t.size - p) p with
    | none =>
      rw [l1 hf]
      exact .over (by unfold look1; rw [hf]; rfl)
    | some b =>
      obtain ⟨h1, h2, h3⟩ := l2 b hf
      rw [h3]
      exact .next (e := b + 1) (by unfold look1; rw [hf]; rfl) (ih (b + 1) (by omega) (by omega))

theorem norm_crlf (r : List Nat) : norm (13 :: 10 :: r) = 13 :: 10 :: norm r := by simp [normB]
theorem norm_lf (r : List Nat) : norm (10 :: r) = 13 :: 10 :: norm r := by simp [normB]
theorem norm_cr {r : List Nat} (h : r.head? ≠ some 10) : norm (13 :: r) = 13 :: 10 :: norm r := by
  have : normB true r = normB false r := by
    cases r with
    | nil => rfl
    | cons c r =>
      have hc : c ≠ 10 := fun z => h (by rw [z]; rfl)
      simp [normB, hc]
  simp [normB, this]
theorem norm_other {c : Nat} (r : List Nat) (h1 : c ≠ 13) (h2 : c ≠ 10) : norm (c :: r) = c :: norm r := by simp [normB, h1, h2]
theorem norm_at {t : Array Nat} {b : Nat} (hb : t.getD b 0 = 10 ∨ t.getD b 0 = 13) : norm (t.toList.drop b) = [13, 10] ++ norm (t.toList.drop (end2 t b)) := by
  have hlt : b < t.size := by rcases hb with h | h <;> exact getD_lt h (by decide)
  rw [arr_drop hlt]
  rcases hb with h | h
  · have he : end2 t b = b + 1 := by unfold end2; rw [h]; rfl
    rw [h, he, norm_lf]; rfl
  · by_cases h2 : t.getD (b + 1) 0 = 10
    · have he : end2 t b = b + 2 := by unfold end2; rw [h, h2]; rfl
      rw [h, he, arr_drop (getD_lt h2 (by decide)), h2, norm_crlf]; rfl
    · have he : end2 t b = b + 1 := by unfold end2; rw [h, beq_eq_false_iff_ne.mpr h2]; rfl
      rw [h, he, norm_cr]
      · rfl
      · intro z
        by_cases hl : b + 1 < t.size
        · rw [arr_drop hl] at z; exact h2 (Option.some.inj z)
        · rw [List.drop_eq_nil_of_le (by simp; omega)] at z; cases z
theorem end2_le {t : Array Nat} {b : Nat} (hb : t.getD b 0 = 10 ∨ t.getD b 0 = 13) : b < end2 t b ∧ end2 t b ≤ t.size := by
  have hlt : b < t.size := by rcases hb with h | h <;> exact getD_lt h (by decide)
  unfold end2
  by_cases h : (t.getD b 0 == 13 && t.getD (b + 1) 0 == 10) = true
  · rw [if_pos h]
    obtain ⟨_, h2⟩ := Bool.and_eq_true_iff.mp h
    have := getD_lt (t := t) (i := b + 1) (c := 10) (eq_of_beq h2) (by decide)
    omega
  · rw [if_neg h]; omega
theorem find2_law {t : Array Nat} : ∀ n p, p + n = t.size →
    (find2 t n p = none → norm (t.toList.drop p) = t.toList.drop p) ∧
    ∀ b, find2 t n p = some b → norm (t.toList.drop p) = (t.toList.drop p).take (b - p) ++ [13, 10] ++ norm (t.toList.drop (end2 t b)) := by
  intro n
  induction n with
  | zero =>
    intro p hp
    have : t.toList.drop p = [] := List.drop_eq_nil_of_le (by simp; omega)
    refine ⟨fun _ => by rw [this]; rfl, fun b hb => by cases hb⟩
  | succ n ih =>
    intro p hp
    have hlt : p < t.size := by omega
    obtain ⟨i1, i2⟩ := ih (p + 1) (by omega)
    unfold find2
    by_cases hc : t.getD p 0 = 10 ∨ t.getD p 0 = 13
    · rw [if_pos (by simpa using hc)]
      refine ⟨fun z => (by cases z), fun b hb => ?_⟩
      cases hb
      rw [norm_at hc, Nat.sub_self]; rfl
    · rw [if_neg (by simpa using hc), arr_drop hlt]
      rw [not_or] at hc
      rw [norm_other _ hc.2 hc.1]
      refine ⟨fun z => by rw [i1 z], fun b hb => ?_⟩
      have hbp := (find2_mem hb).1
      rw [i2 b hb, show b - p = (b - (p + 1)) + 1 by omega, List.take_succ_cons]
      simp
abbrev look2 (t : Array Nat) (p : Nat) : Option (Nat × Nat) := (find2 t (t.size - p) p).map fun b => (b, end2 t b)
theorem look2_ok {t : Array Nat} : ∀ p b e, look2 t p = some (b, e) → p ≤ b ∧ b < e ∧ e ≤ t.size := by
  intro p b e h
  obtain ⟨b', h1, h2⟩ := Option.map_eq_some_iff.mp h
  cases h2
  obtain ⟨h3, h4⟩ := find2_mem h1
  exact ⟨h3, end2_le h4⟩
theorem sub2 {t : Array Nat} : ∀ k p, p ≤ t.size → t.size - p ≤ k → SubR (look2 t) t [13, 10] p (norm (t.toList.drop p)) := by
  intro k
  induction k with
  | zero =>
    intro p hp hk
    have hz : t.size - p = 0 := by omega
    have := (find2_law (t := t) (t.size - p) p (by omega)).1 (by rw [hz]; rfl)
    rw [this]
    exact .over (by unfold look2; rw [hz]; rfl)
  | succ k ih =>
    intro p hp hk
    obtain ⟨l1, l2⟩ := find2_law (t := t) (t.size - p) p (by omega)
    cases hf : find2 t (t.size - p) p with
    | none =>
      rw [l1 hf]
      exact .over (by unfold look2; rw [hf]; rfl)
    | some b =>
      have h3 := l2 b hf
      obtain ⟨h4, h5⟩ := find2_mem hf
      have h6 := end2_le h5
      rw [h3]
      exact .next (e := end2 t b) (by unfold look2; rw [hf]; rfl) (ih (end2 t b) (by omega) (by omega))

/-- a row of the mail -/
def rowText (dots : Nat) (e : List Nat) : List Nat := List.replicate dots 46 ++ e
theorem norm_dots (r : List Nat) : ∀ d, norm (List.replicate d 46 ++ r) = List.replicate d 46 ++ norm r
  | 0 => by simp
  | d + 1 => by rw [List.replicate_succ, List.cons_append, norm_other _ (by decide) (by decide), norm_dots r d]; rfl
theorem stuff_dots (r : List Nat) : ∀ d, stuff false (List.replicate d 46 ++ r) = List.replicate d 46 ++ stuff false r
  | 0 => by simp
  | d + 1 => by
    rw [List.replicate_succ, List.cons_append, stuff, if_neg (by simp)]
    show 46 :: stuff false _ = _
    rw [stuff_dots r d]; rfl
theorem rows_norm : ∀ rows : List (Nat × List Nat), (∀ x ∈ rows, 1 ≤ x.1 ∧ (x.2 = [10] ∨ x.2 = [13] ∨ x.2 = [13, 10])) →
    norm ((rows.map fun x => rowText x.1 x.2).flatten) = (rows.map fun x => rowText x.1 [13, 10]).flatten
  | [], _ => rfl
  | x :: rows, h => by
    have ih := rows_norm rows fun y hy => h y (List.mem_cons_of_mem _ hy)
    have hx := h x List.mem_cons_self
    have hh : ((rows.map fun x => rowText x.1 x.2).flatten).head? ≠ some 10 := by
      cases rows with
      | nil => simp
      | cons y rows =>
        have := (h y (List.mem_cons_of_mem _ List.mem_cons_self)).1
        obtain ⟨d, hd⟩ : ∃ d, y.1 = d + 1 := ⟨y.1 - 1, by omega⟩
        simp [rowText, hd, List.replicate_succ]
    simp only [List.map_cons, List.flatten_cons]
    unfold rowText at hh ⊢
    rw [List.append_assoc, norm_dots, List.append_assoc]
    unfold rowText at ih
    rcases hx.2 with e | e | e <;> rw [e]
    · rw [List.singleton_append, norm_lf, ih]; rfl
    · rw [List.singleton_append, norm_cr hh, ih]; rfl
    · rw [List.cons_append, List.singleton_append, norm_crlf, ih]; rfl
theorem rows_stuff : ∀ rows : List Nat, (∀ x ∈ rows, 1 ≤ x) → stuff true ((rows.map fun x => rowText x [13, 10]).flatten) = (rows.map fun x => rowText (x + 1) [13, 10]).flatten
  | [], _ => rfl
  | x :: rows, h => by
    have ih := rows_stuff rows fun y hy => h y (List.mem_cons_of_mem _ hy)
    obtain ⟨d, rfl⟩ : ∃ d, x = d + 1 := ⟨x - 1, by have := h x List.mem_cons_self; omega⟩
    simp only [List.map_cons, List.flatten_cons]
    unfold rowText at ih ⊢
    rw [List.append_assoc, List.replicate_succ, List.cons_append, stuff, if_pos ⟨rfl, rfl⟩, stuff_dots]
    rw [List.cons_append, List.singleton_append, stuff, if_neg (by simp), show ((13 : Nat) == 10) = false from rfl, stuff, if_neg (by simp), show ((10 : Nat) == 10) = true from rfl, ih]
    simp [List.replicate_succ]
/-- what quotedata makes of rows of dots -/
theorem rows_quoted (rows : List (Nat × List Nat)) (h : ∀ x ∈ rows, 1 ≤ x.1 ∧ (x.2 = [10] ∨ x.2 = [13] ∨ x.2 = [13, 10])) :
    stuff true (norm ((rows.map fun x => rowText x.1 x.2).flatten)) = (rows.map fun x => rowText (x.1 + 1) [13, 10]).flatten := by
  rw [rows_norm rows h]
  have := rows_stuff (rows.map (·.1)) (by intro y hy; obtain ⟨x, hx, rfl⟩ := List.mem_map.mp hy; exact (h x hx).1)
  rw [List.map_map, List.map_map] at this
  exact this
end Mine
set_option maxRecDepth 100000
namespace Mine
section
variable {C : Cx} {k : Nat} {sc : Scope} {σ : Store}
theorem ev_pat {nm : Str} {p apos pos : Pos} {e1 e2 : Expr} {P T : Addr} {code : Array Nat} {find : Nat → Option (Nat × Nat)} {x rp : Str} {out : List Nat}
    (hn : sc.names.lookup nm = some .globalImplicit) (hd : (nm == ("__debug__" : Str)) = false) (hmg : nsIn C.K mainGlobals nm = some (some (.ref P))) (X : ∀ h, C.K.In h → PatAt h P T code)
    (he1 : EvT C k sc σ e1 (.str rp)) (he2 : EvT C k sc σ e2 (.str x))
    (hfind : ∀ p, p ≤ x.cps.size → ∃ N m', N ≤ 4000000 ∧ Steps N (Sre.forSearch code x.cps 0 p x.cps.size false) m' ∧ Found m' (find p))
    (hb1 : ∀ p b e, find p = some (b, e) → p ≤ b ∧ b < e ∧ e ≤ x.cps.size) (hx : x.cps.size ≤ 1000000) (hrp : rp.cps.size = 2) (hno : rp.cps.contains 92 = false)
    (h : SubR find x.cps rp.cps.toList 0 out)
    (hbase : ∀ env : Env, attributeBase (.Name nm p) (Str.ofString "sub") env (eval (.Name nm p) env) = eval (.Name nm p) env)
    (hline : (apos.endLine == pos.line) = true) (hs : ∀ env : Env, starEach [e1, e2] env = [(false, eval e1 env), (false, eval e2 env)]) (hs2 : ∀ env : Env, starEach [e2] env = [(false, eval e2 env)]) :
    EvT C k sc σ (.Call (.Attribute (.Name nm p) (Str.ofString "sub") apos) [e1, e2] [] pos) (.str ⟨out.toArray⟩) := by
  intro ok env A s Q E hal hsc hA f g q
  refine wpAny_Call_method (T := "re.Pattern") (id := "re.Pattern.sub") (hbase env) (by rw [hs]; rfl) hline pa_pattern slot_sub type_sub (name_global hsc f g hn hd (.inl (mg_of g.frag g.g hmg)) ?_)
  obtain ⟨fs, e1', _⟩ := (X _ g.frag).obj
  refine ⟨⟨_, e1', rfl⟩, fun a e => (by cases e; exact ⟨_, e1', rfl⟩), ?_⟩
  have hev : EvsT C k sc σ [e1, e2] [.str rp, .str x] := evs_cons he1 (evs_cons he2 evs_nil fun env => by rw [hs2]; rfl) (fun env => by rw [hs, hs2])
  refine Calls.callWith_builtin (by rw [hs]; rfl) (args_plain hal hsc hA f g hev (fun env => by rw [hs, hs2]) fun vs h₁ t₁ n₁ x₁ r₁ => ?_)
  obtain ⟨v1, v2, rfl, r1, r2⟩ := r₁.two
  obtain ⟨t1, rfl⟩ := r1.asStr
  obtain ⟨t2, rfl⟩ := r2.asStr
  refine call_sub (C := C) hfind hb1 (X _ (g.ext x₁).frag) hx hrp hno h fun res t h' tk hr he => ?_
  have : res = ⟨out.toArray⟩ := by cases res; rw [← hr]
  subst this
  exact q _ h' tk (x₁.trans he) (.str _ _)
end
section
variable {w : World} {mg mb : Str → Option Value}
theorem pat1 (h : Heap) (X : (C1 w mg mb).K.In h) : PatAt h 85 84 code1 :=
  ⟨⟨_, X 85 _ rfl, rfl, rfl, rfl⟩, _, _, X 84 _ rfl, by decide +kernel⟩
theorem pat2 (h : Heap) (X : (C1 w mg mb).K.In h) : PatAt h 90 89 code2 :=
  ⟨⟨_, X 90 _ rfl, rfl, rfl, rfl⟩, _, _, X 89 _ rfl, by decide +kernel⟩
def quoted (x : Str) : Str := ⟨(stuff true (norm x.cps.toList)).toArray⟩
theorem norm_len : ∀ (b : Bool) (l : List Nat), (normB b l).length ≤ 2 * l.length
  | _, [] => by simp [normB]
  | b, c :: r => by
    have h1 := norm_len true r
    have h2 := norm_len false r
    unfold normB
    split
    · simp; omega
    · split
      · split <;> simp <;> omega
      · simp; omega
theorem quote_ct {x : Str} (hx : x.cps.size ≤ 100000) : CT (C1 w mg mb) 1 (.ref 97) [.str x] (.str (quoted x)) := by
  have hn : (norm x.cps.toList).length ≤ 200000 := by
    have h1 := norm_len false x.cps.toList
    have h2 : x.cps.toList.length = x.cps.size := Array.length_toList
    show (normB false x.cps.toList).length ≤ 200000
    omega
  refine ct_fun (k := 0) (names := ["data"]) (o := _) rfl rfl ⟨_, _, _, _, rfl, rfl, rfl, rfl⟩ rfl rfl rfl rfl rfl rfl rfl (by decide +kernel) (by decide +kernel) rfl (by decide +kernel) (by rintro (_ | ⟨v, _ | ⟨w, _⟩⟩) h <;> first | rfl | simp at h) ?_
  dsimp only [List.zip, List.zipWith]
  refine ex_cons_ret (exs_ret ?_)
  refine (ev_pat (find := look1 (norm x.cps.toList).toArray) (x := ⟨(norm x.cps.toList).toArray⟩) (rp := Str.ofString "..") (out := stuff true (norm x.cps.toList)) rfl rfl rfl pat1 ev_str ?_
    (fun p hp => let ⟨N, m', h1, h2, h3⟩ := search1 hp; ⟨N, m', (by simp at h1; omega), h2, h3⟩) look1_ok (by simp; omega) rfl (by decide +kernel) (sub1 _ 0 (Nat.zero_le _) (Nat.sub_le _ _)) (fun _ => rfl) rfl (fun _ => rfl) (fun _ => rfl))
  exact ev_pat (find := look2 x.cps) (x := x) (rp := Str.ofString "\r\n") (out := norm x.cps.toList) rfl rfl rfl pat2 (ev_global_str rfl rfl rfl) (ev_name rfl rfl rfl)
    (fun p hp => let ⟨N, m', h1, h2, h3⟩ := search2 hp; ⟨N, m', by omega, h2, h3⟩) look2_ok (by omega) rfl (by decide +kernel) (sub2 x.cps.size 0 (Nat.zero_le _) (Nat.sub_le _ _)) (fun _ => rfl) rfl (fun _ => rfl) (fun _ => rfl)
end
end Mine
set_option maxRecDepth 100000
namespace Mine
open StrLaws (At ChainG partsFrom) 

theorem str_ext {x y : Str} (h : x.cps.toList = y.cps.toList) : x = y := by
  cases x; cases y; congr 1; exact Array.toList_inj.mp h
def dotsStr (n : Nat) : Str := ⟨(List.replicate n 46).toArray⟩
theorem get_at {x : Str} {pre r : List Nat} {n : Nat} (hx : x.cps.toList = pre ++ (List.replicate n 46 ++ [13, 10]) ++ r) : 
    (∀ k, pre.length ≤ k → k < pre.length + n → x.cps.toList[k]? = some 46) ∧ x.cps.toList[pre.length + n]? = some 13 ∧ x.cps.toList[pre.length + n + 1]? = some 10 := by
  rw [hx, List.append_assoc]
  refine ⟨fun k h1 h2 => ?_, ?_, ?_⟩
  · rw [List.getElem?_append_right h1, List.append_assoc, List.getElem?_append_left (by simp; omega), List.getElem?_replicate, if_pos (by omega)]
  · rw [List.getElem?_append_right (by omega), List.append_assoc, List.getElem?_append_right (by simp)]
    simp
  · rw [List.getElem?_append_right (by omega), List.append_assoc, List.getElem?_append_right (by simp; omega)]
    simp
    rw [show pre.length + n + 1 - pre.length - n = 1 by omega]; rfl
theorem at_crlf {x : Str} {i : Nat} (h : At x (Str.ofString "\r\n") x.length i) : x.cps.toList[i]? = some 13 := by
  obtain ⟨h1, h2⟩ := h
  rw [StrLaws.subAt_eq] at h2
  have h3 : (x.cps.toList.drop i).take 2 = [13, 10] := eq_of_beq h2
  have h4 : (x.cps.toList.drop i)[0]? = some 13 := by
    have : ((x.cps.toList.drop i).take 2)[0]? = some 13 := by rw [h3]; rfl
    rwa [List.getElem?_take_of_lt (by decide)] at this
  rwa [List.getElem?_drop] at h4
theorem crlf_at {x : Str} {i : Nat} (h1 : x.cps.toList[i]? = some 13) (h2 : x.cps.toList[i + 1]? = some 10) : At x (Str.ofString "\r\n") x.length i := by
  have hl := (List.getElem?_eq_some_iff.mp h2).1
  have hl2 : x.cps.toList.length = x.length := by simp [Str.length]
  refine ⟨?_, ?_⟩
  · show i + 2 ≤ x.length; omega
  rw [StrLaws.subAt_eq]
  show ((x.cps.toList.drop i).take 2 == [13, 10]) = true
  have e : x.cps.toList.drop i = 13 :: 10 :: x.cps.toList.drop (i + 2) := by
    rw [List.drop_eq_getElem_cons (by omega : i < x.cps.toList.length), List.drop_eq_getElem_cons hl]
    rw [List.getElem?_eq_getElem (by omega)] at h1
    rw [List.getElem?_eq_getElem hl] at h2
    rw [Option.some.inj h1, Option.some.inj h2]
  rw [e]; rfl
theorem parts_rows {x : Str} : ∀ (rows : List Nat) (pre : List Nat) (cuts : List Nat) (f : Nat), x.cps.toList = pre ++ (rows.map fun n => rowText n [13, 10]).flatten →
    ChainG x (Str.ofString "\r\n") x.length pre.length cuts f → (∀ k, f ≤ k → ¬ At x (Str.ofString "\r\n") x.length k) → partsFrom x 2 pre.length cuts = rows.map dotsStr ++ [⟨#[]⟩]
  | [], pre, cuts, f, hx, hc, hf => by
    have hl : x.length = pre.length := by
      have := congrArg List.length hx
      simpa [Str.length] using this
    cases cuts with
    | nil =>
      show [Builtin.Str.strSub x pre.length x.length] = _
      congr 1
      refine str_ext ?_
      rw [StrLaws.strSub_toList, hl, Nat.sub_self]; rfl
    | cons c r =>
      have h1 : c + 2 ≤ x.length := hc.2.1.1
      have := hc.1
      omega
  | n :: rows, pre, cuts, f, hx, hc, hf => by
    have hx' : x.cps.toList = pre ++ (List.replicate n 46 ++ [13, 10]) ++ (rows.map fun n => rowText n [13, 10]).flatten := by
      rw [hx, List.append_assoc]; rfl
    obtain ⟨g1, g2, g3⟩ := get_at hx'
    have hA := crlf_at g2 g3
    cases cuts with
    | nil =>
      have e : f = pre.length := hc
      exact absurd hA (hf _ (by omega))
    | cons c r =>
      obtain ⟨c1, c2, c3, c4⟩ := hc
      have hcn : c = pre.length + n := by
        rcases Nat.lt_trichotomy c (pre.length + n) with h | h | h
        · have := at_crlf c2
          rw [g1 c c1 h] at this; cases this
        · exact h
        · exact absurd hA (c3 _ (by omega) h)
      subst hcn
      have hlen : (pre ++ (List.replicate n 46 ++ [13, 10])).length = pre.length + n + 2 := by simp; omega
      have ih := parts_rows rows (pre ++ (List.replicate n 46 ++ [13, 10])) r f hx' (by rw [hlen]; exact c4) hf
      rw [hlen] at ih
      show Builtin.Str.strSub x pre.length (pre.length + n) :: partsFrom x 2 (pre.length + n + 2) r = _
      rw [ih]
      show _ = dotsStr n :: (rows.map dotsStr ++ _)
      congr 1
      refine str_ext ?_
      rw [StrLaws.strSub_toList, hx', List.append_assoc, List.drop_left, show pre.length + n - pre.length = n by omega, List.append_assoc, List.take_left' (by simp)]
      rfl
theorem strKind_pos (x : Str) : 1 ≤ Builtin.Str.strKind x := by unfold Builtin.Str.strKind; split <;> (try split) <;> omega
theorem split_rows {x : Str} {rows : List Nat} (hne : rows ≠ []) (hx : x.cps.toList = (rows.map fun n => rowText n [13, 10]).flatten) :
    Txt.split x (Str.ofString "\r\n") = rows.map dotsStr ++ [⟨#[]⟩] ∧ (Builtin.Str.partsBetween x (Builtin.Str.occurrences x (Str.ofString "\r\n") 0 x.length (x.length + 1)) (Str.ofString "\r\n").length) = rows.map dotsStr ++ [⟨#[]⟩] := by
  obtain ⟨f, hG, hn⟩ := StrLaws.occ_tight x (Str.ofString "\r\n") (by decide)
  have hp := parts_rows rows [] _ f (by rw [hx]; rfl) hG hn
  have hp' : Builtin.Str.partsBetween x (Builtin.Str.occurrences x (Str.ofString "\r\n") 0 x.length (x.length + 1)) (Str.ofString "\r\n").length = rows.map dotsStr ++ [⟨#[]⟩] := by
    rw [StrLaws.partsBetween_eq]; exact hp
  refine ⟨?_, hp'⟩
  have hlen : 2 ≤ x.length := by
    have h1 : x.cps.toList.length = x.length := by simp [Str.length]
    cases rows with
    | nil => exact absurd rfl hne
    | cons n rows =>
      rw [← h1, hx]; simp [rowText]; omega
  unfold Txt.split
  have hk : (decide (x.length < (Str.ofString "\r\n").length) || decide (Builtin.Str.strKind x < Builtin.Str.strKind (Str.ofString "\r\n"))) = false := by
    have h1 : Builtin.Str.strKind (Str.ofString "\r\n") = 1 := by decide +kernel
    have h2 := strKind_pos x
    have h3 : (Str.ofString "\r\n").length = 2 := rfl
    rw [h1, h3]
    simp; omega
  rw [hk, if_neg (by simp)]
  cases ho : (Builtin.Str.occurrences x (Str.ofString "\r\n") 0 x.length (x.length + 1)).isEmpty
  · rw [if_neg (by simp)]; exact hp'
  · exfalso
    have e0 := List.isEmpty_iff.mp ho
    rw [e0] at hp
    have : (partsFrom x 2 0 []).length = (rows.map dotsStr ++ [(⟨#[]⟩ : Str)]).length := congrArg List.length hp
    have h1 : (partsFrom x 2 0 []).length = 1 := rfl
    rw [h1] at this
    simp at this
    exact hne this

/-- a sign for a sign -/
def swap1 (c d : Nat) (l : List Nat) : List Nat := l.map fun k => if k = c then d else k
theorem swap1_free (c d : Nat) : ∀ l : List Nat, c ∉ l → swap1 c d l = l
  | [], _ => rfl
  | k :: r, h => by
    have h1 : ¬ k = c := fun e => h (e ▸ List.mem_cons_self ..)
    have h2 : c ∉ r := fun m => h (List.mem_cons_of_mem _ m)
    have ih := swap1_free c d r h2
    unfold swap1 at ih ⊢
    rw [List.map_cons, if_neg h1, ih]
theorem swap1_join (c d : Nat) : ∀ parts : List Str, (∀ p ∈ parts, c ∉ p.cps.toList) → swap1 c d (Str.join ⟨#[c]⟩ parts).cps.toList = (Str.join ⟨#[d]⟩ parts).cps.toList
  | [], _ => rfl
  | [p], h => swap1_free c d _ (h p (List.mem_singleton.mpr rfl))
  | p :: q :: r, h => by
    have ih := swap1_join c d (q :: r) fun a ha => h a (List.mem_cons_of_mem _ ha)
    have hp := swap1_free c d _ (h p List.mem_cons_self)
    have e1 : (Str.join ⟨#[c]⟩ (p :: q :: r)).cps.toList = p.cps.toList ++ [c] ++ (Str.join ⟨#[c]⟩ (q :: r)).cps.toList := by
      show (p ++ ⟨#[c]⟩ ++ Str.join ⟨#[c]⟩ (q :: r)).cps.toList = _
      simp only [Str.cps_append, Array.toList_append]
    have e2 : (Str.join ⟨#[d]⟩ (p :: q :: r)).cps.toList = p.cps.toList ++ [d] ++ (Str.join ⟨#[d]⟩ (q :: r)).cps.toList := by
      show (p ++ ⟨#[d]⟩ ++ Str.join ⟨#[d]⟩ (q :: r)).cps.toList = _
      simp only [Str.cps_append, Array.toList_append]
    rw [e1, e2, ← ih]
    unfold swap1 at hp ⊢
    rw [List.map_append, List.map_append, hp]
    simp
theorem replace_swap (x : Str) (c d : Nat) : (Txt.replace x ⟨#[c]⟩ ⟨#[d]⟩).cps.toList = swap1 c d x.cps.toList := by
  rw [StrLaws.replace_one, ← swap1_join c d _ (StrLaws.split_free x c), StrLaws.join_split]
theorem replace_dots (n : Nat) : Txt.replace (dotsStr n) ⟨#[46]⟩ ⟨#[32]⟩ = ⟨(List.replicate n 32).toArray⟩ := by
  refine str_ext ?_
  rw [replace_swap]
  simp [swap1, dotsStr]

section
variable {C : Cx} {k : Nat} {sc : Scope} {σ : Store}
/-- x.replace('a', 'b') with two signs that the text writes -/
theorem ev_replace {o : Expr} {apos pos : Pos} {x y z : Str} {k1 k2 : Nat} {p1 p2 : Pos} (ho : EvT C k sc σ o (.str x)) (hyz : (y == z) = false) (hx : x.length ≤ 1000000) (hz : z.length ≤ 14)
    (hbase : ∀ env : Env, attributeBase o (Str.ofString "replace") env (eval o env) = eval o env) (hline : (apos.endLine == pos.line) = true) :
    EvT C k sc σ (.Call (.Attribute o (Str.ofString "replace") apos) [.Constant (.str y) k1 p1, .Constant (.str z) k2 p2] [] pos) (.str (Txt.replace x y z)) := by
  intro ok env A s Q E hal hsc hA f g q
  refine wpAny_Call_method (T := "str") (id := "str.replace") (hbase env) rfl hline F.plainAttrs_str F.slot_str_replace F.type_str_replace (ho.use ok env A s _ E hal hsc hA f g fun ov h₁ t₁ n₁ x₁ r₁ => ?_)
  obtain ⟨t, rfl⟩ := r₁.asStr
  refine ⟨typeIs_str _ _ _, (fun _ e => nomatch e), ?_⟩
  refine Calls.callWith_builtin rfl ?_
  refine Calls.evalArgs_plain (Calls.spliced_cons (wpAny_Constant_str (k := k1) (pos := p1) (Calls.spliced_cons (wpAny_Constant_str (k := k2) (pos := p2) (wpAny_items_nil ?_)))))
  have hn : 1 ≤ t₁ := n₁
  refine SC.replaceW (by show t₁ ≠ 0; omega) (by show t₁ + 1 ≠ 0; omega) (by show t₁ ≠ t₁ + 1; omega) hyz (by omega) hz fun t' k' => ?_
  exact q _ h₁ k' x₁ (.str _ _)
end
end Mine
namespace Mine

/-- a row of law 1 -/
structure Rw where
  size : Nat
  dots : Nat
  unit : Nat
  en : List Nat
structure Rw.Ok (r : Rw) : Prop where
  size : r.size = 2 ∨ r.size = 4 ∨ r.size = 3 ∨ r.size = 8 ∨ r.size = 6
  dots : 1 ≤ r.dots ∧ r.dots ≤ r.size
  unit : r.unit = 1 ∨ r.unit = 5 ∨ r.unit = 7 ∨ r.unit = 11
  en : r.en = [10] ∨ r.en = [13] ∨ r.en = [13, 10]
def Rw.step (r : Rw) : Nat := 24 / r.size * r.unit % 24
def Rw.hit (r : Rw) (t : Nat) : Bool := (r.dots + t + 1) % r.size == 0

def Cg (a b : Int) : Prop := (73 : Int) ∣ a - b
theorem Cg.refl (a : Int) : Cg a a := ⟨0, by omega⟩
theorem Cg.symm {a b : Int} (h : Cg a b) : Cg b a := let ⟨c, e⟩ := h; ⟨-c, by omega⟩
theorem Cg.trans {a b c : Int} (h : Cg a b) (k : Cg b c) : Cg a c := let ⟨x, e⟩ := h; let ⟨y, f⟩ := k; ⟨x + y, by omega⟩
theorem Cg.add {a b c d : Int} (h : Cg a b) (k : Cg c d) : Cg (a + c) (b + d) := let ⟨x, e⟩ := h; let ⟨y, f⟩ := k; ⟨x + y, by omega⟩
theorem Cg.sub {a b c d : Int} (h : Cg a b) (k : Cg c d) : Cg (a - c) (b - d) := let ⟨x, e⟩ := h; let ⟨y, f⟩ := k; ⟨x - y, by omega⟩
theorem Cg.mul {a b c d : Int} (h : Cg a b) (k : Cg c d) : Cg (a * c) (b * d) := by
  obtain ⟨x, e⟩ := h
  obtain ⟨y, f⟩ := k
  have ea : a = b + 73 * x := by omega
  have ec : c = d + 73 * y := by omega
  refine ⟨b * y + x * d + x * (73 * y), ?_⟩
  subst ea ec
  simp only [Int.add_mul, Int.mul_add]
  have h1 : b * (73 * y) = 73 * (b * y) := by rw [Int.mul_left_comm]
  have h2 : 73 * x * d = 73 * (x * d) := Int.mul_assoc ..
  have h3 : 73 * x * (73 * y) = 73 * (x * (73 * y)) := Int.mul_assoc ..
  rw [h1, h2, h3]
  omega
theorem Cg.zero {a : Int} : Cg a 0 ↔ (73 : Int) ∣ a := by unfold Cg; rw [Int.sub_zero]
theorem Cg.pow {a b : Int} (h : Cg a b) : ∀ n : Nat, Cg (a ^ n) (b ^ n)
  | 0 => by rw [Int.pow_zero, Int.pow_zero]; exact .refl _
  | n + 1 => by rw [Int.pow_succ, Int.pow_succ]; exact (Cg.pow h n).mul h

theorem div73 : ∀ d : Nat, d < 74 → d ∣ 73 → d = 1 ∨ d = 73 := by decide +kernel
theorem prime73 {a b : Int} (h : (73 : Int) ∣ a * b) : (73 : Int) ∣ a ∨ (73 : Int) ∣ b := by
  have h1 : 73 ∣ a.natAbs * b.natAbs := by rw [← Int.natAbs_mul]; exact Int.natAbs_dvd_natAbs.mpr h
  have hg : Nat.gcd 73 a.natAbs ∣ 73 := Nat.gcd_dvd_left ..
  rcases div73 _ (Nat.lt_succ_of_le (Nat.le_of_dvd (by decide) hg)) hg with e | e
  · exact .inr (Int.natAbs_dvd_natAbs.mp ((Nat.Coprime.dvd_of_dvd_mul_left (show Nat.Coprime 73 a.natAbs from e) h1)))
  · refine .inl (Int.natAbs_dvd_natAbs.mp ?_)
    have := Nat.gcd_dvd_right 73 a.natAbs
    rw [e] at this; exact this

abbrev W : Int := 52
theorem w24 : Cg (W ^ 24) 1 := ⟨2092942934241809251625495189635578203655, by decide +kernel⟩
theorem w_mul24 (k : Nat) : Cg (W ^ (24 * k)) 1 := by
  rw [Int.pow_mul]
  have := w24.pow k
  rwa [Int.one_pow] at this
theorem w_mod (n : Nat) : Cg (W ^ (n % 24)) (W ^ n) := by
  conv => rhs; rw [← Nat.mod_add_div n 24, Int.pow_add]
  have := (Cg.refl (W ^ (n % 24))).mul (w_mul24 (n / 24)).symm
  rwa [Int.mul_one] at this
theorem w_unit (n : Nat) : ¬ (73 : Int) ∣ W ^ n := by
  induction n with
  | zero => decide
  | succ n ih =>
    intro h
    rw [Int.pow_succ] at h
    rcases prime73 h with h | h
    · exact ih h
    · exact absurd h (by decide)
theorem w_ne : ∀ a : Nat, a < 24 → ∀ b : Nat, b < 24 → a ≠ b → (W ^ a - W ^ b) % 73 ≠ 0 := by decide +kernel
theorem w_diff {a b : Nat} (ha : a < 24) (hb : b < 24) (h : a ≠ b) : ¬ (73 : Int) ∣ W ^ a - W ^ b := fun z => w_ne a ha b hb h (Int.emod_eq_zero_of_dvd z)

def Rw.base (r : Rw) : Prop := ∀ i : Nat, i < r.size → ((W ^ (r.step * i) - 1) % 73 = 0 ↔ i = 0)
theorem base_all : ∀ s ∈ [2, 4, 3, 8, 6], ∀ u ∈ [1, 5, 7, 11], (24 / s * u % 24) * s % 24 = 0 ∧ ∀ i : Nat, i < s → ((W ^ ((24 / s * u % 24) * i) - 1) % 73 = 0 ↔ i = 0) := by decide +kernel
theorem Rw.Ok.facts {r : Rw} (h : r.Ok) : r.step * r.size % 24 = 0 ∧ ∀ i : Nat, i < r.size → ((W ^ (r.step * i) - 1) % 73 = 0 ↔ i = 0) := by
  refine base_all r.size ?_ r.unit ?_
  · rcases h.size with e | e | e | e | e <;> rw [e] <;> decide
  · rcases h.unit with e | e | e | e <;> rw [e] <;> decide
theorem Rw.Ok.pos {r : Rw} (h : r.Ok) : 2 ≤ r.size ∧ r.size ≤ 8 ∧ r.dots ≤ 8 ∧ 24 % r.size = 0 := by
  have := h.dots
  rcases h.size with e | e | e | e | e <;> (rw [e] at this ⊢; omega)
/-- a factor is nought just where its row moves -/
theorem factor_zero {r : Rw} (h : r.Ok) (y : Nat) : (73 : Int) ∣ 1 - W ^ (r.step * y) ↔ y % r.size = 0 := by
  obtain ⟨h1, h2⟩ := h.facts
  have hp := h.pos
  have key : Cg (W ^ (r.step * y)) (W ^ (r.step * (y % r.size))) := by
    have e : r.step * y = r.step * (y % r.size) + (r.step * r.size) * (y / r.size) := by
      conv => lhs; rw [← Nat.mod_add_div y r.size, Nat.mul_add, ← Nat.mul_assoc]
    rw [e, Int.pow_add]
    obtain ⟨c, hc⟩ := Nat.dvd_of_mod_eq_zero h1
    have h3 : Cg (W ^ (r.step * r.size * (y / r.size))) 1 := by rw [hc, Nat.mul_assoc]; exact w_mul24 _
    have := (Cg.refl (W ^ (r.step * (y % r.size)))).mul h3
    rwa [Int.mul_one] at this
  have h4 := h2 (y % r.size) (Nat.mod_lt _ (by omega))
  rw [← h4]
  obtain ⟨c, hc⟩ := key
  constructor
  · rintro ⟨d, hd⟩
    exact Int.emod_eq_zero_of_dvd ⟨-d - c, by omega⟩
  · intro z
    obtain ⟨d, hd⟩ := Int.dvd_of_emod_eq_zero z
    exact ⟨-d - c, by omega⟩
theorem hit_iff {r : Rw} (h : r.Ok) (t : Nat) : r.hit t = true ↔ (73 : Int) ∣ 1 - W ^ (r.step * (r.dots + t + 1)) := by
  rw [factor_zero h]; unfold Rw.hit; simp

/-- sums of powers: pairs of a coefficient and an exponent -/
def ev (T : List (Int × Nat)) (x : Nat) : Int := (T.map fun p => p.1 * W ^ (p.2 * x)).sum
theorem ev_nil (x : Nat) : ev [] x = 0 := rfl
theorem ev_cons (p : Int × Nat) (T : List (Int × Nat)) (x : Nat) : ev (p :: T) x = p.1 * W ^ (p.2 * x) + ev T x := by simp [ev]
theorem ev_append (S T : List (Int × Nat)) (x : Nat) : ev (S ++ T) x = ev S x + ev T x := by simp [ev]
def terms : List Rw → List (Int × Nat)
  | [] => [(1, 0)]
  | r :: R => terms R ++ (terms R).map fun p => (-(p.1 * W ^ (r.step * (r.dots + 1))), (p.2 + r.step) % 24)
def prods (R : List Rw) (t : Nat) : Int := R.foldr (fun r a => (1 - W ^ (r.step * (r.dots + t + 1))) * a) 1
theorem ev_shift (r : Rw) (t : Nat) : ∀ T : List (Int × Nat), Cg (ev (T.map fun p => (-(p.1 * W ^ (r.step * (r.dots + 1))), (p.2 + r.step) % 24)) t) (-(W ^ (r.step * (r.dots + t + 1)) * ev T t))
  | [] => by rw [List.map_nil, ev_nil, Int.mul_zero]; exact .refl _
  | p :: T => by
    rw [List.map_cons, ev_cons, ev_cons, Int.mul_add, Int.neg_add]
    refine Cg.add ?_ (ev_shift r t T)
    have h1 : Cg (W ^ ((p.2 + r.step) % 24 * t)) (W ^ ((p.2 + r.step) * t)) := by
      rw [Int.pow_mul, Int.pow_mul]; exact (w_mod _).pow t
    have h2 := (Cg.refl (-(p.1 * W ^ (r.step * (r.dots + 1))))).mul h1
    refine h2.trans ?_
    have e : -(p.1 * W ^ (r.step * (r.dots + 1))) * W ^ ((p.2 + r.step) * t) = -(W ^ (r.step * (r.dots + t + 1)) * (p.1 * W ^ (p.2 * t))) := by
      rw [Int.neg_mul, Int.mul_assoc, ← Int.pow_add, Int.mul_left_comm, ← Int.pow_add]
      congr 3
      simp only [Nat.mul_add, Nat.add_mul, Nat.mul_one]
      omega
    rw [e]; exact .refl _
theorem terms_ev (t : Nat) : ∀ R : List Rw, Cg (ev (terms R) t) (prods R t)
  | [] => by
    show Cg (ev [(1, 0)] t) 1
    rw [ev_cons, ev_nil, Nat.zero_mul]; exact .refl _
  | r :: R => by
    have ih := terms_ev t R
    show Cg (ev (terms R ++ _) t) ((1 - W ^ (r.step * (r.dots + t + 1))) * prods R t)
    rw [ev_append, Int.sub_mul, Int.one_mul, Int.sub_eq_add_neg]
    refine Cg.add ih ((ev_shift r t _).trans ?_)
    obtain ⟨c, hc⟩ := (Cg.refl (W ^ (r.step * (r.dots + t + 1)))).mul ih
    exact ⟨-c, by omega⟩
theorem prods_zero {t : Nat} : ∀ {R : List Rw}, (∀ r ∈ R, r.Ok) → ((73 : Int) ∣ prods R t ↔ ∃ r ∈ R, r.hit t = true)
  | [], _ => by
    constructor
    · intro h; exact absurd (show (73 : Int) ∣ 1 from h) (by decide)
    · rintro ⟨r, h, _⟩; cases h
  | r :: R, hR => by
    have ih := prods_zero (t := t) (R := R) fun r h => hR r (List.mem_cons_of_mem _ h)
    have hr := hit_iff (hR r List.mem_cons_self) t
    show (73 : Int) ∣ (1 - W ^ (r.step * (r.dots + t + 1))) * prods R t ↔ _
    constructor
    · intro h
      rcases prime73 h with h | h
      · exact ⟨r, List.mem_cons_self, hr.mpr h⟩
      · obtain ⟨q, h1, h2⟩ := ih.mp h
        exact ⟨q, List.mem_cons_of_mem _ h1, h2⟩
    · rintro ⟨q, h1, h2⟩
      rcases List.mem_cons.mp h1 with rfl | h1
      · exact Int.dvd_mul_of_dvd_left (hr.mp h2)
      · exact Int.dvd_mul_of_dvd_right (ih.mpr ⟨q, h1, h2⟩)

/-- the operator that strikes the exponents of S -/
def app : List Nat → (Nat → Int) → Nat → Int
  | [], f => f
  | θ :: S, f => app S fun x => f (x + 1) - W ^ θ * f x
def strike (θ : Nat) (T : List (Int × Nat)) : List (Int × Nat) := (T.filter fun p => p.2 != θ).map fun p => (p.1 * (W ^ p.2 - W ^ θ), p.2)
theorem ev_strike (θ x : Nat) : ∀ T : List (Int × Nat), ev (strike θ T) x = ev T (x + 1) - W ^ θ * ev T x
  | [] => by simp [strike, ev]
  | p :: T => by
    have ih := ev_strike θ x T
    have e : p.1 * W ^ (p.2 * (x + 1)) = p.1 * (W ^ (p.2 * x) * W ^ p.2) := by rw [Nat.mul_succ, Int.pow_add]
    unfold strike at ih ⊢
    by_cases h : p.2 = θ
    · rw [List.filter_cons_of_neg (by simp [h]), ih, ev_cons, ev_cons, e, ← h, Int.mul_add]
      have : W ^ p.2 * (p.1 * W ^ (p.2 * x)) = p.1 * (W ^ (p.2 * x) * W ^ p.2) := by
        rw [Int.mul_left_comm, Int.mul_comm (W ^ p.2)]
      omega
    · rw [List.filter_cons_of_pos (by simp [h]), List.map_cons, ev_cons, ih, ev_cons, ev_cons, e, Int.mul_add]
      have : p.1 * (W ^ p.2 - W ^ θ) * W ^ (p.2 * x) = p.1 * (W ^ (p.2 * x) * W ^ p.2) - W ^ θ * (p.1 * W ^ (p.2 * x)) := by
        rw [Int.mul_sub, Int.sub_mul, Int.mul_assoc, Int.mul_assoc, Int.mul_comm (W ^ p.2), Int.mul_left_comm (W ^ θ)]
      show p.1 * (W ^ p.2 - W ^ θ) * W ^ (p.2 * x) + _ = _
      omega
theorem app_ev : ∀ (S : List Nat) (T : List (Int × Nat)), app S (ev T) = ev (S.foldl (fun T θ => strike θ T) T)
  | [], _ => rfl
  | θ :: S, T => by
    show app S (fun x => ev T (x + 1) - W ^ θ * ev T x) = ev (S.foldl (fun T θ => strike θ T) (strike θ T))
    rw [← app_ev S]
    congr 1
    funext x
    exact (ev_strike θ x T).symm
theorem struck_mem : ∀ {S : List Nat} {T : List (Int × Nat)} {p : Int × Nat}, p ∈ S.foldl (fun T θ => strike θ T) T → p.2 ∉ S ∧ ∃ c, (c, p.2) ∈ T
  | [], _, p, h => ⟨by simp, p.1, h⟩
  | θ :: S, T, p, h => by
    obtain ⟨h1, c, h2⟩ := struck_mem (S := S) (T := strike θ T) h
    unfold strike at h2
    obtain ⟨q, hq, e⟩ := List.mem_map.mp h2
    obtain ⟨hq1, hq2⟩ := List.mem_filter.mp hq
    have e2 : q.2 = p.2 := congrArg (·.2) e
    refine ⟨fun hm => ?_, q.1, ?_⟩
    · rcases List.mem_cons.mp hm with hm | hm
      · simp [e2, hm] at hq2
      · exact h1 hm
    · rw [← e2]; exact hq1
theorem app_kills {S : List Nat} {T : List (Int × Nat)} (h : ∀ p ∈ T, p.2 ∈ S) (x : Nat) : app S (ev T) x = 0 := by
  rw [app_ev]
  cases hc : S.foldl (fun T θ => strike θ T) T with
  | nil => rfl
  | cons p r =>
    have hm : p ∈ S.foldl (fun T θ => strike θ T) T := by rw [hc]; exact List.mem_cons_self
    obtain ⟨h1, c, h2⟩ := struck_mem hm
    exact absurd (h _ h2) h1
theorem app_window : ∀ (S : List Nat) (f : Nat → Int) (x : Nat), (∀ j, j < S.length → (73 : Int) ∣ f (x + j)) → ((73 : Int) ∣ app S f x ↔ (73 : Int) ∣ f (x + S.length))
  | [], f, x, _ => .rfl
  | θ :: S, f, x, h => by
    have ih := app_window S (fun x => f (x + 1) - W ^ θ * f x) x fun j hj => by
      refine Int.dvd_sub ?_ (Int.dvd_mul_of_dvd_right (h j (by simp; omega)))
      exact h (j + 1) (by simp; omega)
    show (73 : Int) ∣ app S _ x ↔ _
    rw [ih]
    have hl := h S.length (by simp)
    show (73 : Int) ∣ f (x + S.length + 1) - W ^ θ * f (x + S.length) ↔ (73 : Int) ∣ f (x + (S.length + 1))
    rw [← Nat.add_assoc]
    constructor
    · intro z
      have := Int.dvd_add z (Int.dvd_mul_of_dvd_right (b := W ^ θ) hl)
      rwa [Int.sub_add_cancel] at this
    · intro z
      exact Int.dvd_sub z (Int.dvd_mul_of_dvd_right hl)
theorem app_cong : ∀ (S : List Nat) {f g : Nat → Int}, (∀ x, Cg (f x) (g x)) → ∀ x, Cg (app S f x) (app S g x)
  | [], _, _, h => h
  | θ :: S, _, _, h => app_cong S fun x => (h (x + 1)).sub ((Cg.refl _).mul (h x))
/-- zeros in a row go on for ever -/
theorem zeros_on {T : List (Int × Nat)} {S : List Nat} (h : ∀ p ∈ T, p.2 ∈ S) {x : Nat} (hz : ∀ j, j < S.length → (73 : Int) ∣ ev T (x + j)) : ∀ n, (73 : Int) ∣ ev T (x + n) := by
  intro n
  induction n using Nat.strongRecOn with
  | ind n ih =>
    by_cases hn : n < S.length
    · exact hz n hn
    · have := (app_window S (ev T) (x + (n - S.length)) fun j hj => by
        rw [Nat.add_assoc]; exact ih _ (by omega)).mp (by rw [app_kills h]; exact ⟨0, rfl⟩)
      rw [Nat.add_assoc, Nat.sub_add_cancel (Nat.le_of_not_lt hn)] at this
      exact this
end Mine
namespace Mine
def cnt (R : List Rw) (t : Nat) : Nat := R.countP fun r => r.hit t
theorem hit_period {r : Rw} (h : r.Ok) (t k : Nat) : r.hit (t + 24 * k) = r.hit t := by
  obtain ⟨c, hc⟩ := Nat.dvd_of_mod_eq_zero h.pos.2.2.2
  unfold Rw.hit
  rw [show r.dots + (t + 24 * k) + 1 = r.dots + t + 1 + r.size * (c * k) by rw [hc, Nat.mul_assoc]; omega, Nat.add_mul_mod_self_left]
theorem cnt_period {R : List Rw} (h : ∀ r ∈ R, r.Ok) (t k : Nat) : cnt R (t + 24 * k) = cnt R t := by
  unfold cnt
  exact List.countP_congr fun r hr => by rw [hit_period (h r hr)]
theorem terms_sub {J R : List Rw} (h : J.Sublist R) : ∀ p ∈ terms J, ∃ q ∈ terms R, q.2 = p.2 := by
  induction h with
  | slnil => exact fun p hp => ⟨p, hp, rfl⟩
  | cons r _ ih =>
    intro p hp
    obtain ⟨q, h1, h2⟩ := ih p hp
    exact ⟨q, List.mem_append_left _ h1, h2⟩
  | cons_cons r _ ih =>
    intro p hp
    rcases List.mem_append.mp hp with hp | hp
    · obtain ⟨q, h1, h2⟩ := ih p hp
      exact ⟨q, List.mem_append_left _ h1, h2⟩
    · obtain ⟨p', h1, rfl⟩ := List.mem_map.mp hp
      obtain ⟨q, h2, h3⟩ := ih p' h1
      exact ⟨_, List.mem_append_right _ (List.mem_map_of_mem h2), by rw [h3]⟩
/-- Sun's theorem -/
theorem sun {R : List Rw} (hR : ∀ r ∈ R, r.Ok) {S : List Nat} (hS : ∀ p ∈ terms R, p.2 ∈ S) {start t₀ : Nat} (hw : ∀ j, j < S.length → cnt R t₀ < cnt R (start + j)) : False := by
  generalize hJ : R.filter (fun r => !r.hit t₀) = J
  have hsub : J.Sublist R := hJ ▸ List.filter_sublist
  have hJo : ∀ r ∈ J, r.Ok := fun r h => hR r (hsub.subset h)
  have hz : ∀ j, j < S.length → (73 : Int) ∣ ev (terms J) (start + j) := fun j hj => by
    have hex : ∃ r ∈ J, r.hit (start + j) = true := by
      refine Classical.byContradiction fun hn => ?_
      refine absurd (hw j hj) (Nat.not_lt.mpr (List.countP_mono_left fun r hr h1 => ?_))
      refine Classical.byContradiction fun h2 => hn ⟨r, ?_, h1⟩
      rw [← hJ]; exact List.mem_filter.mpr ⟨hr, by simp [h2]⟩
    have h1 := (prods_zero hJo).mpr hex
    have h2 := terms_ev (start + j) J
    exact Cg.zero.mp (h2.trans (Cg.zero.mpr h1))
  have hon := zeros_on (S := S) (fun p hp => by obtain ⟨q, h1, h2⟩ := terms_sub hsub p hp; rw [← h2]; exact hS q h1) hz (t₀ + 23 * start)
  have hon' := Cg.zero.mp ((terms_ev _ J).symm.trans (Cg.zero.mpr hon))
  obtain ⟨r, h1, h2⟩ := (prods_zero hJo).mp hon'
  rw [show start + (t₀ + 23 * start) = t₀ + 24 * start by omega, hit_period (hJo r h1)] at h2
  rw [← hJ] at h1
  have := (List.mem_filter.mp h1).2
  simp [h2] at this

def fac : List Nat → Nat → Int
  | [], _ => 1
  | θ :: S, i => (W ^ i - W ^ θ) * fac S i
theorem struck_eq : ∀ (S : List Nat) (T : List (Int × Nat)), S.foldl (fun T θ => strike θ T) T = (T.filter fun p => !S.contains p.2).map fun p => (p.1 * fac S p.2, p.2)
  | [], T => by
    show T = _
    have : (T.filter fun p => !([] : List Nat).contains p.2) = T := List.filter_eq_self.mpr fun _ _ => rfl
    rw [this]
    simp [fac]
  | θ :: S, T => by
    show S.foldl (fun T θ => strike θ T) (strike θ T) = _
    rw [struck_eq S]
    unfold strike
    rw [List.filter_map, List.filter_filter, List.map_map]
    congr 1
    · funext p
      simp [fac, Int.mul_assoc]
    · refine List.filter_congr fun p _ => ?_
      simp [List.contains_cons]
      by_cases h : p.2 = θ <;> simp [h]
theorem app_zero : ∀ (S : List Nat) (x : Nat), app S (fun _ => 0) x = 0
  | [], _ => rfl
  | θ :: S, x => by
    show app S (fun _ => 0 - W ^ θ * 0) x = 0
    simp only [Int.mul_zero, Int.sub_zero]
    exact app_zero S x
theorem fac_unit {i : Nat} (hi : i < 24) : ∀ {S : List Nat}, (∀ θ ∈ S, θ < 24 ∧ i ≠ θ) → ¬ (73 : Int) ∣ fac S i
  | [], _ => by show ¬ (73 : Int) ∣ 1; decide
  | θ :: S, h => by
    intro z
    rcases prime73 (show (73 : Int) ∣ (W ^ i - W ^ θ) * fac S i from z) with z | z
    · have := h θ List.mem_cons_self
      exact w_diff hi this.1 this.2 z
    · exact fac_unit hi (fun t ht => h t (List.mem_cons_of_mem _ ht)) z
theorem terms_unit : ∀ {R : List Rw} {p : Int × Nat}, p ∈ terms R → ¬ (73 : Int) ∣ p.1 ∧ p.2 < 24
  | [], p, h => by
    have : p = (1, 0) := by simpa [terms] using h
    subst this
    exact ⟨by decide, by decide⟩
  | r :: R, p, h => by
    rcases List.mem_append.mp h with h | h
    · exact terms_unit h
    · obtain ⟨q, h1, rfl⟩ := List.mem_map.mp h
      refine ⟨fun z => ?_, Nat.mod_lt _ (by decide)⟩
      rcases prime73 (Int.dvd_neg.mp z) with z | z
      · exact (terms_unit h1).1 z
      · exact w_unit _ z
/-- where each sending moves a row, no way of adding up stands alone -/
theorem lone {R : List Rw} (hR : ∀ r ∈ R, r.Ok) (hc : ∀ t, 1 ≤ cnt R t) {θ : Nat} (hθ : θ < 24) : ((terms R).map (·.2)).count θ ≠ 1 := by
  intro h1
  generalize hS : (List.range 24).filter (fun i => i != θ) = S
  have hf : ∀ x, Cg (ev (terms R) x) 0 := fun x => by
    refine (terms_ev x R).trans (Cg.zero.mpr ((prods_zero hR).mpr ?_))
    obtain ⟨r, h2, h3⟩ := List.countP_pos_iff.mp (hc x)
    exact ⟨r, h2, h3⟩
  have h2 := app_cong S (g := fun _ => 0) hf 0
  rw [app_zero, app_ev, struck_eq] at h2
  have h3 : ((terms R).filter fun p => !S.contains p.2) = (terms R).filter fun p => p.2 == θ := by
    refine List.filter_congr fun p hp => ?_
    have hlt := (terms_unit hp).2
    have : S.contains p.2 = (p.2 != θ) := by
      rw [← hS]
      rw [Bool.eq_iff_iff, List.contains_iff_mem, List.mem_filter, List.mem_range]
      simp [hlt]
    rw [this]; cases hb : p.2 == θ <;> simp [bne, hb]
  rw [h3] at h2
  have h4 : ((terms R).filter fun p => p.2 == θ).length = 1 := by
    rw [← List.countP_eq_length_filter]
    rw [List.count_eq_countP, List.countP_map] at h1
    exact h1
  obtain ⟨p, hp⟩ := List.length_eq_one_iff.mp h4
  rw [hp] at h2
  have hm : p ∈ (terms R).filter fun p => p.2 == θ := by rw [hp]; exact List.mem_cons_self
  obtain ⟨hm1, hm2⟩ := List.mem_filter.mp hm
  have he : p.2 = θ := by simpa using hm2
  have h5 : ev [(p.1 * fac S p.2, p.2)] 0 = p.1 * fac S p.2 := by
    rw [ev_cons, ev_nil, Nat.mul_zero]; simp
  rw [List.map_cons, List.map_nil, h5] at h2
  rcases prime73 (Cg.zero.mp h2) with z | z
  · exact (terms_unit hm1).1 z
  · refine fac_unit (terms_unit hm1).2 (S := S) (fun t ht => ?_) z
    rw [← hS] at ht
    obtain ⟨a, b⟩ := List.mem_filter.mp ht
    rw [he]
    exact ⟨List.mem_range.mp a, by simp at b; exact fun e => b e.symm⟩
end Mine
namespace Mine
def nval (B : Nat) : List Nat → Nat
  | [] => 0
  | x :: xs => x + B * nval B xs
theorem ndig_nval {n : Nat} : ∀ ds : List Nat, (∀ d ∈ ds, d < 2 ^ n) → ndig n ds.length (nval (2 ^ n) ds) = ds
  | [], _ => rfl
  | d :: ds, h => by
    have hd := h d List.mem_cons_self
    rw [List.length_cons, ndig, nval, Nat.add_mul_mod_self_left, Nat.mod_eq_of_lt hd, Nat.add_mul_div_left _ _ (Nat.two_pow_pos n), Nat.div_eq_of_lt hd, Nat.zero_add, ndig_nval ds fun x hx => h x (List.mem_cons_of_mem _ hx)]
theorem nval_append (B : Nat) : ∀ xs ys : List Nat, nval B (xs ++ ys) = nval B xs + B ^ xs.length * nval B ys
  | [], ys => by simp [nval]
  | x :: xs, ys => by
    rw [List.cons_append, nval, nval, nval_append B xs ys, List.length_cons, Nat.pow_succ, Nat.mul_add, Nat.mul_comm (B ^ xs.length) B, Nat.mul_assoc, Nat.add_assoc]
theorem nval_lt {B : Nat} : ∀ ds : List Nat, (∀ d ∈ ds, d < B) → nval B ds + 1 ≤ B ^ ds.length
  | [], _ => by simp [nval]
  | d :: ds, h => by
    have ih := nval_lt ds fun x hx => h x (List.mem_cons_of_mem _ hx)
    have hd := h d List.mem_cons_self
    rw [nval, List.length_cons, Nat.pow_succ, Nat.mul_comm (B ^ _)]
    have := Nat.mul_le_mul_left B ih
    rw [Nat.mul_add] at this
    omega
theorem nval_lt2 {B : Nat} {d : Nat} {ds : List Nat} (hd : d + 2 ≤ B) (h : ∀ d ∈ ds, d < B) : nval B (d :: ds) + 2 ≤ B ^ (ds.length + 1) := by
  have ih := nval_lt ds h
  rw [nval, Nat.pow_succ, Nat.mul_comm (B ^ _)]
  have := Nat.mul_le_mul_left B ih
  rw [Nat.mul_add] at this
  omega
def gval (B : Nat) (f : Nat → Nat) : Nat → Nat
  | 0 => 0
  | n + 1 => gval B f n + f n * B ^ n
theorem nval_range (B : Nat) (f : Nat → Nat) : ∀ n, nval B ((List.range n).map f) = gval B f n
  | 0 => rfl
  | n + 1 => by
    rw [List.range_succ, List.map_append, nval_append, nval_range B f n, List.length_map, List.length_range]
    simp [nval, gval, Nat.mul_comm]
theorem gval_add (B : Nat) (f g : Nat → Nat) : ∀ n, gval B (fun i => f i + g i) n = gval B f n + gval B g n
  | 0 => rfl
  | n + 1 => by simp only [gval, gval_add B f g n, Nat.add_mul]; omega
theorem gval_zero (B : Nat) : ∀ n, gval B (fun _ => 0) n = 0
  | 0 => rfl
  | n + 1 => by simp [gval, gval_zero B n]
theorem gval_congr {B : Nat} {f g : Nat → Nat} : ∀ n, (∀ i, i < n → f i = g i) → gval B f n = gval B g n
  | 0, _ => rfl
  | n + 1, h => by rw [gval, gval, gval_congr n fun i hi => h i (by omega), h n (by omega)]
theorem gval_one (B r : Nat) : ∀ n, gval B (fun i => if i = r then 1 else 0) n = if r < n then B ^ r else 0
  | 0 => by simp [gval]
  | n + 1 => by
    rw [gval, gval_one B r n]
    by_cases h : n = r
    · subst h; simp
    · by_cases h2 : r < n
      · simp [h, h2]; omega
      · simp [h, h2]; omega
theorem gval_split (B : Nat) (f : Nat → Nat) (a : Nat) : ∀ b, gval B f (a + b) = gval B f a + B ^ a * gval B (fun i => f (a + i)) b
  | 0 => by simp [gval]
  | b + 1 => by
    rw [← Nat.add_assoc, gval, gval_split B f a b, gval, Nat.mul_add, Nat.pow_add]
    rw [Nat.add_assoc, Nat.mul_left_comm (B ^ a)]

def geo (X : Nat) : Nat → Nat
  | 0 => 0
  | n + 1 => geo X n + X ^ n
theorem geo_mul {X : Nat} (h : 1 ≤ X) : ∀ n, geo X n * (X - 1) + 1 = X ^ n
  | 0 => by simp [geo]
  | n + 1 => by
    have ih := geo_mul h n
    rw [geo, Nat.add_mul, Nat.pow_succ]
    have e : X ^ n * X = X ^ n * (X - 1) + X ^ n := by
      conv => lhs; rw [show X = (X - 1) + 1 by omega]
      rw [Nat.mul_add, Nat.mul_one, Nat.sub_add_cancel h]
    omega
theorem geo_div {X : Nat} (h : 2 ≤ X) (n : Nat) : (X ^ n - 1) / (X - 1) = geo X n ∧ (X ^ n - 1) % (X - 1) = 0 := by
  have := geo_mul (X := X) (by omega) n
  have e : X ^ n - 1 = geo X n * (X - 1) := by omega
  rw [e]
  exact ⟨Nat.mul_div_cancel _ (by omega), Nat.mul_mod_left ..⟩
/-- a comb -/
theorem comb_val (B s r : Nat) (hr : r < s) : ∀ m, gval B (fun t => if t % s = r then 1 else 0) (s * m) = geo (B ^ s) m * B ^ r
  | 0 => by simp [gval, geo]
  | m + 1 => by
    rw [Nat.mul_succ, gval_split, comb_val B s r hr m, geo, Nat.add_mul]
    congr 1
    have : gval B (fun i => if (s * m + i) % s = r then 1 else 0) s = gval B (fun i => if i = r then 1 else 0) s :=
      gval_congr s fun i hi => by rw [Nat.mul_add_mod, Nat.mod_eq_of_lt hi]
    rw [this, gval_one, if_pos hr, ← Nat.pow_mul]

def Rw.off (r : Rw) : Nat := r.size - 1 - r.dots % r.size
theorem hit_off {r : Rw} (h : r.Ok) (t : Nat) : r.hit t = true ↔ t % r.size = r.off := by
  have hd := h.dots
  unfold Rw.hit Rw.off
  simp only [beq_iff_eq]
  rcases h.size with e | e | e | e | e <;> (rw [e] at hd ⊢; omega)
def Rw.col (r : Rw) (t : Nat) : Nat := r.size * ((r.dots + t) / r.size + 1)
theorem col_off {r : Rw} (h : r.Ok) : ((r.col 0 : Nat) : Int) - (r.dots : Int) - 1 = ((r.off : Nat) : Int) := by
  have hd := h.dots
  unfold Rw.col Rw.off
  rw [Nat.add_zero]
  rcases h.size with e | e | e | e | e <;> (rw [e] at hd ⊢; omega)
theorem col_move {r : Rw} (h : r.Ok) (t : Nat) : r.col (t + 1) = if r.hit t then r.col t + r.size else r.col t := by
  have hd := h.dots
  have hi : r.hit t = true ↔ (r.dots + t + 1) % r.size = 0 := by unfold Rw.hit; simp
  unfold Rw.col
  by_cases hh : r.hit t = true
  · rw [if_pos hh]
    have := hi.mp hh
    rcases h.size with e | e | e | e | e <;> (rw [e] at this ⊢; omega)
  · rw [if_neg hh]
    have : ¬ (r.dots + t + 1) % r.size = 0 := fun z => hh (hi.mpr z)
    rcases h.size with e | e | e | e | e <;> (rw [e] at this ⊢; omega)
def combOf (w : Nat) (r : Rw) : Nat := (2 ^ (24 * w) - 1) / (2 ^ (r.size * w) - 1)
theorem comb_facts {r : Rw} (h : r.Ok) {w : Nat} (hw : 1 ≤ w) : (2 ^ (24 * w) - 1) % (2 ^ (r.size * w) - 1) = 0 ∧ combOf w r = geo ((2 ^ w) ^ r.size) (24 / r.size) := by
  have hp := h.pos
  have e : 2 ^ (24 * w) = ((2 ^ w) ^ r.size) ^ (24 / r.size) := by
    rw [← Nat.pow_mul, ← Nat.pow_mul]
    congr 1
    rw [Nat.mul_div_cancel' (Nat.dvd_of_mod_eq_zero hp.2.2.2), Nat.mul_comm]
  have e2 : 2 ^ (r.size * w) = (2 ^ w) ^ r.size := by rw [← Nat.pow_mul, Nat.mul_comm]
  have h2 : 2 ≤ (2 ^ w) ^ r.size := by
    rw [← Nat.pow_mul]
    have : 1 ≤ w * r.size := Nat.mul_pos (by omega) (by omega)
    exact Nat.le_trans (by decide : 2 ≤ 2 ^ 1) (Nat.pow_le_pow_right (by decide) this)
  unfold combOf
  rw [e, e2]
  exact ⟨(geo_div h2 _).2, (geo_div h2 _).1⟩
theorem comb_gval {r : Rw} (h : r.Ok) {w : Nat} (hw : 1 ≤ w) : combOf w r * 2 ^ (w * r.off) = gval (2 ^ w) (fun t => if r.hit t then 1 else 0) 24 := by
  have hp := h.pos
  have e : 24 = r.size * (24 / r.size) := (Nat.mul_div_cancel' (Nat.dvd_of_mod_eq_zero hp.2.2.2)).symm
  have hr : r.off < r.size := by unfold Rw.off; omega
  rw [(comb_facts h hw).2, Nat.pow_mul, ← comb_val (2 ^ w) r.size r.off hr, ← e]
  refine gval_congr 24 fun t _ => ?_
  have := hit_off h t
  by_cases hh : r.hit t = true
  · rw [if_pos hh, if_pos (this.mp hh)]
  · rw [if_neg hh, if_neg fun z => hh (this.mpr z)]
def combsF (w : Nat) (R : List Rw) : Nat := R.foldl (fun a r => a + combOf w r * 2 ^ (w * r.off)) 0
def mvs (R : List Rw) : List Nat := (List.range 24).map (cnt R)
theorem combs_gen {w : Nat} (hw : 1 ≤ w) : ∀ {R : List Rw} (_ : ∀ r ∈ R, r.Ok) (a : Nat), R.foldl (fun a r => a + combOf w r * 2 ^ (w * r.off)) a = a + gval (2 ^ w) (cnt R) 24
  | [], _, a => by
    have : gval (2 ^ w) (cnt []) 24 = 0 := gval_zero _ _
    rw [this]; rfl
  | r :: R, h, a => by
    rw [List.foldl_cons, combs_gen hw (fun q hq => h q (List.mem_cons_of_mem _ hq)), comb_gval (h r List.mem_cons_self) hw, Nat.add_assoc, ← gval_add]
    congr 1
    refine gval_congr 24 fun t _ => ?_
    unfold cnt
    rw [List.countP_cons, Nat.add_comm]
theorem combs_val {w : Nat} (hw : 1 ≤ w) {R : List Rw} (h : ∀ r ∈ R, r.Ok) : combsF w R = nval (2 ^ w) (mvs R) := by
  unfold combsF mvs
  rw [combs_gen hw h, Nat.zero_add, nval_range]
theorem mvs_length (R : List Rw) : (mvs R).length = 24 := by simp [mvs]
theorem mvs_le {R : List Rw} : ∀ d ∈ mvs R, d ≤ R.length := by
  intro d hd
  obtain ⟨t, _, rfl⟩ := List.mem_map.mp hd
  exact List.countP_le_length
theorem combs_figs {w : Nat} (hw : 5 ≤ w) {R : List Rw} (h : ∀ r ∈ R, r.Ok) (hl : R.length ≤ 4) : ndig w 24 (combsF w R) = mvs R ∧ combsF w R < 2 ^ (w * 24) := by
  have hB : 32 ≤ 2 ^ w := Nat.le_trans (by decide : 32 ≤ 2 ^ 5) (Nat.pow_le_pow_right (by decide) hw)
  have hd : ∀ d ∈ mvs R, d < 2 ^ w := fun d hd => by have := mvs_le d hd; omega
  rw [combs_val (by omega) h]
  have h1 := ndig_nval (n := w) (mvs R) hd
  rw [mvs_length] at h1
  refine ⟨h1, ?_⟩
  have h2 := nval_lt (B := 2 ^ w) (mvs R) hd
  rw [mvs_length, ← Nat.pow_mul] at h2
  omega

/-- the ways of adding up -/
def turnsF (R : List Rw) : List Nat := R.foldl (fun ts r => ts ++ ts.map fun x => (x + r.step) % 24) [0]
def prodF (w : Nat) (R : List Rw) : Nat := R.foldl (fun p r => p + p * 2 ^ (w * r.step)) 1
def spow (B : Nat) (ts : List Nat) : Nat := (ts.map (B ^ ·)).sum
theorem spow_append (B : Nat) (a b : List Nat) : spow B (a ++ b) = spow B a + spow B b := by simp [spow]
theorem pow_turn {B : Nat} (hB : 2 ≤ B) (n : Nat) : B ^ (n % 24) % (B ^ 24 - 1) = B ^ n % (B ^ 24 - 1) := by
  have h24 : B ^ 24 = (B ^ 24 - 1) + 1 := by have := Nat.pow_le_pow_left hB 24; omega
  have hp : ∀ k, (B ^ 24) ^ k % (B ^ 24 - 1) = 1 % (B ^ 24 - 1) := fun k => by
    rw [Nat.pow_mod]
    have : B ^ 24 % (B ^ 24 - 1) = 1 % (B ^ 24 - 1) := by
      conv => lhs; rw [h24]
      rw [Nat.add_sub_cancel, Nat.add_mod_left]
    rw [this, ← Nat.pow_mod, Nat.one_pow]
  conv => rhs; rw [← Nat.mod_add_div n 24, Nat.pow_add, Nat.pow_mul, Nat.mul_mod, hp, ← Nat.mul_mod, Nat.mul_one]
theorem spow_turn {B : Nat} (hB : 2 ≤ B) (s : Nat) : ∀ ts : List Nat, spow B (ts.map fun x => (x + s) % 24) % (B ^ 24 - 1) = spow B ts * B ^ s % (B ^ 24 - 1)
  | [] => by simp [spow]
  | x :: ts => by
    have ih := spow_turn hB s ts
    have e1 : spow B ((x :: ts).map fun x => (x + s) % 24) = B ^ ((x + s) % 24) + spow B (ts.map fun x => (x + s) % 24) := rfl
    have e2 : spow B (x :: ts) = B ^ x + spow B ts := rfl
    rw [e1, e2, Nat.add_mul, Nat.add_mod, ih, pow_turn hB, ← Nat.add_mod, Nat.pow_add]
theorem prod_gen {w : Nat} (hw : 1 ≤ w) : ∀ (R : List Rw) (p : Nat) (ts : List Nat), p % ((2 ^ w) ^ 24 - 1) = spow (2 ^ w) ts % ((2 ^ w) ^ 24 - 1) →
    R.foldl (fun p r => p + p * 2 ^ (w * r.step)) p % ((2 ^ w) ^ 24 - 1) = spow (2 ^ w) (R.foldl (fun ts r => ts ++ ts.map fun x => (x + r.step) % 24) ts) % ((2 ^ w) ^ 24 - 1)
  | [], _, _, h => h
  | r :: R, p, ts, h => by
    have hB : 2 ≤ 2 ^ w := Nat.le_trans (by decide : 2 ≤ 2 ^ 1) (Nat.pow_le_pow_right (by decide) hw)
    rw [List.foldl_cons, List.foldl_cons]
    refine prod_gen hw R _ _ ?_
    rw [spow_append, Nat.add_mod, Nat.add_mod (spow _ _), spow_turn hB, h, Nat.mul_mod p, h, ← Nat.mul_mod, Nat.pow_mul]
theorem turns_gen : ∀ (R : List Rw) (ts : List Nat), (∀ x ∈ ts, x < 24) → (∀ x ∈ R.foldl (fun ts r => ts ++ ts.map fun x => (x + r.step) % 24) ts, x < 24) ∧ (R.foldl (fun ts r => ts ++ ts.map fun x => (x + r.step) % 24) ts).length = ts.length * 2 ^ R.length
  | [], ts, h => ⟨h, by simp⟩
  | r :: R, ts, h => by
    obtain ⟨h1, h2⟩ := turns_gen R (ts ++ ts.map fun x => (x + r.step) % 24) fun x hx => by
      rcases List.mem_append.mp hx with hx | hx
      · exact h x hx
      · obtain ⟨y, _, rfl⟩ := List.mem_map.mp hx; exact Nat.mod_lt _ (by decide)
    refine ⟨h1, ?_⟩
    rw [List.foldl_cons, h2, List.length_append, List.length_map, List.length_cons, Nat.pow_succ, ← Nat.mul_two, Nat.mul_assoc, Nat.mul_comm 2]
theorem turns_lt (R : List Rw) : ∀ x ∈ turnsF R, x < 24 := (turns_gen R [0] (by simp)).1
theorem turns_length (R : List Rw) : (turnsF R).length = 2 ^ R.length := by
  have := (turns_gen R [0] (by simp)).2
  rw [List.length_singleton, Nat.one_mul] at this
  exact this
def wys (R : List Rw) : List Nat := (List.range 24).map fun x => (turnsF R).count x
theorem spow_count (B n : Nat) : ∀ ts : List Nat, (∀ x ∈ ts, x < n) → spow B ts = gval B (fun x => ts.count x) n
  | [], _ => by
    show 0 = _
    exact (gval_zero B n).symm
  | t :: ts, h => by
    have e : spow B (t :: ts) = B ^ t + spow B ts := rfl
    rw [e, spow_count B n ts fun x hx => h x (List.mem_cons_of_mem _ hx)]
    have h1 := gval_one B t n
    rw [if_pos (h t List.mem_cons_self)] at h1
    rw [← h1, ← gval_add]
    refine gval_congr n fun i _ => ?_
    rw [List.count_cons, Nat.add_comm]
    congr 1
    by_cases hi : t = i
    · subst hi; simp
    · have : ¬ i = t := fun z => hi z.symm
      simp [hi, this]
theorem wys_length (R : List Rw) : (wys R).length = 24 := by simp [wys]
theorem wys_le {R : List Rw} : ∀ d ∈ wys R, d ≤ 2 ^ R.length := by
  intro d hd
  obtain ⟨t, _, rfl⟩ := List.mem_map.mp hd
  rw [← turns_length]; exact List.count_le_length
theorem prod_figs {w : Nat} (hw : 5 ≤ w) {R : List Rw} (hl : R.length ≤ 4) : ndig w 24 (prodF w R % (2 ^ (24 * w) - 1)) = wys R ∧ prodF w R % (2 ^ (24 * w) - 1) < 2 ^ (w * 24) := by
  have hB : 32 ≤ 2 ^ w := Nat.le_trans (by decide : 32 ≤ 2 ^ 5) (Nat.pow_le_pow_right (by decide) hw)
  have hw16 : ∀ d ∈ wys R, d ≤ 16 := fun d hd => Nat.le_trans (wys_le d hd) (Nat.le_trans (Nat.pow_le_pow_right (by decide) hl) (by decide))
  have hd : ∀ d ∈ wys R, d < 2 ^ w := fun d hd => by have := hw16 d hd; omega
  have e24 : 2 ^ (24 * w) = (2 ^ w) ^ 24 := by rw [← Nat.pow_mul, Nat.mul_comm]
  have h1 := prod_gen (w := w) (by omega) R 1 [0] (by simp [spow])
  have h2 : spow (2 ^ w) (turnsF R) = nval (2 ^ w) (wys R) := by
    rw [spow_count (2 ^ w) 24 _ (turns_lt R)]
    unfold wys
    rw [nval_range]
  have h3 : nval (2 ^ w) (wys R) < (2 ^ w) ^ 24 - 1 := by
    cases hc : wys R with
    | nil => have := wys_length R; rw [hc] at this; cases this
    | cons d ds =>
      have hlen := wys_length R
      rw [hc] at hlen
      have := nval_lt2 (B := 2 ^ w) (d := d) (ds := ds) (by have := hw16 d (by rw [hc]; exact List.mem_cons_self); omega) fun x hx => hd x (by rw [hc]; exact List.mem_cons_of_mem _ hx)
      rw [show ds.length + 1 = 24 from hlen] at this
      omega
  have h4 : prodF w R % (2 ^ (24 * w) - 1) = nval (2 ^ w) (wys R) := by
    rw [e24]
    refine h1.trans ?_
    show spow (2 ^ w) (turnsF R) % _ = _
    rw [h2, Nat.mod_eq_of_lt h3]
  rw [h4]
  have h5 := ndig_nval (n := w) (wys R) hd
  rw [wys_length] at h5
  refine ⟨h5, ?_⟩
  rw [Nat.pow_mul]
  omega
end Mine
namespace Mine
abbrev natI (l : List Nat) : List Int := l.map Int.ofNat
theorem turns_terms (R : List Rw) : (terms R.reverse).map (·.2) = turnsF R := by
  unfold turnsF
  rw [List.foldl_eq_foldr_reverse]
  generalize R.reverse = L
  induction L with
  | nil => rfl
  | cons r L ih =>
    rw [List.foldr_cons, ← ih]
    show (terms L ++ _).map _ = _
    rw [List.map_append, List.map_map, List.map_map]
    rfl
theorem cnt_reverse (R : List Rw) (t : Nat) : cnt R.reverse t = cnt R t := by unfold cnt; rw [List.countP_reverse]
def expo (R : List Rw) : List Nat := (List.range 24).filter fun x => (turnsF R).count x != 0
def enough (R : List Rw) : Nat := 24 - (wys R).count 0
theorem expo_length (R : List Rw) : (expo R).length = enough R := by
  unfold expo enough wys
  rw [← List.countP_eq_length_filter, List.count_eq_countP, List.countP_map]
  have h := List.length_eq_countP_add_countP (fun x => (turnsF R).count x != 0) (l := List.range 24)
  rw [List.length_range] at h
  have e : List.countP (fun a => decide ¬(((turnsF R).count a != 0) = true)) (List.range 24) = List.countP ((fun x => x == 0) ∘ fun x => List.count x (turnsF R)) (List.range 24) := by
    refine List.countP_congr fun x _ => ?_
    simp
  rw [← e]
  omega
theorem zero_turn : ∀ (R : List Rw), 0 ∈ turnsF R := by
  intro R
  unfold turnsF
  have : ∀ (R : List Rw) (ts : List Nat), 0 ∈ ts → 0 ∈ R.foldl (fun ts r => ts ++ ts.map fun x => (x + r.step) % 24) ts := by
    intro R
    induction R with
    | nil => exact fun _ h => h
    | cons r R ih => exact fun ts h => ih _ (List.mem_append_left _ h)
  exact this R [0] (by simp)
theorem enough_pos (R : List Rw) : 1 ≤ enough R ∧ enough R ≤ 24 := by
  refine ⟨?_, Nat.sub_le _ _⟩
  rw [← expo_length]
  refine List.length_pos_iff.mpr fun h => ?_
  have : 0 ∈ expo R := List.mem_filter.mpr ⟨by simp, by
    have := List.count_pos_iff.mpr (zero_turn R)
    simp; omega⟩
  rw [h] at this; cases this
theorem expo_all (R : List Rw) : ∀ p ∈ terms R.reverse, p.2 ∈ expo R := by
  intro p hp
  have h1 : p.2 ∈ turnsF R := by rw [← turns_terms]; exact List.mem_map_of_mem hp
  refine List.mem_filter.mpr ⟨List.mem_range.mpr (turns_lt R _ h1), ?_⟩
  have := List.count_pos_iff.mpr h1
  simp; omega
theorem least_at (f : Nat → Nat) : ∀ n, 0 < n → ∃ i, i < n ∧ ∀ j, j < n → f i ≤ f j
  | 1, _ => ⟨0, by decide, fun j hj => by have : j = 0 := by omega
                                          subst this; exact Nat.le_refl _⟩
  | n + 2, _ => by
    obtain ⟨i, h1, h2⟩ := least_at f (n + 1) (by omega)
    by_cases h : f i ≤ f (n + 1)
    · exact ⟨i, by omega, fun j hj => by
        by_cases hn : j = n + 1
        · subst hn; exact h
        · exact h2 j (by omega)⟩
    · exact ⟨n + 1, by omega, fun j hj => by
        by_cases hn : j = n + 1
        · subst hn; exact Nat.le_refl _
        · have := h2 j (by omega); omega⟩
theorem mvs_get {R : List Rw} (h : ∀ r ∈ R, r.Ok) {j : Nat} (hj : j < 48) : (mvs R ++ mvs R)[j]? = some (cnt R j) := by
  by_cases h24 : j < 24
  · rw [List.getElem?_append_left (by simp [mvs, h24])]
    simp [mvs, h24]
  · rw [List.getElem?_append_right (by simp [mvs]; omega), mvs_length]
    obtain ⟨k, rfl⟩ : ∃ k, j = k + 24 := ⟨j - 24, by omega⟩
    have := cnt_period h k 1
    rw [Nat.mul_one] at this
    rw [this, Nat.add_sub_cancel]
    have hk : k < 24 := by omega
    simp [mvs, hk]
theorem window_eq {R : List Rw} (h : ∀ r ∈ R, r.Ok) {start e : Nat} (hs : start + e ≤ 48) : ((mvs R ++ mvs R).drop start).take e = (List.range e).map fun j => cnt R (start + j) := by
  refine List.ext_getElem? fun j => ?_
  by_cases hj : j < e
  · rw [List.getElem?_take_of_lt hj, List.getElem?_drop, mvs_get h (by omega)]
    simp [hj]
  · rw [List.getElem?_eq_none (by simp; omega), List.getElem?_eq_none (by simp; omega)]
/-- the least of all -/
theorem mvs_least {R : List Rw} (h : ∀ r ∈ R, r.Ok) : ∃ t₀, t₀ < 24 ∧ (∀ t, cnt R t₀ ≤ cnt R t) ∧ lmin (natI (mvs R)) = (cnt R t₀ : Int) := by
  obtain ⟨t₀, h1, h2⟩ := least_at (cnt R) 24 (by decide)
  refine ⟨t₀, h1, fun t => ?_, ?_⟩
  · have e := cnt_period h (t % 24) (t / 24)
    rw [Nat.mod_add_div] at e
    rw [e]; exact h2 _ (Nat.mod_lt _ (by decide))
  · refine (lmin_spec ?_ ?_).symm
    · exact List.mem_map.mpr ⟨cnt R t₀, List.mem_map.mpr ⟨t₀, List.mem_range.mpr h1, rfl⟩, rfl⟩
    · intro a ha
      obtain ⟨x, hx, rfl⟩ := List.mem_map.mp ha
      obtain ⟨t, ht, rfl⟩ := List.mem_map.mp hx
      have := h2 t (List.mem_range.mp ht)
      show (cnt R t₀ : Int) ≤ (cnt R t : Int)
      omega
theorem window_least {R : List Rw} (h : ∀ r ∈ R, r.Ok) {start : Nat} (hs : start < 24) : lmin (((natI (mvs R) ++ natI (mvs R)).drop start).take (enough R)) = lmin (natI (mvs R)) := by
  obtain ⟨t₀, h1, h2, h3⟩ := mvs_least h
  have he := enough_pos R
  have e : ((natI (mvs R) ++ natI (mvs R)).drop start).take (enough R) = natI ((List.range (enough R)).map fun j => cnt R (start + j)) := by
    unfold natI
    rw [← window_eq h (by omega), List.map_take, List.map_drop, List.map_append]
  rw [h3, e]
  have hex : ∃ j, j < enough R ∧ cnt R (start + j) ≤ cnt R t₀ := by
    refine Classical.byContradiction fun hn => ?_
    refine sun (R := R.reverse) (fun r hr => h r (List.mem_reverse.mp hr)) (expo_all R) (start := start) (t₀ := t₀) fun j hj => ?_
    rw [cnt_reverse, cnt_reverse]
    rw [expo_length] at hj
    exact Nat.lt_of_not_le fun z => hn ⟨j, hj, z⟩
  obtain ⟨j, hj1, hj2⟩ := hex
  refine (lmin_spec ?_ ?_).symm
  · refine List.mem_map.mpr ⟨cnt R t₀, List.mem_map.mpr ⟨j, List.mem_range.mpr hj1, ?_⟩, rfl⟩
    have := h2 (start + j)
    omega
  · intro a ha
    obtain ⟨x, hx, rfl⟩ := List.mem_map.mp ha
    obtain ⟨t, ht, rfl⟩ := List.mem_map.mp hx
    have := h2 (start + t)
    show (cnt R t₀ : Int) ≤ (cnt R (start + t) : Int)
    omega
theorem no_lone {R : List Rw} (h : ∀ r ∈ R, r.Ok) (hl : lmin (natI (mvs R)) ≠ 0) : (1 : Int) ∉ natI (wys R) := by
  obtain ⟨t₀, h1, h2, h3⟩ := mvs_least h
  rw [h3] at hl
  intro hm
  obtain ⟨x, hx, e⟩ := List.mem_map.mp hm
  obtain ⟨θ, hθ, rfl⟩ := List.mem_map.mp hx
  refine lone (R := R.reverse) (fun r hr => h r (List.mem_reverse.mp hr)) (fun t => ?_) (θ := θ) (List.mem_range.mp hθ) ?_
  · rw [cnt_reverse]
    have := h2 t
    omega
  · rw [turns_terms]
    exact Int.ofNat.inj e
theorem ways_zero (R : List Rw) : ((natI (wys R)).count 0 : Nat) = (wys R).count 0 := by
  generalize wys R = l
  induction l with
  | nil => rfl
  | cons a l ih =>
    unfold natI at ih ⊢
    rw [List.map_cons, List.count_cons, List.count_cons, ih]
    congr 1
    cases a <;> rfl
theorem enough_int (R : List Rw) : (24 : Int) - (((natI (wys R)).count 0 : Nat) : Int) = (enough R : Int) := by
  rw [ways_zero]
  have : (wys R).count 0 ≤ 24 := by rw [← wys_length R]; exact List.count_le_length
  unfold enough
  omega
end Mine
namespace Mine
variable {C : Cx} {ok : Addr → Prop} {k : Nat} {sc scope : Scope} {σ σc : Store}

def compOkB (scope sc : Scope) : Bool :=
  decide (scope.kind = .function) && decide (sc.kind = .function) && decide ((scope.names.map (·.1)).Nodup) && scope.names.all (fun x => if x.2 = .free then decide (sc.names.lookup x.1 = some .cell) || decide (sc.names.lookup x.1 = some .free) else true) &&
    scope.names.all fun x => if x.2 = .local then decide (scope.names.lookup x.1 = some .local) else true
theorem compOk_of (h : compOkB scope sc = true) : CompOk scope sc ∧ ∀ x ∈ scope.names, x.2 = .local → scope.names.lookup x.1 = some .local := by
  unfold compOkB at h
  simp only [Bool.and_eq_true, decide_eq_true_eq] at h
  obtain ⟨⟨⟨⟨h1, h2⟩, h3⟩, h4⟩, h5⟩ := h
  refine ⟨⟨h1, h2, h3, fun x hx hk => ?_⟩, fun x hx hk => ?_⟩
  · have := List.all_eq_true.mp h4 x hx
    rw [if_pos hk] at this
    simpa using this
  · have := List.all_eq_true.mp h5 x hx
    rw [if_pos hk] at this
    simpa using this
def SubS (scope : Scope) (σ σc : Store) : Prop := ∀ x d, σc.lookup x = some d → scope.names.lookup x = some .free ∧ σ.lookup x = some d ∧ d.isMut = false
theorem SubS.nil : SubS scope σ [] := fun _ _ h => by cases h
theorem SubS.cons {x : Str} {d : D} (h1 : scope.names.lookup x = some .free) (h2 : σ.lookup x = some d) (h3 : d.isMut = false) (t : SubS scope σ σc) : SubS scope σ ((x, d) :: σc) := by
  intro y e h
  by_cases hy : y = x
  · subst hy
    rw [lookup_cons_eq] at h; cases h
    exact ⟨h1, h2, h3⟩
  · rw [lookup_cons_ne hy] at h; exact t y e h
/-- a comprehension over what a map gives -/
theorem compT_map {α : Type} {target iter elt : Expr} {ifs : List Expr} (as : List α) (g : α → D) (inv : D → α) (hinv : ∀ a ∈ as, inv (g a) = a) (T : α → Store) (tst : α → Bool) (fe : α → D)
    (hB : compOkB scope sc = true) (hs : ∀ env x, foldedSetIterable iter env x = pure x) (hi : ItT C k sc σ iter (as.map g)) (hσ : SubS scope σ σc)
    (ha : ∀ a ∈ as, AsT C (fun x => scope.names.lookup x ≠ some .free) (relabelS scope sc) σc target (g a) (T a)) (ht : ∀ a ∈ as, TssT C k (relabelS scope sc) (T a) ifs (tst a))
    (he : ∀ a ∈ as, tst a = true → EvT C k (relabelS scope sc) (T a) elt (fe a)) (hl : as.length ≤ 1000) : CompT C k sc σ target iter elt ifs scope ((as.filter tst).map fe) := by
  obtain ⟨h1, h2⟩ := compOk_of hB
  refine ⟨h1, h2, hs, as.map g, σc, fun d => T (inv d), fun d => tst (inv d), fun d => fe (inv d), hi, hσ, ?_, ?_, ?_, by simpa using hl, ?_⟩
  · intro d hd
    obtain ⟨a, hm, rfl⟩ := List.mem_map.mp hd
    dsimp only; rw [hinv a hm]; exact ha a hm
  · intro d hd
    obtain ⟨a, hm, rfl⟩ := List.mem_map.mp hd
    dsimp only; rw [hinv a hm]; exact ht a hm
  · intro d hd htt
    obtain ⟨a, hm, rfl⟩ := List.mem_map.mp hd
    dsimp only at htt ⊢
    rw [hinv a hm] at htt ⊢
    exact he a hm htt
  · rw [List.filter_map, List.map_map]
    have e1 : List.filter ((fun d => tst (inv d)) ∘ g) as = as.filter tst := List.filter_congr fun a hm => by simp [hinv a hm]
    rw [e1]
    refine List.map_congr_left fun a hm => ?_
    have := hinv a (List.mem_filter.mp hm).1
    simp [this]
def invNat : D → Nat
  | .int i => i.toNat
  | _ => 0
/-- a comprehension over a range of numbers -/
theorem compT_nat {target iter elt : Expr} {ifs : List Expr} (as : List Nat) (T : Nat → Store) (tst : Nat → Bool) (fe : Nat → D)
    (hB : compOkB scope sc = true) (hs : ∀ env x, foldedSetIterable iter env x = pure x) (hi : ItT C k sc σ iter (as.map fun (i : Nat) => D.int (i : Int))) (hσ : SubS scope σ σc)
    (ha : ∀ a ∈ as, AsT C (fun x => scope.names.lookup x ≠ some .free) (relabelS scope sc) σc target (.int (a : Int)) (T a)) (ht : ∀ a ∈ as, TssT C k (relabelS scope sc) (T a) ifs (tst a))
    (he : ∀ a ∈ as, tst a = true → EvT C k (relabelS scope sc) (T a) elt (fe a)) (hl : as.length ≤ 1000) : CompT C k sc σ target iter elt ifs scope ((as.filter tst).map fe) :=
  compT_map as (fun (i : Nat) => D.int (i : Int)) invNat (fun a _ => by simp [invNat]) T tst fe hB hs hi hσ ha ht he hl
theorem CompT.is {target iter elt : Expr} {ifs : List Expr} {rs rs' : List D} (X : CompT C k sc σ target iter elt ifs scope rs) (e : rs = rs') : CompT C k sc σ target iter elt ifs scope rs' := e ▸ X
theorem filter_tt {α : Type} (as : List α) : as.filter (fun _ => true) = as := List.filter_eq_self.mpr fun _ _ => rfl

theorem upFrom_zero (n : Nat) : dInts (upFrom 0 n) = (List.range n).map fun (i : Nat) => D.int (i : Int) := by
  unfold upFrom dInts
  rw [List.map_map]
  refine List.map_congr_left fun i _ => ?_
  simp
theorem upFrom_one (n : Nat) : dInts (upFrom 1 n) = ((List.range n).map (· + 1)).map fun (i : Nat) => D.int (i : Int) := by
  unfold upFrom dInts
  rw [List.map_map, List.map_map]
  refine List.map_congr_left fun i _ => ?_
  simp; omega
theorem it_rangeN {x : Str} {p pos : Pos} {e : Expr} {n : Nat} (hxr : x = "range") (hx : sc.names.lookup x = some .globalImplicit)
    (hmg : nsIn C.K mainGlobals x = some none) (hmb : bootBuiltins x = some (.type "range")) (ha : EvT C k sc σ e (.int (n : Int))) (h1 : n < 2 ^ 62)
    (hs : ∀ env : Env, starEach [e] env = [(false, eval e env)]) : ItT C k sc σ (.Call (.Name x p) [e] [] pos) ((List.range n).map fun (i : Nat) => D.int (i : Int)) := by
  have := it_range1 (pos := pos) (p := p) hxr hx hmg hmb ha (by omega) (by omega) hs
  rw [Int.toNat_natCast, upFrom_zero] at this
  exact this

-- slices
theorem fm_range {α : Type} (xs : List α) (a : Nat) : ∀ n : Nat, (((List.range n).map (a + ·)).filterMap (xs[·]?)) = (xs.drop a).take n
  | 0 => by simp
  | n + 1 => by
    rw [List.range_succ, List.map_append, List.filterMap_append, fm_range xs a n, List.take_add_one, List.getElem?_drop]
    simp only [List.map_cons, List.map_nil]
    cases h : xs[a + n]? <;> simp [h]
theorem dpick_range (xs : List D) (a b : Nat) (hab : a ≤ b) (hb : b ≤ xs.length) : dpick xs (some (a : Int)) (some (b : Int)) none = (xs.drop a).take (b - a) := by
  unfold dpick
  rw [sliceBounds_plain]
  have e1 : clipAt xs.length (a : Int) = a := by unfold clipAt; rw [if_neg (by omega)]; omega
  have e2 : clipAt xs.length (b : Int) = b := by unfold clipAt; rw [if_neg (by omega)]; omega
  show (sliceRange ((clipAt xs.length (a : Int) : Nat) : Int) ((clipAt xs.length (b : Int) : Nat) : Int) 1).filterMap (xs[·]?) = _
  rw [e1, e2, sliceRange_one, fm_range]
theorem dpick_take (xs : List D) (b : Nat) (hb : b ≤ xs.length) : dpick xs none (some (b : Int)) none = xs.take b := by
  unfold dpick
  rw [sliceBounds_plain]
  have e2 : clipAt xs.length (b : Int) = b := by unfold clipAt; rw [if_neg (by omega)]; omega
  show (sliceRange ((0 : Nat) : Int) ((clipAt xs.length (b : Int) : Nat) : Int) 1).filterMap (xs[·]?) = _
  rw [e2, sliceRange_one, fm_range]
  simp
def ipick (xs : List Int) (lo hi st : Option Int) : List Int :=
  (sliceRange (sliceBounds lo hi st xs.length).1 (sliceBounds lo hi st xs.length).2.1 (sliceBounds lo hi st xs.length).2.2).filterMap (xs[·]?)
theorem dpick_ints (xs : List Int) (lo hi st : Option Int) : dpick (dInts xs) lo hi st = dInts (ipick xs lo hi st) := by
  unfold dpick ipick dInts
  rw [List.length_map, List.map_filterMap]
  congr 1
  funext j
  simp
end Mine
set_option maxRecDepth 100000
namespace Mine
theorem ndig_zero (n : Nat) : ∀ m, ndig n m 0 = List.replicate m 0
  | 0 => rfl
  | m + 1 => by rw [ndig, Nat.zero_mod, Nat.zero_div, ndig_zero n m, List.replicate_succ]
theorem idigN_le {n x m : Nat} (hn : 1 ≤ n) (hx : x < 2 ^ (n * m)) : idigN n x ≤ m := by
  have h1 : Builtin.Int.intBits (x : Int) ≤ n * m := intBits_le_iff.mpr (by rw [Int.natAbs_natCast]; exact hx)
  unfold idigN
  have h2 : (Builtin.Int.intBits (x : Int) + n - 1) < (m + 1) * n := by
    rw [Nat.add_mul, Nat.one_mul, Nat.mul_comm m n]; omega
  have := (Nat.div_lt_iff_lt_mul (show 0 < n by omega)).mpr h2
  omega
theorem figs_eq {n x m : Nat} (hn : 1 ≤ n) (hx : x < 2 ^ (n * m)) : (idigs n x ++ List.replicate m 0).take m = natI (ndig n m x) := by
  have hN := idigN_le hn hx
  generalize hNN : idigN n x = N at hN
  have hlt : x < 2 ^ (n * N) := by rw [← hNN]; exact lt_idigN hn
  have e : ndig n m x = ndig n N x ++ List.replicate (m - N) 0 := by
    conv => lhs; rw [show m = N + (m - N) by omega]
    rw [ndig_add, Nat.mod_eq_of_lt hlt, Nat.div_eq_of_lt hlt, ndig_zero]
  have hl : (idigs n x).length = N := by unfold idigs; rw [List.length_map, ndig_length, hNN]
  rw [e, List.take_append, hl, List.take_of_length_le (by omega), List.take_replicate, Nat.min_eq_left (by omega)]
  unfold idigs natI
  rw [hNN, List.map_append, List.map_replicate]
  rfl

section
variable {w : World} {mg mb : Str → Option Value}
theorem fig_ct {x n : Nat} (hn : 1 ≤ n) (hn2 : n ≤ 1000) (hx : x < 2 ^ (n * 24)) : CT (C1 w mg mb) 9 (.ref 177) [.int x, .int n] (.list (dInts (natI (ndig n 24 x)))) := by
  have hN := idigN_le hn hx
  refine ct_fun (k := 8) (names := ["number", "width"]) (o := _) rfl rfl ⟨_, _, _, _, rfl, rfl, rfl, rfl⟩ rfl rfl rfl rfl rfl rfl rfl (by decide +kernel) (by decide +kernel) rfl (by decide +kernel) (by rintro (_ | ⟨v, _ | ⟨w, _ | ⟨u, _⟩⟩⟩) h <;> first | rfl | simp at h) ?_
  dsimp only [List.zip, List.zipWith]
  have hl : (idigs n x).length = idigN n x := by unfold idigs; rw [List.length_map, ndig_length]
  have hz : (List.replicate ((24 : Int)).toNat [D.int 0]).flatten = dInts (List.replicate 24 0) := by rw [flat_rep]; rfl
  have hll : (dInts (idigs n x) ++ dInts (List.replicate 24 0)).length = idigN n x + 24 := by rw [List.length_append, List.length_map, hl]; rfl
  refine ex_cons_ret (exs_ret ((ev_slice (ev_binop (ev_call_fun (a := 59) rfl rfl rfl rfl rfl (evs_cons (ev_name rfl rfl rfl) (evs_cons (ev_name rfl rfl rfl) evs_nil (fun _ => rfl)) (fun _ => rfl)) (i2d_ct (j := 5) hn hn2 (by omega) (by decide)) (fun _ => rfl))
    ((ev_binop (ev_list (ds := [.int 0]) (evs_cons ev_int evs_nil (fun _ => rfl)) (by decide)) ev_int (op_mullist (by decide) (by decide) (by decide))).is (d' := .list (dInts (List.replicate 24 0))) (congrArg D.list hz)) (op_addlist (by rw [List.length_map, hl]; simp; omega)))
    .none (.some ev_int) .none (by simp) (by rw [hll]; omega)).is ?_))
  have := dpick_take (dInts (idigs n x) ++ dInts (List.replicate 24 0)) 24 (by rw [hll]; omega)
  rw [show ((24 : Nat) : Int) = 24 from rfl] at this
  rw [this, ← figs_eq hn hx]
  unfold dInts
  rw [List.map_take, List.map_append]

def rowD (r : Rw) : D := .tuple [.int (r.size : Int), .int (r.dots : Int), .int (r.unit : Int), .str ⟨r.en.toArray⟩]
def invRow : D → Rw
  | .tuple [.int s, .int d, .int u, .str e] => ⟨s.toNat, d.toNat, u.toNat, e.cps.toList⟩
  | _ => ⟨0, 0, 0, []⟩
theorem invRow_rowD (r : Rw) : invRow (rowD r) = r := by cases r; simp [invRow, rowD]
def rowOf (drawn : Int) : Rw := ⟨(rowSize drawn).toNat, (rowDots drawn).toNat, (rowUnit drawn).toNat, (rowEnd drawn).cps.toList⟩
theorem rowOf_ok (d : Int) : (rowOf d).Ok := by
  have h5 : rowSize d = 2 ∨ rowSize d = 4 ∨ rowSize d = 3 ∨ rowSize d = 8 ∨ rowSize d = 6 := by
    unfold rowSize
    have h1 := fmod_lo d (b := 5) (by decide)
    have h2 := fmod_hi d (b := 5) (by decide)
    generalize d.fmod 5 = m at *
    have : m = 0 ∨ m = 1 ∨ m = 2 ∨ m = 3 ∨ m = 4 := by omega
    rcases this with rfl | rfl | rfl | rfl | rfl <;> decide
  have hp : 0 < rowSize d := by omega
  have hd1 := fmod_lo (d.fdiv 5) hp
  have hd2 := fmod_hi (d.fdiv 5) hp
  refine ⟨?_, ?_, ?_, ?_⟩
  · show (rowSize d).toNat = 2 ∨ (rowSize d).toNat = 4 ∨ (rowSize d).toNat = 3 ∨ (rowSize d).toNat = 8 ∨ (rowSize d).toNat = 6
    omega
  · show 1 ≤ (rowDots d).toNat ∧ (rowDots d).toNat ≤ (rowSize d).toNat
    unfold rowDots
    omega
  · show (rowUnit d).toNat = 1 ∨ (rowUnit d).toNat = 5 ∨ (rowUnit d).toNat = 7 ∨ (rowUnit d).toNat = 11
    unfold rowUnit
    have h1 := fmod_lo ((d.fdiv 5).fdiv 24) (b := 4) (by decide)
    have h2 := fmod_hi ((d.fdiv 5).fdiv 24) (b := 4) (by decide)
    generalize ((d.fdiv 5).fdiv 24).fmod 4 = m at *
    have : m = 0 ∨ m = 1 ∨ m = 2 ∨ m = 3 := by omega
    rcases this with rfl | rfl | rfl | rfl <;> decide
  · show (rowEnd d).cps.toList = [10] ∨ (rowEnd d).cps.toList = [13] ∨ (rowEnd d).cps.toList = [13, 10]
    unfold rowEnd
    have h1 := fmod_lo ((d.fdiv 5).fdiv 96) (b := 3) (by decide)
    have h2 := fmod_hi ((d.fdiv 5).fdiv 96) (b := 3) (by decide)
    generalize ((d.fdiv 5).fdiv 96).fmod 3 = m at *
    have : m = 0 ∨ m = 1 ∨ m = 2 := by omega
    rcases this with rfl | rfl | rfl
    · left; decide +kernel
    · right; left; decide +kernel
    · right; right; decide +kernel
theorem rowD_of (d : Int) : (D.tuple [.int (rowSize d), .int (rowDots d), .int (rowUnit d), .str (rowEnd d)]) = rowD (rowOf d) := by
  have h := rowOf_ok d
  have h1 : ((rowOf d).size : Int) = rowSize d := by
    have := h.size
    show ((rowSize d).toNat : Int) = rowSize d
    have e : (rowOf d).size = (rowSize d).toNat := rfl
    rw [e] at this; omega
  have h2 : ((rowOf d).dots : Int) = rowDots d := by
    have := h.dots.1
    show ((rowDots d).toNat : Int) = rowDots d
    have e : (rowOf d).dots = (rowDots d).toNat := rfl
    rw [e] at this; omega
  have h3 : ((rowOf d).unit : Int) = rowUnit d := by
    have := h.unit
    show ((rowUnit d).toNat : Int) = rowUnit d
    have e : (rowOf d).unit = (rowUnit d).toNat := rfl
    rw [e] at this; omega
  unfold rowD
  rw [h1, h2, h3]
  rfl
theorem row_ct' {drawn : Int} : CT (C1 w mg mb) 1 (.ref 170) [.int drawn] (rowD (rowOf drawn)) := by
  rw [← rowD_of]; exact row_ct
end
end Mine
set_option maxRecDepth 100000
namespace Mine
abbrev txt (l : List Nat) : Str := ⟨l.toArray⟩
theorem foldl_cat (items : Array Nat) : ∀ (n : Nat) (acc : Array Nat), (List.foldl (fun x1 x2 => x1 ++ x2) acc (List.replicate n items)).toList = acc.toList ++ (List.replicate n items.toList).flatten
  | 0, acc => by simp
  | n + 1, acc => by
    rw [List.replicate_succ, List.foldl_cons, foldl_cat items n, List.replicate_succ, List.flatten_cons, Array.toList_append, List.append_assoc]
theorem mul_sign (c n : Nat) : Txt.mul (txt [c]) (n : Int) = txt (List.replicate n c) := by
  refine str_ext ?_
  unfold Txt.mul
  by_cases h0 : (n : Int) < 1
  · have : n = 0 := by omega
    subst this; rw [if_pos h0]; rfl
  · rw [if_neg h0]
    by_cases h1 : n = 1
    · subst h1
      rw [if_pos (by simp)]; rfl
    · have : ((n : Int) == 1 || (txt [c]).length == 0) = false := by
        have : ((n : Int) == 1) = false := by simp; omega
        rw [this]; rfl
      rw [this, if_neg (by simp)]
      show (List.foldl (fun x1 x2 => x1 ++ x2) #[] (List.replicate (n : Int).toNat #[c])).toList = _
      rw [foldl_cat, Int.toNat_natCast]
      simp
theorem mulOk_sign {c n : Nat} (h : n ≤ 100000) : MulOk (txt [c]) (n : Int) := by
  have e : (txt [c]).length = 1 := rfl
  refine ⟨by simp; omega, fun h1 _ => ?_, fun _ _ => ?_⟩
  · rw [e]
    have h2 : 0 < (n : Int) := by omega
    rw [Int.not_lt, Int.le_ediv_iff_mul_le h2]
    omega
  · rw [e, Int.toNat_natCast]
    simp [Builtin.Str.tooLong, sizeLine]; omega
theorem txt_add (a b : List Nat) : txt a ++ txt b = txt (a ++ b) := by
  refine str_ext ?_
  show ((txt a).cps ++ (txt b).cps).toList = _
  rw [Array.toList_append]
theorem txt_len (a : List Nat) : (txt a).length = a.length := by simp [Str.length]
theorem txt_list (a : List Nat) : (txt a).cps.toList = a := rfl
theorem blanks (d : Nat) : Txt.mul (txt [32]) (d : Int) ++ txt [9, 120, 32] = txt (List.replicate d 32 ++ [9, 120, 32]) := by rw [mul_sign, txt_add]
theorem join_txt (xs : List (List Nat)) : Txt.join (txt []) (xs.map txt) = txt xs.flatten := by
  refine str_ext ?_
  have := join_flat (xs.map txt)
  rw [show (txt [] : Str) = ⟨#[]⟩ from rfl, this, List.map_map]
  congr 1
  have : ((fun (x : Str) => x.cps.toList) ∘ txt) = id := by funext l; rfl
  rw [this, List.map_id]
theorem joinOk_txt {xs : List (List Nat)} (h : (xs.map List.length).sum ≤ 1000000) : JoinOk (txt []) (xs.map txt) = true := by
  refine joinOk_empty ?_
  rw [List.map_map]
  have : ((fun (x : Str) => x.cps.size) ∘ txt) = List.length := by funext l; simp
  rw [this]; omega
theorem sum_le_mul {xs : List Nat} {b : Nat} (h : ∀ x ∈ xs, x ≤ b) : xs.sum ≤ xs.length * b := by
  induction xs with
  | nil => simp
  | cons x xs ih =>
    have h1 := h x List.mem_cons_self
    have h2 := ih fun y hy => h y (List.mem_cons_of_mem _ hy)
    rw [List.sum_cons, List.length_cons, Nat.add_mul, Nat.one_mul]; omega
section
variable {C : Cx} {k : Nat} {sc : Scope} {σ : Store}
/-- ''.join(a list of texts) -/
theorem ev_join {e : Expr} {apos pos p : Pos} {kk : Nat} {xs : List (List Nat)} (he : EvT C k sc σ e (.list (dStrs (xs.map txt)))) (h : (xs.map List.length).sum ≤ 1000000)
    (hfew : ∀ env : Env, ((backTo pos (starEach [e] env)).all (fun x => !x.1) && (backToKw pos (keywordEach [] env)).all (fun x => x.1.isSome)
      && decide (([e] : List Expr).length + ([] : List Keyword).length + (if ([] : List Keyword).isEmpty then 0 else 1) < 30)) = true)
    (hline : (apos.endLine == pos.line) = true) (hs : ∀ env : Env, starEach [e] env = [(false, eval e env)]) :
    EvT C k sc σ (.Call (.Attribute (.Constant (.str (Str.ofString "")) kk p) (Str.ofString "join") apos) [e] [] pos) (.str (txt xs.flatten)) := by
  have := ev_meth (C := C) (k := k) (sc := sc) (σ := σ) (o := .Constant (.str (Str.ofString "")) kk p) (name := Str.ofString "join") (apos := apos) (pos := pos) (e := e) (es := []) (od := .str (Str.ofString "")) (ds := [.list (dStrs (xs.map txt))]) (id := "str.join")
    ev_str (evs_cons he evs_nil hs) F.plainAttrs_str F.slot_str_join F.type_str_join (ct_join (joinOk_txt h)) (fun _ => rfl) hfew hline hs (fun env => by rw [hs]; rfl) rfl
  rw [show Str.ofString "" = txt [] from rfl, join_txt] at this
  exact this
end
end Mine
set_option maxRecDepth 100000
namespace Mine
theorem bits_lt {x n : Nat} (h : x < 2 ^ n) : Builtin.Int.intBits (x : Int) ≤ n := intBits_le_iff.mpr (by rw [Int.natAbs_natCast]; exact h)
theorem bits_ones {n : Nat} (h : 1 ≤ n) : Builtin.Int.intBits ((2 ^ n - 1 : Nat) : Int) = n := by
  have h0 := Nat.two_pow_pos n
  refine Nat.le_antisymm (bits_lt (by omega)) ?_
  refine Classical.byContradiction fun hn => ?_
  have h1 : Builtin.Int.intBits ((2 ^ n - 1 : Nat) : Int) ≤ n - 1 := by omega
  have h2 := intBits_le_iff.mp h1
  rw [Int.natAbs_natCast] at h2
  have h3 : 2 ^ n = 2 ^ (n - 1) * 2 := by rw [← Nat.pow_succ]; congr 1; omega
  have h4 := Nat.two_pow_pos (n - 1)
  omega
theorem ones_int (n : Nat) : (2 : Int) ^ n - 1 = ((2 ^ n - 1 : Nat) : Int) := by
  have h1 := Nat.one_le_two_pow (n := n)
  rw [Int.natCast_sub h1, Int.natCast_pow]; rfl
theorem step_lt (r : Rw) : r.step < 24 := Nat.mod_lt _ (by decide)
theorem prodF_lt {w : Nat} (hw : w ≤ 12) : ∀ (R : List Rw) (p : Nat), R.foldl (fun p r => p + p * 2 ^ (w * r.step)) p ≤ p * 2 ^ (277 * R.length)
  | [], p => by simp
  | r :: R, p => by
    rw [List.foldl_cons]
    refine Nat.le_trans (prodF_lt hw R _) ?_
    rw [List.length_cons, Nat.mul_succ, Nat.pow_add, Nat.mul_comm (2 ^ (277 * R.length)), ← Nat.mul_assoc]
    refine Nat.mul_le_mul_right _ ?_
    have h1 : 2 ^ (w * r.step) ≤ 2 ^ 276 := Nat.pow_le_pow_right (by decide) (by
      have := step_lt r
      have h2 : w * r.step ≤ 12 * 23 := Nat.mul_le_mul hw (by omega)
      omega)
    have h2 : p + p * 2 ^ (w * r.step) ≤ p * (2 ^ 276 + 1) := by
      rw [Nat.mul_add, Nat.mul_one]
      have := Nat.mul_le_mul_left p h1
      omega
    refine Nat.le_trans h2 (Nat.mul_le_mul_left _ ?_)
    have : (2 : Nat) ^ 277 = 2 ^ 276 + 2 ^ 276 := by rw [Nat.pow_succ]; omega
    have := Nat.two_pow_pos 276
    omega
theorem prodF_bits {w : Nat} (hw : w ≤ 12) {R : List Rw} (hR : R.length ≤ 4) : Builtin.Int.intBits ((prodF w R : Nat) : Int) ≤ 1109 := by
  refine bits_lt ?_
  have h1 := prodF_lt hw R 1
  rw [Nat.one_mul] at h1
  refine Nat.lt_of_le_of_lt h1 ?_
  exact Nat.pow_lt_pow_right (by decide) (by omega)
theorem prodF_snoc (w : Nat) (R : List Rw) (r : Rw) : prodF w (R ++ [r]) = prodF w R + prodF w R * 2 ^ (w * r.step) := by simp [prodF]
theorem combsF_snoc (w : Nat) (R : List Rw) (r : Rw) : combsF w (R ++ [r]) = combsF w R + combOf w r * 2 ^ (w * r.off) := by simp [combsF]
theorem turnsF_snoc (R : List Rw) (r : Rw) : turnsF (R ++ [r]) = turnsF R ++ (turnsF R).map fun x => (x + r.step) % 24 := by simp [turnsF]
def rowAt (R : List Rw) (i : Nat) : Rw := R.getD i ⟨0, 0, 0, []⟩
theorem rowAt_get {R : List Rw} {i : Nat} (h : i < R.length) : R[i]? = some (rowAt R i) := by simp [rowAt, h]
theorem rowAt_mem {R : List Rw} {i : Nat} (h : i < R.length) : rowAt R i ∈ R := List.mem_of_getElem? (rowAt_get h)
theorem rowAt_take {R : List Rw} {i : Nat} (h : i < R.length) : R.take (i + 1) = R.take i ++ [rowAt R i] := by
  rw [List.take_add_one, rowAt_get h]; rfl
theorem rows_get {R : List Rw} {i : Nat} (h : i < R.length) : (R.map rowD)[i]? = some (rowD (rowAt R i)) := by
  rw [List.getElem?_map, rowAt_get h]; rfl
end Mine
set_option maxRecDepth 100000
namespace Mine
def mailAt (R : List Rw) : Nat → List Nat
  | 0 => (R.map fun r => rowText r.dots r.en).flatten
  | i + 1 => (R.map fun r => rowText (r.dots + i + 1) [13, 10]).flatten
theorem mail_next {R : List Rw} (h : ∀ r ∈ R, r.Ok) (i : Nat) : quoted (txt (mailAt R i)) = txt (mailAt R (i + 1)) := by
  have key : ∀ f : Rw → Nat × List Nat, (∀ r ∈ R, 1 ≤ (f r).1 ∧ ((f r).2 = [10] ∨ (f r).2 = [13] ∨ (f r).2 = [13, 10])) → (∀ r, (f r).1 = r.dots + i) → mailAt R i = ((R.map f).map fun x => rowText x.1 x.2).flatten → quoted (txt (mailAt R i)) = txt (mailAt R (i + 1)) := by
    intro f h1 h2 h3
    unfold quoted
    have := rows_quoted (R.map f) (by intro x hx; obtain ⟨r, hr, rfl⟩ := List.mem_map.mp hx; exact h1 r hr)
    rw [← h3] at this
    show txt (stuff true (norm (mailAt R i))) = _
    rw [this, List.map_map]
    congr 3
    funext r
    simp [h2]
  cases i with
  | zero => exact key (fun r => (r.dots, r.en)) (fun r hr => ⟨(h r hr).dots.1, (h r hr).en⟩) (fun _ => rfl) (by rw [List.map_map]; rfl)
  | succ i => exact key (fun r => (r.dots + (i + 1), [13, 10])) (fun r hr => ⟨by show 1 ≤ r.dots + (i + 1); omega, .inr (.inr rfl)⟩) (fun _ => rfl) (by rw [List.map_map]; rfl)
theorem rowText_len (d : Nat) (e : List Nat) : (rowText d e).length = d + e.length := by simp [rowText]
theorem mail_sum {R : List Rw} {f : Rw → List Nat} {b : Nat} (h : ∀ r ∈ R, (f r).length ≤ b) : ((R.map f).map List.length).sum ≤ R.length * b := by
  have := sum_le_mul (xs := (R.map f).map List.length) (b := b) (by
    intro x hx
    rw [List.map_map] at hx
    obtain ⟨r, hr, rfl⟩ := List.mem_map.mp hx
    exact h r hr)
  simpa using this
theorem mail_len {R : List Rw} (h : ∀ r ∈ R, r.Ok) (i : Nat) : (mailAt R i).length ≤ R.length * (i + 12) := by
  cases i with
  | zero =>
    show ((R.map fun r => rowText r.dots r.en).flatten).length ≤ _
    rw [List.length_flatten]
    refine Nat.le_trans (mail_sum (b := 10) fun r hr => ?_) (Nat.mul_le_mul_left _ (by omega))
    rw [rowText_len]
    have := (h r hr).pos
    rcases (h r hr).en with e | e | e <;> rw [e] <;> simp <;> omega
  | succ i =>
    show ((R.map fun r => rowText (r.dots + i + 1) [13, 10]).flatten).length ≤ _
    rw [List.length_flatten]
    refine mail_sum fun r hr => ?_
    rw [rowText_len]
    have := (h r hr).pos
    simp; omega
theorem rows_eq (R : List Rw) : R = (List.range R.length).map (rowAt R) := by
  refine List.ext_getElem? fun i => ?_
  by_cases h : i < R.length
  · rw [rowAt_get h]; simp [h]
  · rw [List.getElem?_eq_none (by omega), List.getElem?_eq_none (by simp; omega)]
theorem filter_rows (R : List Rw) (p : Rw → Bool) : ((List.range R.length).filter fun k => p (rowAt R k)).length = R.countP p := by
  conv => rhs; rw [rows_eq R]
  rw [List.countP_map, List.countP_eq_length_filter]; rfl
theorem gone_len {R : List Rw} (h : ∀ r ∈ R, r.Ok) (i : Nat) : ((List.range R.length).filter fun k => decide ((rowAt R k).col (i + 1) = (rowAt R k).col i + (rowAt R k).size)).length = cnt R i := by
  rw [filter_rows R fun r => decide (r.col (i + 1) = r.col i + r.size)]
  unfold cnt
  refine List.countP_congr fun r hr => ?_
  have hp := (h r hr).pos
  have hc := col_move (h r hr) i
  by_cases hh : r.hit i = true
  · rw [if_pos hh] at hc; simp [hc, hh]
  · rw [if_neg hh] at hc
    simp [hc, hh]; omega
theorem stay_len {R : List Rw} (h : ∀ r ∈ R, r.Ok) (i : Nat) : (((List.range R.length).filter fun k => decide ((rowAt R k).col (i + 1) = (rowAt R k).col i)).length : Int) = (R.length : Int) - (cnt R i : Int) := by
  rw [filter_rows R fun r => decide (r.col (i + 1) = r.col i)]
  have h1 := List.length_eq_countP_add_countP (fun r : Rw => r.hit i) (l := R)
  have h2 : R.countP (fun r => decide (r.col (i + 1) = r.col i)) = R.countP (fun r => decide ¬(r.hit i = true)) := by
    refine List.countP_congr fun r hr => ?_
    have hp := (h r hr).pos
    have hc := col_move (h r hr) i
    by_cases hh : r.hit i = true
    · rw [if_pos hh] at hc; simp [hc, hh]; omega
    · rw [if_neg hh] at hc
      simp [hc, hh]
  rw [h2]
  unfold cnt
  omega
theorem due_len (R : List Rw) (t : Nat) : ((List.range R.length).filter fun k => decide (((rowAt R k).dots + (t + 1)) % (rowAt R k).size = 0)).length = cnt R t := by
  rw [filter_rows R fun r => decide ((r.dots + (t + 1)) % r.size = 0)]
  unfold cnt
  refine List.countP_congr fun r _ => ?_
  unfold Rw.hit
  rw [Nat.add_assoc]
  simp
end Mine
namespace Mine
variable {C : Cx} {ok : Addr → Prop}

/-- statements in one environment, nothing known of the tokens -/
def ExE0 (C : Cx) (k : Nat) (P : Env → Prop) (σ : Store) (st : List Stmt) (o : Out) : Prop :=
  ∀ (ok : Addr → Prop) (env : Env) (A : Around) (s : Shared) (Q : Flow → Shared → Prop) (E : Value → Shared → Prop) (h₀ : Heap), AlH ok s.heap → P env → Room A k → Fresh (fun _ => True) env h₀ → G C h₀ → Ext C h₀ s.heap → FS C ok env σ s.heap →
    Post C ok h₀ env o Q s → wpAny C.M A (execs st env) Q E s
theorem call_low {k : Nat} {a : Addr} {o : Obj} {fd : FuncData} {body : List Stmt} {names : List Str} {ds : List D} {d : D}
    (ho : C.K.lookup a = some o) (hd : o.data = .func fd) (hcode : ∃ c oc vs t, fd.code = .ref c ∧ C.K.lookup c = some oc ∧ oc.data = .fields vs ∧ vs[1]? = some (.str fd.qualname t))
    (hbody : fd.body = .stmts body) (hclo : fd.closure = []) (hgl : fd.globals = mainGlobals) (hbl : fd.builtins = builtinsNs) (hco : fd.scope.isCoroutine = false) (hgen : fd.scope.isGenerator = false) (hk : fd.scope.kind = .function)
    (hfree : ∀ x ∈ fd.scope.names, x.2 ≠ .free) (hnd : names.Nodup) (hlen : names.length = ds.length)
    (hkind : ∀ x ∈ names, fd.scope.names.lookup x = some .local ∨ fd.scope.names.lookup x = some .cell)
    (hbind : ∀ vs : List Value, vs.length = names.length → bindArgs fd ⟨vs, []⟩ = pure (names.zip vs))
    (h : ExE0 C k (fun env => env.scope = fd.scope) (names.zip ds) body (.ret d)) (A : Around) (s : Shared) (Q E : Value → Shared → Prop) (vs : List Value) (hal : AlH ok s.heap) (hA : Room A (k + 1)) (g : G C s.heap) (r : RepL C ok s.heap ds vs) (q : Ret C ok d Q s) :
    wpAny C.M A (call (.ref a) vs) Q E s := by
  have hl := r.length
  refine wpAny_call ?_
  have hnv : names.length = vs.length := by omega
  refine codeAny_call_function (by have := hA.d; omega) (g.frag _ _ ho) hd hco hgen hbody (coderec_of g hcode) ?_
  rw [hbind vs (by omega), hclo]
  refine wpAny_pure (wpAny_newFunctionEnv_cells hk ?_ fun env he s₁ x => ?_)
  · intro x hx
    have hxn : x.1 ∈ names := by
      have := List.mem_map_of_mem (f := (·.1)) hx
      rwa [zip_names hnv] at this
    rcases hkind _ hxn with h1 | h1
    · exact .inl h1
    · exact .inr ⟨h1, cellsFrom_some (.inr h1)⟩
  subst he
  refine ⟨g.nolimit.keeps x.toInCall.keep, codeAny_func ?_⟩
  obtain ⟨h₁, t₁, rfl⟩ := x.toInCall.same
  have e₁ : Ext C s.heap h₁ := .of_keeps x.toInCall.keep
  have hsz : s.heap.get? s.heap.objs.size = none := fresh_push _
  refine h ok (callEnvC fd s.heap.objs.size a) _ _ _ _ s.heap (hal.ext e₁) rfl (hA.deeper _) ⟨hsz, fun b hb => fresh_above _ (Nat.le_of_lt hb), ?_⟩ g e₁ ⟨hk, hgl, hbl, ⟨_, x.toInCall.ns, fun n dn en kn => ?_⟩, fun n dn en kn => ?_, fun n kn => ?_, x.apart⟩ ?_
  · intro n c _ _ hc
    cases q : s.heap.get? c with
    | none => rfl
    | some o' =>
      have h1 := x.above n c (mem_of_lookup hc)
      have h2 := Heap.lt_size q
      have h3 : s.heap.objs.size < c := h1
      exact absurd h2 (Nat.not_lt.mpr (Nat.le_of_lt h3))
  · obtain ⟨v, hv, hr⟩ := zip_rep r en
    exact ⟨v, bindL_get (by rw [zip_names hnv]; exact hnd) hv kn, .inl (hr.ext e₁)⟩
  · obtain ⟨v, hv, hr⟩ := zip_rep r en
    have hxn : n ∈ names := by
      have := List.mem_map_of_mem (f := (·.1)) hv
      rwa [zip_names hnv] at this
    have hcell : fd.scope.names.lookup n = some .cell := (hkind n hxn).resolve_left kn
    obtain ⟨c, hc⟩ := Option.isSome_iff_exists.mp (cellsFrom_some (n := s.heap.objs.size + 1) (acc := []) (.inr hcell))
    have : h₁.IsCell c (bindC (callEnvC fd s.heap.objs.size a).kindOf (names.zip vs) (fun _ => none) n) := x.cell n c hc
    rw [bindC_get (by rw [zip_names hnv]; exact hnd) hv kn] at this
    exact ⟨.inl hcell, c, v, hc, this, .inl (hr.ext e₁)⟩
  · rcases kn with kn | kn
    · obtain ⟨c, hc⟩ := Option.isSome_iff_exists.mp (cellsFrom_some (n := s.heap.objs.size + 1) (acc := []) (.inr kn))
      exact ⟨c, _, hc, x.cell n c hc⟩
    · exact absurd rfl (hfree (n, .free) (mem_of_lookup kn))
  · intro f h₂ t₂ e₂ k₂ o₂
    obtain ⟨v, rfl, hr⟩ := o₂
    exact q v h₂ t₂ e₂ hr

section
variable {k : Nat} {sc : Scope} {σ : Store}
/-- the first statement: a name gets a written number and something more -/
theorem ex0_const {x : Str} {p p2 p3 pos : Pos} {kk : Nat} {op : Operator} {r : Expr} {i : Int} {b d1 : D} {rest : List Stmt} {o : Out} (hr : EvT C k sc σ r b) (ho : Op2 C (binaryOp op) (.int i) b d1) (hx : sc.names.lookup x = some .local ∨ sc.names.lookup x = some .cell)
    (hs : ∀ env : Env, env.scope = sc → swapsWith (.BinOp (.Constant (.int i) kk p2) op r p3) (some (.Name x p)) pos.line env = pure false) (h : ExT C k sc ((x, d1) :: σ) rest o) :
    ExE0 C k (fun env => env.scope = sc) σ (.Assign [.Name x p] (.BinOp (.Constant (.int i) kk p2) op r p3) pos :: rest) o := by
  intro ok env A s Q E h₀ hal hsc hA hf g e f q
  refine wpAny_execs_cons (wpAny_Assign_Name ?_ (hs env hsc))
  refine wpAny_BinOp (wpAny_Constant_int ?_)
  have hn : 1 ≤ s.toks + 1 := Nat.le_add_left _ _
  refine hr.use ok env A { s with toks := s.toks + 1 } _ E ⟨hal, hn⟩ hsc hA f (g.ext e) fun vb h₁ t₁ n₁ x₁ r₁ => ?_
  refine ho.use ok A _ _ E (.int i s.toks) vb ⟨hal.ext x₁, n₁⟩ hA.hd hA.cl (g.ext (e.trans x₁)) (.int _ _) r₁ fun v h₂ t₂ n₂ x₂ r₂ => ?_
  have x12 := x₁.trans x₂
  refine wpAny_with_toks (s := { s with heap := h₂, toks := t₂ }) n₂ (store_name (C := C) (ok := ok) (σ := σ) (d := d1) (N := fun _ => True) (h₀ := h₀) (by unfold Env.kindOf; rw [hsc]; exact hx) trivial hf (e.trans x12) (f.ext x12) r₂ fun h₃ t₃ e₃ k₃ f₃ _ _ n₃ => ?_)
  exact h ok env A _ Q E h₀ ((hal.ext x12).dom k₃.dom) n₃ hsc hA hf g e₃ f₃ fun fl h₄ t₄ e₄ k₄ o₄ => q fl h₄ t₄ e₄ ((x12.kd.trans k₃.some).trans k₄) o₄
end

theorem oldK_ext {h h' : Heap} (g : G C h) (e : Ext C h h') : OldK h h' := by
  have key : ∀ b o, h.get? b = some o → h'.get? b = some o ∨ ∃ q ∈ C.tabs, b = q.2.1 := fun b o eb => by
    by_cases hm : b ∈ C.tabP
    · obtain ⟨q, hq, rfl⟩ := List.mem_map.mp hm
      exact .inr ⟨q, hq, rfl⟩
    · exact .inl (e.keep b o eb fun z => absurd z hm)
  refine ⟨fun b o eb => ?_, fun b o eb => ?_⟩
  · rcases key b o eb with h1 | ⟨q, hq, rfl⟩
    · exact .inl h1
    · obtain ⟨ps, hc, ht, _⟩ := g.tabs q hq
      have eo : o = tabObj ps := Option.some.inj (eb.symm.trans ht.2)
      subst eo
      obtain ⟨more, hm⟩ := e.tab _ ps ht.2
      exact .inr (.inl ⟨ht.isCodeTable, rfl, ps, more, rfl, hm⟩)
  · rcases key b o eb with h1 | ⟨q, hq, rfl⟩
    · exact ⟨o, h1⟩
    · obtain ⟨ps, hc, ht, _⟩ := g.tabs q hq
      obtain ⟨more, hm⟩ := e.tab _ ps ht.2
      exact ⟨_, hm⟩
end Mine
set_option maxRecDepth 100000
namespace Mine
section
variable {C : Cx} {k : Nat} {sc : Scope} {σ : Store}
def SubL (σ' σ : Store) : Prop := ∀ n d, σ'.lookup n = some d → σ.lookup n = some d
theorem SubL.nil : SubL [] σ := fun _ _ h => by cases h
theorem SubL.cons {σ' : Store} {x : Str} {d d' : D} (h : σ.lookup x = some d') (t : SubL σ' σ) (e : d' = d := by rfl) : SubL ((x, d) :: σ') σ := by
  subst e
  intro y f hf
  by_cases hy : y = x
  · subst hy
    rw [lookup_cons_eq] at hf; cases hf; exact h
  · rw [lookup_cons_ne hy] at hf; exact t y f hf
theorem ex_done {σ' : Store} (h : SubL σ' σ) : ExT C k sc σ [] (.next σ') := ex_weaken ex_nil h
theorem set_ok {e : Expr} {a b c : D} {f : Value → Value → Sem Value} (h : Op2 C f a b c) : Op2 C f a b c := h
end
section
variable {w : World} {mg mb : Str → Option Value}
def menu4 (k : Nat) : Int := [0, 486, 1216, 7].getD k 0
def rowsOf (ns : List Int) (m : Nat) : List Rw := (List.range m).map fun (k : Nat) => rowOf (menu4 k + (ipick ns (some (k : Int)) none (some 4)).sum)

set_option maxHeartbeats 4000000 in
theorem law_run {ns : List Int} (hn : ns.length ≤ 63) {ok : Addr → Prop} (A : Around) (s : Shared) (Q E : Value → Shared → Prop) (vs : List Value) (hal : AlH ok s.heap) (hA : Room A 21) (g : G (C1 w mg mb) s.heap) (r : RepL (C1 w mg mb) ok s.heap [.list (dInts ns)] vs) (q : Ret (C1 w mg mb) ok (.bool true) Q s) :
    wpAny (C1 w mg mb).M A (call (.ref 182) vs) Q E s := by
  refine call_low (k := 20) (names := ["script"]) (o := _) rfl rfl ⟨_, _, _, _, rfl, rfl, rfl, rfl⟩ rfl rfl rfl rfl rfl rfl rfl (by decide +kernel) (by decide +kernel) rfl (by decide +kernel) (by rintro (_ | ⟨v, _ | ⟨w, _⟩⟩) h <;> first | rfl | simp at h) ?_ A s Q E vs hal hA g r q
  dsimp only [List.zip, List.zipWith]
  have hll : (dInts ns).length = ns.length := List.length_map ..
  have hw : (5 : Int) + (((dInts ns).length : Nat) : Int).fmod 8 = ((5 + ns.length % 8 : Nat) : Int) := by
    rw [hll, Int.fmod_eq_emod_of_nonneg _ (by decide)]; omega
  have hm : (3 : Int) + (((dInts ns).length : Nat) : Int).fmod 2 = ((3 + ns.length % 2 : Nat) : Int) := by
    rw [hll, Int.fmod_eq_emod_of_nonneg _ (by decide)]; omega
  refine ex0_const (ev_binop (ev_call_builtin (id := "len") rfl rfl (by kernel_rfl) (by decide) rfl (evs_cons (ev_name rfl rfl rfl) evs_nil (fun _ => rfl)) (ct_len (by omega)) (fun _ => rfl) (fun _ => rfl)) ev_int (op_mod_int (by decide))) (op_add_int.is (congrArg D.int hw)) (.inl rfl) (fun _ _ => rfl) ?_
  refine ex_cons (exs_assign ((ev_binop ev_int (ev_binop (ev_call_builtin (id := "len") rfl rfl (by kernel_rfl) (by decide) rfl (evs_cons (ev_name rfl rfl rfl) evs_nil (fun _ => rfl)) (ct_len (by omega)) (fun _ => rfl) (fun _ => rfl)) ev_int (op_mod_int (by decide))) op_add_int).is (congrArg D.int hm)) (.inr rfl) (fun _ _ => rfl)) ?_
  generalize hW : 5 + ns.length % 8 = W
  generalize hM : 3 + ns.length % 2 = m
  have hW1 : 5 ≤ W ∧ W ≤ 12 := by omega
  have hM1 : 3 ≤ m ∧ m ≤ 4 := by omega
  refine ex_cons (exs_assign (d := .list ((rowsOf ns m).map rowD)) (ev_listcomp ((compT_nat (List.range m) (fun k => (Str.ofString "k", .int (k : Int)) :: [(Str.ofString "script", .list (dInts ns))]) (fun _ => true) (fun k => rowD (rowOf (menu4 k + (ipick ns (some (k : Int)) none (some 4)).sum)))
    (by decide +kernel) (fun _ _ => rfl) (it_rangeN rfl rfl (by kernel_rfl) rfl (ev_name rfl rfl rfl) (by omega) (fun _ => rfl)) (SubS.cons (d := .list (dInts ns)) rfl rfl rfl .nil) (fun a ha => as_name (by decide) (.inl rfl)) (fun a ha => tss_nil) (fun a ha _ => ?_) (by simp; omega)).is ?_)) (.inr rfl) (fun env he => ?_)) ?_
  · have ha' : a < 4 := by have := List.mem_range.mp ha; omega
    refine ev_call_fun (a := 170) rfl rfl rfl rfl rfl (evs_cons (ev_binop (ev_sub (a := .list (dInts [0, 486, 1216, 7])) (ev_list (evs_cons ev_int (evs_cons ev_int (evs_cons ev_int (evs_cons ev_int evs_nil (fun _ => rfl)) (fun _ => rfl)) (fun _ => rfl)) (fun _ => rfl)) (by decide)) (ev_name rfl rfl rfl) list_getitem_lookup (op_getlist (d := .int (menu4 a)) (by omega) ?_ (by omega)) (fun _ _ => rfl))
      (ev_call_builtin (id := "sum") rfl rfl (by kernel_rfl) (by decide) rfl (evs_cons ((ev_slice (ev_name rfl rfl rfl) (.some (ev_name rfl rfl rfl)) .none (.some ev_int) (by simp) (by omega)).is (congrArg D.list (dpick_ints ..))) evs_nil (fun _ => rfl)) ct_sum (fun _ => rfl) (fun _ => rfl)) op_add_int) evs_nil (fun _ => rfl)) (row_ct'.le (by omega)) (fun _ => rfl)
    rw [Int.toNat_natCast]
    unfold menu4
    have : a = 0 ∨ a = 1 ∨ a = 2 ∨ a = 3 := by omega
    rcases this with rfl | rfl | rfl | rfl <;> rfl
  · rw [filter_tt]; unfold rowsOf; rw [List.map_map]; rfl
  · unfold swapsWith Env.blockKind Env.kindOf; rw [he]; rfl
  have hR : ∀ r ∈ rowsOf ns m, r.Ok := fun r hr => by
    obtain ⟨k, _, rfl⟩ := List.mem_map.mp hr; exact rowOf_ok _
  have hRl : (rowsOf ns m).length = m := by simp [rowsOf]
  generalize rowsOf ns m = R at hR hRl
  have hnk : ∀ (x : Str) (v : Int), True := fun _ _ => trivial
  -- full, combs, product, turns, columns
  have hfull : (2 : Int) ^ (24 * (W : Int)).toNat - 1 = ((2 ^ (24 * W) - 1 : Nat) : Int) := by
    have e : (24 * (W : Int)).toNat = 24 * W := by omega
    have h1 := Nat.one_le_two_pow (n := 24 * W)
    rw [e, Int.natCast_sub h1, Int.natCast_pow]; rfl
  refine ex_cons (exs_assign ((ev_binop (ev_binop ev_int (ev_binop ev_int (ev_name rfl rfl rfl) (op_mul_int ?_)) (op_pow2 (by omega) (by omega))) ev_int op_sub_int).is (congrArg D.int hfull)) (.inl rfl) (fun _ _ => rfl)) ?_
  · exact IntMulOk.of_right (intBits_le_64 (by omega) (by omega))
  refine ex_cons (exs_assign ev_int (.inl rfl) (fun _ _ => rfl)) ?_
  refine ex_cons (exs_assign ev_int (.inl rfl) (fun _ _ => rfl)) ?_
  refine ex_cons (exs_assign (d := .list (dInts [0])) (ev_list (evs_cons ev_int evs_nil (fun _ => rfl)) (by decide)) (.inr rfl) (fun _ _ => rfl)) ?_
  refine ex_cons (exs_assign (d := .list (dInts [])) (ev_list evs_nil (by decide)) (.inr rfl) (fun _ _ => rfl)) ?_
  generalize hS : (fun i : Nat => (Str.ofString "columns", D.list (dInts (natI ((R.take i).map fun r => r.col 0)))) :: (Str.ofString "turns", D.list (dInts (natI (turnsF (R.take i))))) :: (Str.ofString "product", D.int ((prodF W (R.take i) : Nat) : Int)) :: (Str.ofString "combs", D.int ((combsF W (R.take i) : Nat) : Int)) ::
    (Str.ofString "full", D.int ((2 ^ (24 * W) - 1 : Nat) : Int)) :: (Str.ofString "rows", D.list (R.map rowD)) :: (Str.ofString "many", D.int ((m : Nat) : Int)) :: (Str.ofString "width", D.int ((W : Nat) : Int)) :: [(Str.ofString "script", D.list (dInts ns))]) = S
  refine ex_cons (exs_for (ds := R.map rowD) S (fun i => (Str.ofString "end", .str ⟨(rowAt R i).en.toArray⟩) :: (Str.ofString "unit", .int ((rowAt R i).unit : Int)) :: (Str.ofString "dots", .int ((rowAt R i).dots : Int)) :: (Str.ofString "size", .int ((rowAt R i).size : Int)) :: S i) (it_list (ev_name rfl rfl rfl)) ?_ ?_ ?_ (fun _ _ => rfl)) ?_
  · rw [← hS]; rfl
  · intro i d hd
    have hi : i < R.length := by have := (List.getElem?_eq_some_iff.mp hd).1; simpa using this
    rw [rows_get hi] at hd
    cases hd
    exact as_tuple (ass_cons (as_name trivial (.inl rfl)) (ass_cons (as_name trivial (.inl rfl)) (ass_cons (as_name trivial (.inl rfl)) (ass_cons (as_name trivial (.inl rfl)) ass_nil)))) (fun _ => rfl) (fun _ => rfl)
  · intro i d hd
    have hi : i < R.length := by have := (List.getElem?_eq_some_iff.mp hd).1; simpa using this
    have hok := hR _ (rowAt_mem hi)
    have htk := rowAt_take hi
    have hp := hok.pos
    have hdots := hok.dots
    rw [← hS]
    dsimp only
    rw [htk, prodF_snoc, combsF_snoc, turnsF_snoc, List.map_append]
    generalize hr : rowAt R i = r at *
    have htl : (R.take i).length ≤ 4 := by rw [List.length_take]; omega
    generalize hRR : R.take i = RR at htl
    -- column
    have hdl : ∀ d : Nat, (Txt.mul (txt [32]) (d : Int)).length = d := fun d => by rw [mul_sign, txt_len, List.length_replicate]
    refine ex_cons (exs_assign ((ev_ws (d := r.dots) (sz := r.size) ((ev_binop (ev_binop ev_str (ev_name rfl rfl rfl) (op_mulstr (mulOk_sign (by omega)))) ev_str (op_addstr ?_)).is (congrArg D.str (blanks r.dots))) rfl (by omega) (ev_name rfl rfl rfl) (by omega) (by omega) (by decide) rfl (fun _ => rfl) (fun _ => rfl) rfl (fun _ => rfl)).is (d' := .int ((r.col 0 : Nat) : Int)) rfl) (.inl rfl) (fun _ _ => rfl)) ?_
    · have := hdl r.dots
      show (Txt.mul (txt [32]) (r.dots : Int)).length + 3 ≤ 1000000
      omega
    -- comb, over
    have hsw : 1 ≤ r.size * W := Nat.mul_pos (by omega) (by omega)
    have hsw2 : r.size * W ≤ 96 := by
      have := Nat.mul_le_mul (show r.size ≤ 8 by omega) (show W ≤ 12 by omega); omega
    have hpow : (2 : Int) ^ ((r.size : Int) * (W : Int)).toNat - 1 = ((2 ^ (r.size * W) - 1 : Nat) : Int) := by
      have e : ((r.size : Int) * (W : Int)).toNat = r.size * W := by rw [← Int.natCast_mul, Int.toNat_natCast]
      rw [e, ones_int]
    have hposI : (0 : Int) < (r.size : Int) * (W : Int) := by rw [← Int.natCast_mul]; omega
    have hle : (r.size : Int) * (W : Int) ≤ 96 := by rw [← Int.natCast_mul]; omega
    have hb1 : 1 ≤ 2 ^ (r.size * W) - 1 := by
      have := Nat.pow_le_pow_right (show 0 < 2 by decide) hsw
      omega
    have hcf := comb_facts hok (w := W) (by omega)
    have hidig : idigN (Builtin.Int.intBits ((2 ^ (r.size * W) - 1 : Nat) : Int)) (2 ^ (24 * W) - 1) ≤ 2 ^ 5 := by
      rw [bits_ones hsw]
      refine Nat.le_trans (idigN_le (m := 24) hsw ?_) (by decide)
      have h1 : 2 ^ (24 * W) ≤ 2 ^ (r.size * W * 24) := Nat.pow_le_pow_right (by decide) (by rw [Nat.mul_comm 24 W]; exact Nat.mul_le_mul_right _ (Nat.le_mul_of_pos_left W (by omega)))
      have := Nat.two_pow_pos (24 * W)
      omega
    refine ex_cons (exs_assign_tuple (d := .tuple [.int ((combOf W r : Nat) : Int), .int (((2 ^ (24 * W) - 1) % (2 ^ (r.size * W) - 1) : Nat) : Int)]) (ev_call_fun (a := 80) rfl rfl rfl rfl rfl (evs_cons (ev_name rfl rfl rfl) (evs_cons ((ev_binop (ev_binop ev_int (ev_binop (ev_name rfl rfl rfl) (ev_name rfl rfl rfl) (op_mul_int ?_)) (op_pow2 hposI (by omega))) ev_int op_sub_int).is (congrArg D.int hpow)) evs_nil (fun _ => rfl)) (fun _ => rfl)) ((idm_ct (j := 5) hb1 (by rw [bits_ones hsw]; omega) hidig (by decide)).le (by decide)) (fun _ => rfl))
      (as_tuple (ass_cons (as_name trivial (.inl rfl)) (ass_cons (as_name trivial (.inl rfl)) ass_nil)) (fun _ => rfl) (fun _ => rfl)) (fun _ _ => rfl) (fun _ _ => rfl)) ?_
    · exact IntMulOk.of_right (intBits_le_64 (by omega) (by omega))
    refine ex_cons (exs_if_f (ts_cmp (ev_name rfl rfl rfl) ev_int (op_ne_int.is (c' := .bool false) (by rw [hcf.1]; rfl)) rfl) ex_nil) ?_
    -- combs
    have hoff : r.off ≤ 7 := by unfold Rw.off; omega
    have hwoff : (W : Int) * ((r.off : Nat) : Int) = ((W * r.off : Nat) : Int) := (Int.natCast_mul _ _).symm
    have hwo2 : W * r.off ≤ 84 := by have := Nat.mul_le_mul (show W ≤ 12 by omega) hoff; omega
    have hcombs : ((combsF W RR : Nat) : Int) + ((combOf W r : Nat) : Int) * 2 ^ (((W * r.off : Nat) : Int)).toNat = ((combsF W RR + combOf W r * 2 ^ (W * r.off) : Nat) : Int) := by
      rw [Int.toNat_natCast]; simp
    have hcb : Builtin.Int.intBits ((combOf W r : Nat) : Int) ≤ 288 := by
      refine bits_lt ?_
      have h1 : combOf W r ≤ 2 ^ (24 * W) - 1 := Nat.div_le_self _ _
      have h2 : 2 ^ (24 * W) ≤ 2 ^ 288 := Nat.pow_le_pow_right (by decide) (by omega)
      have := Nat.two_pow_pos (24 * W)
      omega
    refine ex_cons (exs_assign ((ev_binop (ev_name rfl rfl rfl) (ev_binop (ev_name rfl rfl rfl) ((ev_binop (ev_name rfl rfl rfl) ((ev_binop (ev_binop (ev_name rfl rfl rfl) (ev_name rfl rfl rfl) op_sub_int) ev_int op_sub_int).is (congrArg D.int (col_off hok))) (op_mul_int ?_)).is (congrArg D.int hwoff)) (op_shl_int (by omega) (by omega))) op_add_int).is (congrArg D.int hcombs)) (.inl rfl) (fun _ _ => rfl)) ?_
    · exact IntMulOk.of_right (intBits_le_64 (by omega) (by omega))
    -- step
    have hstep : (((24 : Int).fdiv (r.size : Int)) * (r.unit : Int)).fmod 24 = ((r.step : Nat) : Int) := by
      unfold Rw.step
      rw [Int.fdiv_eq_ediv_of_nonneg _ (by omega), Int.fmod_eq_emod_of_nonneg _ (by decide)]
      rw [Int.natCast_emod, Int.natCast_mul, Int.natCast_ediv]; rfl
    have hunit : r.unit ≤ 11 := by rcases hok.unit with e | e | e | e <;> omega
    refine ex_cons (exs_assign ((ev_binop (ev_binop (ev_binop ev_int (ev_name rfl rfl rfl) (op_div_int (by omega) (PyProof.noPylong_small (by omega)))) (ev_name rfl rfl rfl) (op_mul_int ?_)) ev_int (op_mod_int (by decide))).is (congrArg D.int hstep)) (.inr rfl) (fun _ _ => rfl)) ?_
    · exact IntMulOk.of_right (intBits_le_64 (by omega) (by omega))
    -- product
    have hst := step_lt r
    have hwst : (W : Int) * ((r.step : Nat) : Int) = ((W * r.step : Nat) : Int) := (Int.natCast_mul _ _).symm
    have hws2 : W * r.step ≤ 276 := by have := Nat.mul_le_mul (show W ≤ 12 by omega) (show r.step ≤ 23 by omega); omega
    have hprod : ((prodF W RR : Nat) : Int) + ((prodF W RR : Nat) : Int) * 2 ^ (((W * r.step : Nat) : Int)).toNat = ((prodF W RR + prodF W RR * 2 ^ (W * r.step) : Nat) : Int) := by
      rw [Int.toNat_natCast]; simp
    have hpb := prodF_bits hW1.2 htl
    refine ex_cons (exs_assign ((ev_binop (ev_name rfl rfl rfl) (ev_binop (ev_name rfl rfl rfl) ((ev_binop (ev_name rfl rfl rfl) (ev_name rfl rfl rfl) (op_mul_int ?_)).is (congrArg D.int hwst)) (op_shl_int (by omega) (by omega))) op_add_int).is (congrArg D.int hprod)) (.inl rfl) (fun _ _ => rfl)) ?_
    · exact IntMulOk.of_right (intBits_le_64 (by omega) (by omega))
    -- turns
    have htlen : (turnsF RR).length ≤ 16 := by rw [turns_length]; exact Nat.le_trans (Nat.pow_le_pow_right (by decide) htl) (by decide)
    refine ex_cons (exs_assign (ev_binop (ev_name rfl rfl rfl) (ev_listcomp ((compT_nat (turnsF RR) (fun x => (Str.ofString "x", .int (x : Int)) :: [(Str.ofString "step", .int ((r.step : Nat) : Int))]) (fun _ => true) (fun x => D.int (((x + r.step) % 24 : Nat) : Int))
      (by decide +kernel) (fun _ _ => rfl) ((it_list (ev_name rfl rfl rfl)).is (by simp [List.map_map])) (SubS.cons (d := .int ((r.step : Nat) : Int)) rfl rfl rfl .nil) (fun a ha => as_name (by decide) (.inl rfl)) (fun a ha => tss_nil) (fun a ha _ => ?_) (by omega)).is (rs' := (turnsF RR).map fun x => D.int (((x + r.step) % 24 : Nat) : Int)) (by rw [filter_tt]))) (op_addlist ?_)) (.inr rfl) (fun _ _ => rfl)) ?_
    · refine (ev_binop (ev_binop (ev_name rfl rfl rfl) (ev_name rfl rfl rfl) op_add_int) ev_int (op_mod_int (by decide))).is ?_
      rw [Int.fmod_eq_emod_of_nonneg _ (by decide)]; rfl
    · simp; omega
    -- columns
    refine ex_cons (exs_assign (ev_binop (ev_name rfl rfl rfl) (ev_list (ds := [.int ((r.col 0 : Nat) : Int)]) (evs_cons (ev_name rfl rfl rfl) evs_nil (fun _ => rfl)) (by simp)) (op_addlist ?_)) (.inr rfl) (fun _ _ => rfl)) ?_
    · simp; omega
    refine ex_done ?_
    refine SubL.cons rfl (SubL.cons rfl (SubL.cons rfl (SubL.cons rfl (SubL.cons rfl (SubL.cons rfl (SubL.cons rfl (SubL.cons rfl (SubL.cons rfl .nil))))))) ?_) ?_
    · unfold dInts natI
      simp [List.map_append, List.map_map]
    · unfold dInts natI
      simp [List.map_append, List.map_map]
  have hend : S (R.map rowD).length = (Str.ofString "columns", D.list (dInts (natI (R.map fun r => r.col 0)))) :: (Str.ofString "turns", D.list (dInts (natI (turnsF R)))) :: (Str.ofString "product", D.int ((prodF W R : Nat) : Int)) :: (Str.ofString "combs", D.int ((combsF W R : Nat) : Int)) ::
    (Str.ofString "full", D.int ((2 ^ (24 * W) - 1 : Nat) : Int)) :: (Str.ofString "rows", D.list (R.map rowD)) :: (Str.ofString "many", D.int ((m : Nat) : Int)) :: (Str.ofString "width", D.int ((W : Nat) : Int)) :: [(Str.ofString "script", D.list (dInts ns))] := by
    rw [← hS, List.length_map]; dsimp only; rw [List.take_length]
  rw [hend]
  clear hend hS
  -- quotient, rest
  have hR4 : R.length ≤ 4 := by omega
  have hn24 : 1 ≤ 24 * W := by omega
  have hfb : 1 ≤ 2 ^ (24 * W) - 1 := by
    have := Nat.pow_le_pow_right (show 0 < 2 by decide) hn24
    omega
  have hplt : prodF W R < 2 ^ (24 * W * 10) := by
    have h1 := prodF_lt hW1.2 R 1
    rw [Nat.one_mul] at h1
    exact Nat.lt_of_le_of_lt h1 (Nat.pow_lt_pow_right (by decide) (by omega))
  have hidig2 : idigN (Builtin.Int.intBits ((2 ^ (24 * W) - 1 : Nat) : Int)) (prodF W R) ≤ 2 ^ 5 := by
    rw [bits_ones hn24]
    exact Nat.le_trans (idigN_le (m := 10) hn24 hplt) (by decide)
  refine ex_cons (exs_assign_tuple (d := .tuple [.int ((prodF W R / (2 ^ (24 * W) - 1) : Nat) : Int), .int ((prodF W R % (2 ^ (24 * W) - 1) : Nat) : Int)]) (ev_call_fun (a := 80) rfl rfl rfl rfl rfl (evs_cons (ev_name rfl rfl rfl) (evs_cons (ev_name rfl rfl rfl) evs_nil (fun _ => rfl)) (fun _ => rfl)) ((idm_ct (j := 5) hfb (by rw [bits_ones hn24]; omega) hidig2 (by decide)).le (by decide)) (fun _ => rfl))
      (as_tuple (ass_cons (as_name trivial (.inl rfl)) (ass_cons (as_name trivial (.inl rfl)) ass_nil)) (fun _ => rfl) (fun _ => rfl)) (fun _ _ => rfl) (fun _ _ => rfl)) ?_
  have hqr : ((prodF W R / (2 ^ (24 * W) - 1) : Nat) : Int) * ((2 ^ (24 * W) - 1 : Nat) : Int) + ((prodF W R % (2 ^ (24 * W) - 1) : Nat) : Int) = ((prodF W R : Nat) : Int) := by
    rw [← Int.natCast_mul, ← Int.natCast_add, Nat.div_add_mod']
  have hqb : Builtin.Int.intBits ((prodF W R / (2 ^ (24 * W) - 1) : Nat) : Int) ≤ 2 ^ 20 := by
    have h1 := Nat.div_le_self (prodF W R) (2 ^ (24 * W) - 1)
    refine Nat.le_trans (bits_lt (n := 24 * W * 10) (by omega)) (by omega)
  refine ex_cons (exs_if_f (ts_cmp ((ev_binop (ev_binop (ev_name rfl rfl rfl) (ev_name rfl rfl rfl) (op_mul_int (IntMulOk.of_bits hqb (by rw [bits_ones hn24]; omega)))) (ev_name rfl rfl rfl) op_add_int).is (congrArg D.int hqr)) (ev_name rfl rfl rfl) (op_ne_int.is (c' := .bool false) (by simp)) rfl) ex_nil) ?_
  -- ways, moves
  obtain ⟨hwy1, hwy2⟩ := prod_figs hW1.1 hR4
  obtain ⟨hmv1, hmv2⟩ := combs_figs hW1.1 hR hR4
  refine ex_cons (exs_assign (d := .list (dInts (natI (wys R)))) ((ev_call_fun (a := 177) rfl rfl rfl rfl rfl (evs_cons (ev_name rfl rfl rfl) (evs_cons (ev_name rfl rfl rfl) evs_nil (fun _ => rfl)) (fun _ => rfl)) ((fig_ct (by omega) (by omega) hwy2).le (by decide)) (fun _ => rfl)).is (by rw [hwy1])) (.inl rfl) (fun _ _ => rfl)) ?_
  refine ex_cons (exs_assign (d := .list (dInts (natI (mvs R)))) ((ev_call_fun (a := 177) rfl rfl rfl rfl rfl (evs_cons (ev_name rfl rfl rfl) (evs_cons (ev_name rfl rfl rfl) evs_nil (fun _ => rfl)) (fun _ => rfl)) ((fig_ct (by omega) (by omega) hmv2).le (by decide)) (fun _ => rfl)).is (by rw [hmv1])) (.inl rfl) (fun _ _ => rfl)) ?_
  -- enough
  refine ex_cons (exs_assign ((ev_binop ev_int (ev_meth (od := .list (dInts (natI (wys R)))) (ev_name rfl rfl rfl) (evs_cons ev_int evs_nil (fun _ => rfl)) F.plainAttrs_list F.slot_list_count F.type_list_count ct_count (fun _ => rfl) (fun _ => rfl) rfl (fun _ => rfl) (fun _ => rfl)) op_sub_int).is (congrArg D.int (enough_int R))) (.inl rfl) (fun _ _ => rfl)) ?_
  -- mail
  refine ex_cons (exs_assign (d := .str (txt (mailAt R 0))) (ev_join (xs := R.map fun r => rowText r.dots r.en) (ev_listcomp ((compT_map R rowD invRow (fun r _ => invRow_rowD r) (fun r => (Str.ofString "end", .str (txt r.en)) :: (Str.ofString "unit", .int (r.unit : Int)) :: (Str.ofString "dots", .int (r.dots : Int)) :: [(Str.ofString "size", .int (r.size : Int))]) (fun _ => true) (fun r => .str (txt (rowText r.dots r.en)))
    (by decide +kernel) (fun _ _ => rfl) (it_list (ev_name rfl rfl rfl)) .nil (fun r hr => as_tuple (ass_cons (as_name (by decide) (.inl rfl)) (ass_cons (as_name (by decide) (.inl rfl)) (ass_cons (as_name (by decide) (.inl rfl)) (ass_cons (as_name (by decide) (.inl rfl)) ass_nil)))) (fun _ => rfl) (fun _ => rfl)) (fun r hr => tss_nil) (fun r hr _ => ?_) (by omega)).is ?_)) ?_ (fun _ => rfl) rfl (fun _ => rfl)) (.inl rfl) (fun _ _ => rfl)) ?_
  · have hp := (hR r hr).pos
    have hel : r.en.length ≤ 2 := by rcases (hR r hr).en with e | e | e <;> rw [e] <;> decide
    refine (ev_binop (ev_binop ev_str (ev_name rfl rfl rfl) ((op_mulstr (mulOk_sign (by omega))).is (congrArg D.str (mul_sign 46 r.dots)))) (ev_name rfl rfl rfl) (op_addstr ?_)).is (congrArg D.str (txt_add ..))
    rw [txt_len, txt_len, List.length_replicate]; omega
  · rw [filter_tt, dStrs, List.map_map, List.map_map]; rfl
  · refine Nat.le_trans (mail_sum (b := 10) fun r hr => ?_) (by omega)
    rw [rowText_len]
    have := (hR r hr).pos
    rcases (hR r hr).en with e | e | e <;> rw [e] <;> simp <;> omega
  obtain ⟨he1, he2⟩ := enough_pos R
  generalize hbase : [(Str.ofString "enough", D.int ((enough R : Nat) : Int)), (Str.ofString "moves", D.list (dInts (natI (mvs R)))), (Str.ofString "ways", D.list (dInts (natI (wys R)))), (Str.ofString "turns", D.list (dInts (natI (turnsF R)))), (Str.ofString "rows", D.list (R.map rowD)), (Str.ofString "many", D.int ((m : Nat) : Int))] = base
  refine ex_pre (σ := (Str.ofString "columns", D.list (dInts (natI (R.map fun r => r.col 0)))) :: (Str.ofString "mail", D.str (txt (mailAt R 0))) :: base) ?_ (by
    rw [← hbase]
    exact SubL.cons rfl (SubL.cons rfl (SubL.cons rfl (SubL.cons rfl (SubL.cons rfl (SubL.cons rfl (SubL.cons rfl (SubL.cons rfl .nil))))))))
  refine ex_cons (exs_for (ds := (List.range (enough R)).map fun (i : Nat) => D.int (i : Int)) (fun i => (Str.ofString "columns", D.list (dInts (natI (R.map fun r => r.col i)))) :: (Str.ofString "mail", D.str (txt (mailAt R i))) :: base)
    (fun i => (Str.ofString "sent", D.int (i : Int)) :: (Str.ofString "columns", D.list (dInts (natI (R.map fun r => r.col i)))) :: (Str.ofString "mail", D.str (txt (mailAt R i))) :: base) ?_ rfl ?_ ?_ (fun _ _ => rfl)) ?_
  · rw [← hbase]
    exact it_rangeN rfl rfl (by kernel_rfl) rfl (ev_name rfl rfl rfl) (by omega) (fun _ => rfl)
  · intro i d hd
    have hi : i < enough R := by have := (List.getElem?_eq_some_iff.mp hd).1; simpa using this
    have : d = .int (i : Int) := by
      rw [List.getElem?_map, List.getElem?_range hi] at hd
      exact (Option.some.inj hd).symm
    subst this
    exact as_name trivial (.inr rfl)
  · intro i d hd
    have hi : i < enough R := by have := (List.getElem?_eq_some_iff.mp hd).1; simpa using this
    rw [← hbase]
    -- mail
    have hml := mail_len hR i
    have hml2 : (mailAt R i).length ≤ 4 * 36 := Nat.le_trans hml (Nat.mul_le_mul hR4 (by omega))
    refine ex_cons (exs_assign ((ev_call_fun (a := 97) rfl rfl rfl rfl rfl (evs_cons (ev_name rfl rfl rfl) evs_nil (fun _ => rfl)) ((quote_ct (by simp; omega)).le (by decide)) (fun _ => rfl)).is (congrArg D.str (mail_next hR i))) (.inl rfl) (fun _ _ => rfl)) ?_
    -- the mail is whole
    have hdot : ∀ r : Rw, ((r.dots : Nat) : Int) + (i : Int) + 1 = ((r.dots + i + 1 : Nat) : Int) := fun r => by omega
    refine ex_cons (exs_if_f (ts_cmp (ev_name rfl rfl rfl) (ev_join (xs := R.map fun r => rowText (r.dots + i + 1) [13, 10]) (ev_listcomp ((compT_map R rowD invRow (fun r _ => invRow_rowD r) (fun r => (Str.ofString "end", .str (txt r.en)) :: (Str.ofString "unit", .int (r.unit : Int)) :: (Str.ofString "dots", .int (r.dots : Int)) :: (Str.ofString "size", .int (r.size : Int)) :: [(Str.ofString "sent", .int (i : Int))]) (fun _ => true) (fun r => .str (txt (rowText (r.dots + i + 1) [13, 10])))
      (by decide +kernel) (fun _ _ => rfl) (it_list (ev_name rfl rfl rfl)) (SubS.cons (d := .int (i : Int)) rfl rfl rfl .nil) (fun r hr => as_tuple (ass_cons (as_name (by decide) (.inl rfl)) (ass_cons (as_name (by decide) (.inl rfl)) (ass_cons (as_name (by decide) (.inl rfl)) (ass_cons (as_name (by decide) (.inl rfl)) ass_nil)))) (fun _ => rfl) (fun _ => rfl)) (fun r hr => tss_nil) (fun r hr _ => ?_) (by omega)).is ?_)) ?_ (fun _ => rfl) rfl (fun _ => rfl)) (op_nestr.is (c' := .bool false) ?_) rfl) ex_nil) ?_
    · have hp := (hR r hr).pos
      refine (ev_binop (ev_binop ev_str ((ev_binop (ev_binop (ev_name rfl rfl rfl) (ev_name rfl rfl rfl) op_add_int) ev_int op_add_int).is (congrArg D.int (hdot r))) ((op_mulstr (mulOk_sign (by omega))).is (congrArg D.str (mul_sign 46 (r.dots + i + 1))))) ev_str (op_addstr ?_)).is (congrArg D.str (txt_add _ [13, 10]))
      rw [txt_len, List.length_replicate]
      show _ + 2 ≤ _
      omega
    · rw [filter_tt, dStrs, List.map_map, List.map_map]; rfl
    · refine Nat.le_trans (mail_sum (b := 50) fun r hr => ?_) (by omega)
      rw [rowText_len]
      have := (hR r hr).pos
      simp; omega
    · refine congrArg D.bool ?_
      show ((mailAt R (i + 1)) != (R.map fun r => rowText (r.dots + i + 1) [13, 10]).flatten) = false
      show ((mailAt R (i + 1)) != (mailAt R (i + 1))) = false
      simp
    -- shown
    have hRne : (R.map fun r => r.dots + i + 1) ≠ [] := by
      intro z
      have := congrArg List.length z
      simp at this
      rw [this] at hRl; simp at hRl; omega
    have hmt : (txt (mailAt R (i + 1))).cps.toList = ((R.map fun r => r.dots + i + 1).map fun n => rowText n [13, 10]).flatten := by
      rw [List.map_map]; rfl
    obtain ⟨hsp1, hsp2⟩ := split_rows hRne hmt
    have hml3 : (txt (mailAt R (i + 1))).length ≤ 1000000 := by
      rw [txt_len]
      exact Nat.le_trans (mail_len hR (i + 1)) (Nat.le_trans (Nat.mul_le_mul hR4 (show i + 1 + 12 ≤ 40 by omega)) (by decide))
    have hspl : (Builtin.Str.partsBetween (txt (mailAt R (i + 1))) (Builtin.Str.occurrences (txt (mailAt R (i + 1))) (Str.ofString "\r\n") 0 (txt (mailAt R (i + 1))).length ((txt (mailAt R (i + 1))).length + 1)) (Str.ofString "\r\n").length).length ≤ 1000000 := by
      rw [hsp2]; simp; omega
    generalize hsh : (R.map fun r => r.dots + i + 1).map dotsStr ++ [(⟨#[]⟩ : Str)] = shown at hsp1
    have hshget : ∀ k, k < m → (dStrs shown)[k]? = some (.str (dotsStr ((rowAt R k).dots + i + 1))) := fun k hk => by
      rw [← hsh, dStrs, List.getElem?_map, List.getElem?_append_left (by simp; omega), List.map_map, List.getElem?_map, rowAt_get (by omega)]
      rfl
    refine ex_cons (exs_assign (d := .list (dStrs shown)) ((ev_meth (od := .str (txt (mailAt R (i + 1)))) (ev_name rfl rfl rfl) (evs_cons ev_str evs_nil (fun _ => rfl)) F.plainAttrs_str F.slot_str_split F.type_str_split (ct_split (by decide) hml3 hspl) (fun _ => rfl) (fun _ => rfl) rfl (fun _ => rfl) (fun _ => rfl)).is (by rw [hsp1])) (.inr rfl) (fun _ _ => rfl)) ?_
    -- after
    have hm4 : m ≤ 4 := hM1.2
    have hrow : ∀ k, k < m → (R.map rowD)[((k : Nat) : Int).toNat]? = some (rowD (rowAt R k)) := fun k hk => by
      rw [Int.toNat_natCast]; exact rows_get (by omega)
    have hpos : ∀ k, k < m → (rowAt R k).Ok := fun k hk => hR _ (rowAt_mem (by omega))
    refine ex_cons (exs_assign (d := .list ((List.range m).map fun k => D.int (((rowAt R k).col (i + 1) : Nat) : Int))) (ev_listcomp ((compT_nat (List.range m) (fun k => (Str.ofString "k", .int (k : Int)) :: (Str.ofString "rows", .list (R.map rowD)) :: [(Str.ofString "shown", .list (dStrs shown))]) (fun _ => true) (fun k => D.int (((rowAt R k).col (i + 1) : Nat) : Int))
      (by decide +kernel) (fun _ _ => rfl) (it_rangeN rfl rfl (by kernel_rfl) rfl (ev_name rfl rfl rfl) (by omega) (fun _ => rfl)) (SubS.cons (d := .list (R.map rowD)) rfl rfl rfl (SubS.cons (d := .list (dStrs shown)) rfl rfl rfl .nil)) (fun a ha => as_name (by decide) (.inl rfl)) (fun a ha => tss_nil) (fun a ha _ => ?_) (by simp; omega)).is (by rw [filter_tt]))) (.inr rfl) (fun env he => ?_)) ?_
    · have ha' : a < m := List.mem_range.mp ha
      have hp := (hpos a ha').pos
      refine (ev_ws (d := (rowAt R a).dots + i + 1) (sz := (rowAt R a).size) ((ev_binop ((ev_replace (x := dotsStr ((rowAt R a).dots + i + 1)) (y := Str.ofString ".") (z := Str.ofString " ") (ev_sub (a := .list (dStrs shown)) (ev_name rfl rfl rfl) (ev_name rfl rfl rfl) list_getitem_lookup (op_getlist (by omega) (by rw [Int.toNat_natCast]; exact hshget a ha') (by omega)) (fun _ _ => rfl)) (by decide +kernel) (by simp [dotsStr, Str.length]; omega) (by decide) (fun _ => rfl) rfl).is (congrArg D.str (replace_dots _))) ev_str (op_addstr ?_)).is (congrArg D.str (txt_add _ [9, 120, 32]))) rfl (by omega)
        (ev_sub (a := rowD (rowAt R a)) (ev_sub (a := .list (R.map rowD)) (ev_name rfl rfl rfl) (ev_name rfl rfl rfl) list_getitem_lookup (op_getlist (by omega) (hrow a ha') (by omega)) (fun _ _ => rfl)) ev_int F.slot_tuple_getitem.lookup (op_gettuple (by decide) rfl (by decide)) (fun _ _ => rfl)) (by omega) (by omega) (by decide) rfl (fun _ => rfl) (fun _ => rfl) rfl (fun _ => rfl)).is rfl
      show (List.replicate _ 32).toArray.size + 3 ≤ _
      simp; omega
    · unfold swapsWith Env.blockKind Env.kindOf; rw [he]; rfl
    -- gone, stay
    have haft : ∀ k, k < m → ((List.range m).map fun k => D.int (((rowAt R k).col (i + 1) : Nat) : Int))[((k : Nat) : Int).toNat]? = some (D.int (((rowAt R k).col (i + 1) : Nat) : Int)) := fun k hk => by
      rw [Int.toNat_natCast, List.getElem?_map, List.getElem?_range hk]; rfl
    have hcol : ∀ k, k < m → (dInts (natI (R.map fun r => r.col i)))[((k : Nat) : Int).toNat]? = some (D.int (((rowAt R k).col i : Nat) : Int)) := fun k hk => by
      unfold dInts natI
      rw [Int.toNat_natCast, List.map_map, List.map_map, List.getElem?_map, rowAt_get (by omega)]; rfl
    refine ex_cons (exs_assign (d := .int ((cnt R i : Nat) : Int)) ((ev_call_builtin (id := "len") rfl rfl (by kernel_rfl) (by decide) rfl (evs_cons (ev_listcomp (compT_nat (List.range m) (fun k => (Str.ofString "k", .int (k : Int)) :: (Str.ofString "after", .list ((List.range m).map fun k => D.int (((rowAt R k).col (i + 1) : Nat) : Int))) :: (Str.ofString "columns", .list (dInts (natI (R.map fun r => r.col i)))) :: [(Str.ofString "rows", .list (R.map rowD))])
      (fun k => decide ((rowAt R k).col (i + 1) = (rowAt R k).col i + (rowAt R k).size)) (fun k => D.int (k : Int))
      (by decide +kernel) (fun _ _ => rfl) (it_rangeN rfl rfl (by kernel_rfl) rfl (ev_name rfl rfl rfl) (by omega) (fun _ => rfl)) (SubS.cons (d := .list ((List.range m).map fun k => D.int (((rowAt R k).col (i + 1) : Nat) : Int))) rfl rfl rfl (SubS.cons (d := .list (dInts (natI (R.map fun r => r.col i)))) rfl rfl rfl (SubS.cons (d := .list (R.map rowD)) rfl rfl rfl .nil))) (fun a ha => as_name (by decide) (.inl rfl))
      (fun a ha => tss_one (ts_cmp (ev_sub (a := .list ((List.range m).map fun k => D.int (((rowAt R k).col (i + 1) : Nat) : Int))) (ev_name rfl rfl rfl) (ev_name rfl rfl rfl) list_getitem_lookup (op_getlist (by omega) (haft a (List.mem_range.mp ha)) (by have := List.mem_range.mp ha; omega)) (fun _ _ => rfl))
        (ev_binop (ev_sub (a := .list (dInts (natI (R.map fun r => r.col i)))) (ev_name rfl rfl rfl) (ev_name rfl rfl rfl) list_getitem_lookup (op_getlist (by omega) (hcol a (List.mem_range.mp ha)) (by have := List.mem_range.mp ha; omega)) (fun _ _ => rfl))
          (ev_sub (a := rowD (rowAt R a)) (ev_sub (a := .list (R.map rowD)) (ev_name rfl rfl rfl) (ev_name rfl rfl rfl) list_getitem_lookup (op_getlist (by omega) (hrow a (List.mem_range.mp ha)) (by have := List.mem_range.mp ha; omega)) (fun _ _ => rfl)) ev_int F.slot_tuple_getitem.lookup (op_gettuple (by decide) rfl (by decide)) (fun _ _ => rfl)) op_add_int) (op_eq_int.is (congrArg D.bool (by rw [Bool.eq_iff_iff]; simp; omega))) rfl))
      (fun a ha _ => ev_name rfl rfl rfl) (by simp; omega))) evs_nil (fun _ => rfl)) (ct_len ?_) (fun _ => rfl) (fun _ => rfl)).is ?_) (.inl rfl) (fun _ _ => rfl)) ?_
    · refine Nat.le_trans (by rw [List.length_map]; exact List.length_filter_le _ _) (by simp; omega)
    · rw [List.length_map, ← hRl, gone_len hR]
    refine ex_cons (exs_assign (d := .int ((m : Int) - ((cnt R i : Nat) : Int))) ((ev_call_builtin (id := "len") rfl rfl (by kernel_rfl) (by decide) rfl (evs_cons (ev_listcomp (compT_nat (List.range m) (fun k => (Str.ofString "k", .int (k : Int)) :: (Str.ofString "after", .list ((List.range m).map fun k => D.int (((rowAt R k).col (i + 1) : Nat) : Int))) :: [(Str.ofString "columns", .list (dInts (natI (R.map fun r => r.col i))))])
      (fun k => decide ((rowAt R k).col (i + 1) = (rowAt R k).col i)) (fun k => D.int (k : Int))
      (by decide +kernel) (fun _ _ => rfl) (it_rangeN rfl rfl (by kernel_rfl) rfl (ev_name rfl rfl rfl) (by omega) (fun _ => rfl)) (SubS.cons (d := .list ((List.range m).map fun k => D.int (((rowAt R k).col (i + 1) : Nat) : Int))) rfl rfl rfl (SubS.cons (d := .list (dInts (natI (R.map fun r => r.col i)))) rfl rfl rfl .nil)) (fun a ha => as_name (by decide) (.inl rfl))
      (fun a ha => tss_one (ts_cmp (ev_sub (a := .list ((List.range m).map fun k => D.int (((rowAt R k).col (i + 1) : Nat) : Int))) (ev_name rfl rfl rfl) (ev_name rfl rfl rfl) list_getitem_lookup (op_getlist (by omega) (haft a (List.mem_range.mp ha)) (by have := List.mem_range.mp ha; omega)) (fun _ _ => rfl))
        (ev_sub (a := .list (dInts (natI (R.map fun r => r.col i)))) (ev_name rfl rfl rfl) (ev_name rfl rfl rfl) list_getitem_lookup (op_getlist (by omega) (hcol a (List.mem_range.mp ha)) (by have := List.mem_range.mp ha; omega)) (fun _ _ => rfl))
        (op_eq_int.is (congrArg D.bool (by rw [Bool.eq_iff_iff]; simp; omega))) rfl))
      (fun a ha _ => ev_name rfl rfl rfl) (by simp; omega))) evs_nil (fun _ => rfl)) (ct_len ?_) (fun _ => rfl) (fun _ => rfl)).is ?_) (.inl rfl) (fun _ _ => rfl)) ?_
    · refine Nat.le_trans (by rw [List.length_map]; exact List.length_filter_le _ _) (by simp; omega)
    · rw [List.length_map, ← hRl, stay_len hR]
    -- the comb's digit
    have hmvi : (dInts (natI (mvs R)))[((i : Nat) : Int).toNat]? = some (D.int ((cnt R i : Nat) : Int)) := by
      unfold dInts natI mvs
      rw [Int.toNat_natCast, List.map_map, List.map_map, List.getElem?_map, List.getElem?_range (by omega)]; rfl
    refine ex_cons (exs_if_f (ts_cmp (ev_tuple (ds := [.int ((cnt R i : Nat) : Int), .int ((m : Int) - ((cnt R i : Nat) : Int))]) (evs_cons (ev_name rfl rfl rfl) (evs_cons (ev_name rfl rfl rfl) evs_nil (fun _ => rfl)) (fun _ => rfl)) ⟨by simp, by simp⟩)
      (ev_tuple (ds := [.int ((cnt R i : Nat) : Int), .int ((m : Int) - ((cnt R i : Nat) : Int))]) (evs_cons (ev_sub (a := .list (dInts (natI (mvs R)))) (ev_name rfl rfl rfl) (ev_name rfl rfl rfl) list_getitem_lookup (op_getlist (by omega) hmvi (by omega)) (fun _ _ => rfl)) (evs_cons (ev_binop (ev_name rfl rfl rfl) (ev_sub (a := .list (dInts (natI (mvs R)))) (ev_name rfl rfl rfl) (ev_name rfl rfl rfl) list_getitem_lookup (op_getlist (by omega) hmvi (by omega)) (fun _ _ => rfl)) op_sub_int) evs_nil (fun _ => rfl)) (fun _ => rfl)) ⟨by simp, by simp⟩)
      ((op_ne_data rfl rfl rfl rfl rfl).is (c' := .bool false) (by rw [PySem.Spec.same_self]; rfl)) rfl) ex_nil) ?_
    -- columns
    refine ex_cons (exs_assign (d := .list ((List.range m).map fun k => D.int (((rowAt R k).col (i + 1) : Nat) : Int))) (ev_name rfl rfl rfl) (.inr rfl) (fun _ _ => rfl)) ?_
    refine ex_done (SubL.cons rfl (SubL.cons rfl (SubL.cons rfl (SubL.cons rfl (SubL.cons rfl (SubL.cons rfl (SubL.cons rfl (SubL.cons rfl .nil))))))) ?_)
    unfold dInts natI
    rw [List.map_map, List.map_map, ← hRl]
    conv => rhs; rw [rows_eq R]
    rw [List.map_map]; rfl
  rw [show ((List.range (enough R)).map fun (i : Nat) => D.int (i : Int)).length = enough R by simp]
  -- least
  have hmne : 0 < (natI (mvs R)).length := by simp [mvs]
  rw [← hbase]
  refine ex_cons (exs_assign (ev_call_builtin (id := "min") rfl rfl (by kernel_rfl) (by decide) rfl (evs_cons (ev_name rfl rfl rfl) evs_nil (fun _ => rfl)) (ct_min hmne) (fun _ => rfl) (fun _ => rfl)) (.inl rfl) (fun _ _ => rfl)) ?_
  refine ex_pre (σ := (Str.ofString "least", D.int (lmin (natI (mvs R)))) :: base) ?_ (by
    rw [← hbase]
    exact SubL.cons rfl (SubL.cons rfl (SubL.cons rfl (SubL.cons rfl (SubL.cons rfl (SubL.cons rfl (SubL.cons rfl .nil)))))))
  -- the windows
  have hm24 : (natI (mvs R)).length = 24 := by simp [mvs]
  refine ex_cons (exs_for (ds := (List.range 24).map fun (i : Nat) => D.int (i : Int)) (fun _ => (Str.ofString "least", D.int (lmin (natI (mvs R)))) :: base) (fun i => (Str.ofString "start", D.int (i : Int)) :: (Str.ofString "least", D.int (lmin (natI (mvs R)))) :: base) (it_rangeN (n := 24) rfl rfl (by kernel_rfl) rfl ev_int (by decide) (fun _ => rfl)) rfl ?_ ?_ (fun _ _ => rfl)) ?_
  · intro i d hd
    have hi : i < 24 := by have := (List.getElem?_eq_some_iff.mp hd).1; simpa using this
    have : d = .int (i : Int) := by
      rw [List.getElem?_map, List.getElem?_range hi] at hd
      exact (Option.some.inj hd).symm
    subst this
    exact as_name trivial (.inl rfl)
  · intro i d hd
    have hi : i < 24 := by have := (List.getElem?_eq_some_iff.mp hd).1; simpa using this
    rw [← hbase]
    have hse : (i : Int) + ((enough R : Nat) : Int) = ((i + enough R : Nat) : Int) := by omega
    have hpk : dpick (dInts (natI (mvs R)) ++ dInts (natI (mvs R))) (some (i : Int)) (some ((i + enough R : Nat) : Int)) none = dInts (((natI (mvs R) ++ natI (mvs R)).drop i).take (enough R)) := by
      rw [dpick_range _ i (i + enough R) (by omega) (by simp [mvs]; omega), show i + enough R - i = enough R by omega]
      unfold dInts
      rw [List.map_take, List.map_drop, List.map_append]
    have hwne : 0 < (((natI (mvs R) ++ natI (mvs R)).drop i).take (enough R)).length := by
      rw [List.length_take, List.length_drop, List.length_append, hm24]; omega
    refine ex_cons (exs_if_f (ts_cmp (ev_call_builtin (id := "min") rfl rfl (by kernel_rfl) (by decide) rfl (evs_cons ((ev_slice (ev_binop (ev_name rfl rfl rfl) (ev_name rfl rfl rfl) (op_addlist (by simp [mvs]))) (.some (ev_name rfl rfl rfl)) (.some ((ev_binop (ev_name rfl rfl rfl) (ev_name rfl rfl rfl) op_add_int).is (congrArg D.int hse))) .none (by simp) (by simp [mvs])).is (congrArg D.list hpk)) evs_nil (fun _ => rfl)) (ct_min hwne) (fun _ => rfl) (fun _ => rfl))
      (ev_name rfl rfl rfl) (op_ne_int.is (c' := .bool false) (by rw [window_least hR hi]; simp)) rfl) ex_nil) ?_
    exact ex_done (SubL.cons rfl (SubL.cons rfl (SubL.cons rfl (SubL.cons rfl (SubL.cons rfl (SubL.cons rfl (SubL.cons rfl .nil)))))))
  rw [← hbase]
  -- no way alone
  refine ex_cons (exs_if_f ?_ ex_nil) ?_
  · by_cases hl : lmin (natI (mvs R)) = 0
    · exact ts_and_ff (ts_cmp (ev_name rfl rfl rfl) ev_int (op_ne_int.is (c' := .bool false) (by rw [hl]; rfl)) rfl)
    · exact ts_and_t (ts_cmp (ev_name rfl rfl rfl) ev_int (op_ne_int.is (c' := .bool true) (by simp [hl])) rfl) (ts_cmp ev_int (ev_name rfl rfl rfl) (op_in_ints.is (c' := .bool false) (by rw [decide_eq_false (no_lone hR hl)])) rfl)
  -- ways
  have hwy : dInts (natI (wys R)) = (List.range 24).map fun (x : Nat) => D.int (((natI (turnsF R)).count (x : Int) : Nat) : Int) := by
    unfold dInts natI wys
    rw [List.map_map, List.map_map]
    refine List.map_congr_left fun x _ => ?_
    have : ((turnsF R).map Int.ofNat).count (x : Int) = (turnsF R).count x := by
      induction turnsF R with
      | nil => rfl
      | cons a l ih =>
        rw [List.map_cons, List.count_cons, List.count_cons, ih]
        congr 1
        by_cases h : a = x
        · subst h; simp
        · simp [h]; omega
    simp [this]
  refine ex_cons (exs_if_f (ts_cmp (ev_name rfl rfl rfl) ((ev_listcomp (compT_nat (List.range 24) (fun x => (Str.ofString "x", .int (x : Int)) :: [(Str.ofString "turns", .list (dInts (natI (turnsF R))))]) (fun _ => true) (fun x => D.int (((natI (turnsF R)).count (x : Int) : Nat) : Int))
      (by decide +kernel) (fun _ _ => rfl) (it_rangeN (n := 24) rfl rfl (by kernel_rfl) rfl ev_int (by decide) (fun _ => rfl)) (SubS.cons (d := .list (dInts (natI (turnsF R)))) rfl rfl rfl .nil) (fun a ha => as_name (by decide) (.inl rfl)) (fun a ha => tss_nil)
      (fun a ha _ => ev_meth (od := .list (dInts (natI (turnsF R)))) (ev_name rfl rfl rfl) (evs_cons (ev_name rfl rfl rfl) evs_nil (fun _ => rfl)) F.plainAttrs_list F.slot_list_count F.type_list_count ct_count (fun _ => rfl) (fun _ => rfl) rfl (fun _ => rfl) (fun _ => rfl)) (by simp))).is (d' := .list (dInts (natI (wys R)))) (by rw [filter_tt, hwy])) (op_ne_ints.is (c' := .bool false) (by simp)) rfl) ex_nil) ?_
  -- moves
  have hmv : dInts (natI (mvs R)) = ((List.range 24).map (· + 1)).map fun (x : Nat) => D.int ((cnt R (x - 1) : Nat) : Int) := by
    unfold dInts natI mvs
    rw [List.map_map, List.map_map, List.map_map]
    refine List.map_congr_left fun x _ => ?_
    simp
  have hrow : ∀ k, k < m → (R.map rowD)[((k : Nat) : Int).toNat]? = some (rowD (rowAt R k)) := fun k hk => by
    rw [Int.toNat_natCast]; exact rows_get (by omega)
  have hpos : ∀ k, k < m → (rowAt R k).Ok := fun k hk => hR _ (rowAt_mem (by omega))
  refine ex_cons_ret (exs_ret (ev_cmp (ev_name rfl rfl rfl) ((ev_listcomp (compT_nat ((List.range 24).map (· + 1)) (fun x => (Str.ofString "sent", .int (x : Int)) :: (Str.ofString "many", .int (m : Int)) :: [(Str.ofString "rows", .list (R.map rowD))]) (fun _ => true) (fun x => D.int ((cnt R (x - 1) : Nat) : Int))
      (by decide +kernel) (fun _ _ => rfl) ((it_range2 rfl rfl (by kernel_rfl) rfl ev_int ev_int (by decide) (by decide) (by decide) (by decide) (fun _ => rfl)).is (upFrom_one 24)) (SubS.cons (d := .int (m : Int)) rfl rfl rfl (SubS.cons (d := .list (R.map rowD)) rfl rfl rfl .nil)) (fun a ha => as_name (by decide) (.inr rfl)) (fun a ha => tss_nil)
      (fun a ha _ => ?_) (by simp))).is (d' := .list (dInts (natI (mvs R)))) (by rw [filter_tt, hmv])) (op_eq_ints.is (c' := .bool true) (by simp)) rfl))
  obtain ⟨t, ht, rfl⟩ := List.mem_map.mp ha
  refine (ev_call_builtin (id := "len") rfl rfl (by kernel_rfl) (by decide) rfl (evs_cons (ev_listcomp (compT_nat (List.range m) (fun k => (Str.ofString "k", .int (k : Int)) :: (Str.ofString "rows", .list (R.map rowD)) :: [(Str.ofString "sent", .int ((t + 1 : Nat) : Int))])
      (fun k => decide (((rowAt R k).dots + (t + 1)) % (rowAt R k).size = 0)) (fun k => D.int (k : Int))
      (by decide +kernel) (fun _ _ => rfl) (it_rangeN rfl rfl (by kernel_rfl) rfl (ev_name rfl rfl rfl) (by omega) (fun _ => rfl)) (SubS.cons (d := .list (R.map rowD)) rfl rfl rfl (SubS.cons (d := .int ((t + 1 : Nat) : Int)) rfl rfl rfl .nil)) (fun a ha => as_name (by decide) (.inl rfl))
      (fun a ha => tss_one (ts_cmp (ev_binop (ev_binop (ev_sub (a := rowD (rowAt R a)) (ev_sub (a := .list (R.map rowD)) (ev_name rfl rfl rfl) (ev_name rfl rfl rfl) list_getitem_lookup (op_getlist (by omega) (hrow a (List.mem_range.mp ha)) (by have := List.mem_range.mp ha; omega)) (fun _ _ => rfl)) ev_int F.slot_tuple_getitem.lookup (op_gettuple (by decide) rfl (by decide)) (fun _ _ => rfl)) (ev_name rfl rfl rfl) op_add_int)
          (ev_sub (a := rowD (rowAt R a)) (ev_sub (a := .list (R.map rowD)) (ev_name rfl rfl rfl) (ev_name rfl rfl rfl) list_getitem_lookup (op_getlist (by omega) (hrow a (List.mem_range.mp ha)) (by have := List.mem_range.mp ha; omega)) (fun _ _ => rfl)) ev_int F.slot_tuple_getitem.lookup (op_gettuple (by decide) rfl (by decide)) (fun _ _ => rfl)) (op_mod_int (by have := (hpos a (List.mem_range.mp ha)).pos; omega)))
        ev_int (op_eq_int.is (congrArg D.bool ?_)) rfl))
      (fun a ha _ => ev_name rfl rfl rfl) (by simp; omega))) evs_nil (fun _ => rfl)) (ct_len ?_) (fun _ => rfl) (fun _ => rfl)).is ?_
  · rw [Int.fmod_eq_emod_of_nonneg _ (by omega), ← Int.natCast_add, ← Int.natCast_emod, Bool.eq_iff_iff, beq_iff_eq, decide_eq_true_eq]
    exact ⟨fun z => Int.ofNat.inj z, fun z => congrArg Int.ofNat z⟩
  · refine Nat.le_trans (by rw [List.length_map]; exact List.length_filter_le _ _) (by simp; omega)
  · rw [List.length_map, ← hRl, due_len]; rfl
end
end Mine
set_option maxRecDepth 100000
namespace Mine
theorem repL_ints' {C : Cx} {ok : Addr → Prop} {h : Heap} {vs : List Value} {ns : List Int} (x : IntsAre vs ns) : RepL C ok h (dInts ns) vs := repL_ints x
theorem all1 : PySem.Challenge.rw_pu0054_01.Holds := hd (by
  k_fill
  intro w s₀ s₁ mg mb G Y fa o pm cd doc dV kV ho hd hcd hD hmg hg args vals as hpre hlay hrd hwl hlo
  have KX := km_in_of Y
  km_tabs Y
  have X := (Ground.X G).1
  have V := (Ground.X G).2
  refine Ground.open G ?_
  intro T B D TE TW
  wrow_args hpre hlay hrd hwl hlo
  rename_i ns _ _ _ _ _ _ _ a vs _ hL _ hW _ hI _ hlen _
  have g : Mine.G (C1 w mg mb) s₁.heap := by
    refine ⟨KX, nt1 w mg mb, T.g, T.b, T.builtins, T.nolimit, T.bmain, ?_⟩
    intro q hq
    simp only [C1, List.mem_cons, List.not_mem_nil, or_false] at hq
    rcases hq with rfl | rfl
    · have hP := hT8 54 (by decide)
      exact ⟨#[], ⟨_, _, _, _, _, _, _, _, _, _, KX 58 _ rfl, rfl, rfl, rfl, rfl, rfl, rfl, hP, rfl, trivial, by decide⟩, ⟨⟨_, _, KX 58 _ rfl, rfl, rfl, rfl⟩, hP⟩, .inl rfl⟩
    · have hP := hT8 61 (by decide)
      exact ⟨#[], ⟨_, _, _, _, _, _, _, _, _, _, KX 65 _ rfl, rfl, rfl, rfl, rfl, rfl, rfl, hP, rfl, trivial, by decide⟩, ⟨⟨_, _, KX 65 _ rfl, rfl, rfl, rfl⟩, hP⟩, .inl rfl⟩
  have hfa : fa = 182 := by
    have h1 : mg (Str.ofString "law") = some (.ref 182) := mg_of KX T.g rfl
    have h2 : mg (Str.ofString "law") = some (.ref fa) := hmg
    rw [h1] at h2
    cases h2; rfl
  subst hfa
  cases hW with
  | list hobj _ =>
    obtain ⟨o', e', hc', n', hd'⟩ := hL
    rw [hobj] at e'
    cases e'
    injection hd' with hd1 _
    have hvv := List.toArray_inj hd1
    refine law_run (w := w) (mg := mg) (mb := mb) (ns := ns) (by omega) (ok := every) callerA s₁ _ _ _ (fun _ _ => trivial) ?_ g (.cons (.list trivial hobj (by rw [List.toList_toArray, hvv]; exact repL_ints' hI)) .nil) ?_
    · exact ⟨by decide, by decide, rfl⟩
    · intro v h' tk e r
      cases r
      refine ⟨.inl ⟨.bool true, .bool true, [], rfl, fun _ => rfl, .bool true, ?_, ?_⟩, oldK_ext g e, rfl, ?_⟩
      · wrow_post
      · exact fun _ => ⟨List.nodup_nil, fun _ h => by cases h⟩
      · rw [show ({ s₁ with heap := h', toks := tk } : Shared).gens = s₁.gens from rfl, hg]; exact AllBare.empty)
end Mine
set_option maxRecDepth 100000 in
theorem PySem.Challenge.cw_pu0054_01_holds : PySem.Challenge.rw_pu0054_01.Holds := by
  exact Mine.all1
