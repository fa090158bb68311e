import PyProof.Rows.All
import Wide.All
import OpenK.AllK
import Wide.FinOn
import PySem.Challenge.RW_mr0354_01
set_option Elab.async false
set_option linter.unusedVariables false
set_option linter.unusedSimpArgs false
set_option maxRecDepth 100000
namespace Mine
open PySem PySem.W PyProof.Rows
inductive V where
  | none
  | bool (b : Bool)
  | int (i : Int)
  | str (l : List Nat)
  | tup (vs : List V)
  | lst (vs : List V)
  | obj (C : Addr) (fs : List (Nat × V))
  | ref (a : Addr)
  | fn (x : Value)
  | rng (lo hi : Int)
  | vals (a : Addr)
  | nxt (a : Addr)
inductive O where
  | lst (vs : List V)
  | dict (es : List (Int × V)) (ep : Nat)
  | inst (C : Addr) (d : Addr)
  | ns (fs : List (Nat × V))
  | sl (C : Addr) (vs : List (Option V))
  | it (l : Addr) (k : Nat)
  | set (xs : List Int)
  | fld
noncomputable abbrev Hp := Addr → Option O
noncomputable abbrev Loc := Nat → Option V
noncomputable def upd {α : Type} (f : Nat → Option α) (i : Nat) (v : α) : Nat → Option α := fun j => if j = i then some v else f j
noncomputable def del {α : Type} (f : Nat → Option α) (i : Nat) : Nat → Option α := fun j => if j = i then Option.none else f j
@[simp] theorem upd_same {α : Type} (f : Nat → Option α) (i : Nat) (v : α) : upd f i v i = some v := by simp [upd]
theorem upd_ne {α : Type} {f : Nat → Option α} {i j : Nat} {v : α} (h : j ≠ i) : upd f i v j = f j := by simp [upd, h]
@[simp] theorem del_same {α : Type} (f : Nat → Option α) (i : Nat) : del f i i = Option.none := by simp [del]
theorem del_ne {α : Type} {f : Nat → Option α} {i j : Nat} (h : j ≠ i) : del f i j = f j := by simp [del, h]
noncomputable def NsP (h : Heap) (d : Addr) (m : Str → Option Value) (c : Nat) : Prop :=
  ∃ es n, h.get? d = some { cls := .type "dict", data := .dict es n } ∧ es.size ≤ c ∧ StrKeys es ∧ ∀ name, nsFind es name = m name
noncomputable def TupP (h : Heap) (a : Addr) (xs : Array Value) : Prop := ∃ n, h.get? a = some { cls := .type "tuple", data := .seq xs n }
section
variable (nm : Nat → Str)
mutual
noncomputable def VR (F : Addr → Prop) (h : Heap) : V → Value → Prop
  | .none, x => x = .none
  | .bool b, x => x = .bool b
  | .int i, x => ∃ t, x = .int i t
  | .str l, x => ∃ t, x = .str ⟨l.toArray⟩ t
  | .tup vs, x => ∃ a xs, x = .ref a ∧ F a ∧ TupP h a xs ∧ VRs F h vs xs.toList
  | .lst vs, x => ∃ a xs, x = .ref a ∧ F a ∧ h.PlainList a xs ∧ VRs F h vs xs.toList
  | .obj C fs, x => ∃ a d m, x = .ref a ∧ F a ∧ F d ∧ h.get? a = some { cls := .ref C, dict := some d } ∧ NsP h d m fs.length ∧ VRf F h fs m ∧ ∀ n y, m n = some y → ∃ p ∈ fs, nm p.1 = n
  | .ref a, x => x = .ref a
  | .fn y, x => x = y
  | .rng lo hi, x => ∃ a t u v, x = .ref a ∧ F a ∧ IsRange h a lo hi 1 t u v
  | .vals d, x => ∃ a, x = .ref a ∧ F a ∧ h.get? a = some { cls := .type "dict_values", data := .fields #[.ref d] }
  | .nxt i, x => ∃ a, x = .ref a ∧ F a ∧ h.get? a = some { cls := .type "method-wrapper", data := .fields #[.builtin "list_iterator.__next__", .ref i] }
noncomputable def VRs (F : Addr → Prop) (h : Heap) : List V → List Value → Prop
  | [], xs => xs = []
  | v :: vs, xs => ∃ y ys, xs = y :: ys ∧ VR F h v y ∧ VRs F h vs ys
noncomputable def VRf (F : Addr → Prop) (h : Heap) : List (Nat × V) → (Str → Option Value) → Prop
  | [], _ => True
  | (i, v) :: fs, m => (∃ y, m (nm i) = some y ∧ VR F h v y) ∧ VRf F h fs m
end
noncomputable def SR (F : Addr → Prop) (h : Heap) : List (Option V) → List (Option Value) → Prop
  | [], xs => xs = []
  | v :: vs, xs => ∃ y ys, xs = y :: ys ∧ (match v, y with | .none, .none => True | some v, some y => VR nm F h v y | _, _ => False) ∧ SR F h vs ys
noncomputable def ER (F : Addr → Prop) (h : Heap) : List (Int × V) → List (Int × Value) → Prop
  | [], xs => xs = []
  | (k, v) :: es, xs => ∃ y ys, xs = (k, y) :: ys ∧ VR nm F h v y ∧ ER F h es ys
theorem VRe : (∀ (nm : Nat → Str) F h x, VR nm F h .none x = (x = .none)) ∧ (∀ (nm : Nat → Str) F h x b, VR nm F h (.bool b) x = (x = .bool b)) ∧ (∀ (nm : Nat → Str) F h x i, VR nm F h (.int i) x = ∃ t, x = .int i t) ∧ (∀ (nm : Nat → Str) F h x l, VR nm F h (.str l) x = ∃ t, x = .str ⟨l.toArray⟩ t)
  ∧ (∀ (nm : Nat → Str) F h x vs, VR nm F h (.tup vs) x = ∃ a xs, x = .ref a ∧ F a ∧ TupP h a xs ∧ VRs nm F h vs xs.toList) ∧ (∀ (nm : Nat → Str) F h x vs, VR nm F h (.lst vs) x = ∃ a xs, x = .ref a ∧ F a ∧ h.PlainList a xs ∧ VRs nm F h vs xs.toList)
  ∧ (∀ (nm : Nat → Str) F h x C fs, VR nm F h (.obj C fs) x = ∃ a d m, x = .ref a ∧ F a ∧ F d ∧ h.get? a = some { cls := .ref C, dict := some d } ∧ NsP h d m fs.length ∧ VRf nm F h fs m ∧ ∀ n y, m n = some y → ∃ p ∈ fs, nm p.1 = n)
  ∧ (∀ (nm : Nat → Str) F h x a, VR nm F h (.ref a) x = (x = .ref a)) ∧ (∀ (nm : Nat → Str) F h x y, VR nm F h (.fn y) x = (x = y)) ∧ (∀ (nm : Nat → Str) F h x lo hi, VR nm F h (.rng lo hi) x = ∃ a t u v, x = .ref a ∧ F a ∧ IsRange h a lo hi 1 t u v)
  ∧ (∀ (nm : Nat → Str) F h x d, VR nm F h (.vals d) x = ∃ a, x = .ref a ∧ F a ∧ h.get? a = some { cls := .type "dict_values", data := .fields #[.ref d] })
  ∧ ∀ (nm : Nat → Str) F h x i, VR nm F h (.nxt i) x = ∃ a, x = .ref a ∧ F a ∧ h.get? a = some { cls := .type "method-wrapper", data := .fields #[.builtin "list_iterator.__next__", .ref i] } :=
  ⟨fun _ _ _ _ => rfl, fun _ _ _ _ _ => rfl, fun _ _ _ _ _ => rfl, fun _ _ _ _ _ => rfl, fun _ _ _ _ _ => rfl, fun _ _ _ _ _ => rfl, fun _ _ _ _ _ _ => rfl, fun _ _ _ _ _ => rfl, fun _ _ _ _ _ => rfl, fun _ _ _ _ _ _ => rfl, fun _ _ _ _ _ => rfl, fun _ _ _ _ _ => rfl⟩
theorem VRse : (∀ (nm : Nat → Str) F h xs, VRs nm F h [] xs = (xs = [])) ∧ ∀ (nm : Nat → Str) F h v vs xs, VRs nm F h (v :: vs) xs = ∃ y ys, xs = y :: ys ∧ VR nm F h v y ∧ VRs nm F h vs ys := ⟨fun _ _ _ _ => rfl, fun _ _ _ _ _ _ => rfl⟩
theorem VRfe : (∀ (nm : Nat → Str) F h m, VRf nm F h [] m = True) ∧ ∀ (nm : Nat → Str) F h i v fs m, VRf nm F h ((i, v) :: fs) m = ((∃ y, m (nm i) = some y ∧ VR nm F h v y) ∧ VRf nm F h fs m) := ⟨fun _ _ _ _ => rfl, fun _ _ _ _ _ _ _ => rfl⟩
theorem SRe : (∀ (nm : Nat → Str) F h xs, SR nm F h [] xs = (xs = [])) ∧ ∀ (nm : Nat → Str) F h v vs xs, SR nm F h (v :: vs) xs = ∃ y ys, xs = y :: ys ∧ (match v, y with | .none, .none => True | some v, some y => VR nm F h v y | _, _ => False) ∧ SR nm F h vs ys := ⟨fun _ _ _ _ => rfl, fun _ _ _ _ _ _ => rfl⟩
theorem ERe : (∀ (nm : Nat → Str) F h xs, ER nm F h [] xs = (xs = [])) ∧ ∀ (nm : Nat → Str) F h k v es xs, ER nm F h ((k, v) :: es) xs = ∃ y ys, xs = (k, y) :: ys ∧ VR nm F h v y ∧ ER nm F h es ys := ⟨fun _ _ _ _ => rfl, fun _ _ _ _ _ _ _ => rfl⟩
variable (prog : Program) (w : World)
noncomputable def OR (F : Addr → Prop) (h : Heap) (a : Addr) : O → Prop
  | .lst vs => ∃ xs, h.PlainList a xs ∧ VRs nm F h vs xs.toList
  | .dict es ep => ∃ kvs, h.DictAt (intKind prog w) a kvs ep ∧ ER nm F h es kvs
  | .inst C d => h.get? a = some { cls := .ref C, dict := some d }
  | .ns fs => ∃ m, NsP h a m fs.length ∧ VRf nm F h fs m ∧ ∀ n y, m n = some y → ∃ p ∈ fs, nm p.1 = n
  | .sl C vs => ∃ xs d od, h.get? a = some { cls := .ref C, dict := some d, slots := xs } ∧ F d ∧ h.get? d = some od ∧ SR nm F h vs xs.toList
  | .it l k => h.IsListIter a l k ∧ ∃ o, h.get? a = some o ∧ o.dict = none
  | .set xs => h.SetOf (intKind prog w) a (fun k => decide (k ∈ xs)) xs.length
  | .fld => ∃ o vs, h.get? a = some o ∧ o.data = .fields vs
end
section
variable {nm : Nat → Str}
noncomputable def Keepy (F F' : Addr → Prop) (h h' : Heap) : Prop := ∀ a o, F a → h.get? a = some o → F' a ∧ h'.get? a = some o
theorem NsP.keep {F F' h h' d m c} (k : Keepy F F' h h') (hf : F d) (x : NsP h d m c) : F' d ∧ NsP h' d m c :=
  (by obtain ⟨es, n, e, r⟩ := x; exact ⟨(k _ _ hf e).1, es, n, (k _ _ hf e).2, r⟩)
theorem TupP.keep {F F' h h' d m} (k : Keepy F F' h h') (hf : F d) (x : TupP h d m) : F' d ∧ TupP h' d m :=
  (by obtain ⟨n, e⟩ := x; exact ⟨(k _ _ hf e).1, n, (k _ _ hf e).2⟩)
theorem plain_keep {F F' : Addr → Prop} {h h' : Heap} {d : Addr} {m} (k : Keepy F F' h h') (hf : F d) (x : h.PlainList d m) : F' d ∧ h'.PlainList d m :=
  (by obtain ⟨n, e⟩ := x; exact ⟨(k _ _ hf e).1, n, (k _ _ hf e).2⟩)
mutual
theorem VR.keep {F F' : Addr → Prop} {h h' : Heap} (k : Keepy F F' h h') : ∀ {v : V} {x : Value}, VR nm F h v x → VR nm F' h' v x
  | .none, _, r => by simpa only [VRe] using r
  | .bool _, _, r => by simpa only [VRe] using r
  | .int _, _, r => by simpa only [VRe] using r
  | .str _, _, r => by simpa only [VRe] using r
  | .tup vs, x, r => by
    simp only [VRe] at r ⊢
    obtain ⟨a, xs, e, f, t, q⟩ := r
    exact ⟨a, xs, e, (t.keep k f).1, (t.keep k f).2, VRs.keep k q⟩
  | .lst vs, x, r => by
    simp only [VRe] at r ⊢
    obtain ⟨a, xs, e, f, t, q⟩ := r
    exact ⟨a, xs, e, (plain_keep k f t).1, (plain_keep k f t).2, VRs.keep k q⟩
  | .obj C fs, x, r => by
    simp only [VRe] at r ⊢
    obtain ⟨a, d, m, e, f, g, t, u, q, z⟩ := r
    exact ⟨a, d, m, e, (k _ _ f t).1, (u.keep k g).1, (k _ _ f t).2, (u.keep k g).2, VRf.keep k q, z⟩
  | .ref _, _, r => by simpa only [VRe] using r
  | .fn _, _, r => by simpa only [VRe] using r
  | .rng lo hi, _, r => by
    simp only [VRe] at r ⊢
    obtain ⟨a, t, u, v, e, f, g⟩ := r
    exact ⟨a, t, u, v, e, (k _ _ f g).1, (k _ _ f g).2⟩
  | .vals d, _, r => by
    simp only [VRe] at r ⊢
    obtain ⟨a, e, f, g⟩ := r
    exact ⟨a, e, (k _ _ f g).1, (k _ _ f g).2⟩
  | .nxt d, _, r => by
    simp only [VRe] at r ⊢
    obtain ⟨a, e, f, g⟩ := r
    exact ⟨a, e, (k _ _ f g).1, (k _ _ f g).2⟩
theorem VRs.keep {F F' : Addr → Prop} {h h' : Heap} (k : Keepy F F' h h') : ∀ {vs : List V} {xs : List Value}, VRs nm F h vs xs → VRs nm F' h' vs xs
  | [], _, r => by simpa only [VRse] using r
  | v :: vs, xs, r => by
    simp only [VRse] at r ⊢
    obtain ⟨y, ys, e, p, q⟩ := r
    exact ⟨y, ys, e, VR.keep k p, VRs.keep k q⟩
theorem VRf.keep {F F' : Addr → Prop} {h h' : Heap} (k : Keepy F F' h h') : ∀ {fs : List (Nat × V)} {m : Str → Option Value}, VRf nm F h fs m → VRf nm F' h' fs m
  | [], _, _ => by simp only [VRfe]
  | (i, v) :: fs, m, r => by
    simp only [VRfe] at r ⊢
    obtain ⟨⟨y, e, p⟩, q⟩ := r
    exact ⟨⟨y, e, VR.keep k p⟩, VRf.keep k q⟩
end
theorem SR.keep {F F' : Addr → Prop} {h h' : Heap} (k : Keepy F F' h h') : ∀ {vs : List (Option V)} {xs : List (Option Value)}, SR nm F h vs xs → SR nm F' h' vs xs
  | [], _, r => by simpa only [SRe] using r
  | v :: vs, xs, r => by
    simp only [SRe] at r ⊢
    obtain ⟨y, ys, e, p, q⟩ := r
    refine ⟨y, ys, e, ?_, SR.keep k q⟩
    cases v <;> cases y <;> simp_all
    exact p.keep k
theorem ER.keep {F F' : Addr → Prop} {h h' : Heap} (k : Keepy F F' h h') : ∀ {vs : List (Int × V)} {xs : List (Int × Value)}, ER nm F h vs xs → ER nm F' h' vs xs
  | [], _, r => by simpa only [ERe] using r
  | (i, v) :: vs, xs, r => by
    simp only [ERe] at r ⊢
    obtain ⟨y, ys, e, p, q⟩ := r
    exact ⟨y, ys, e, p.keep k, ER.keep k q⟩
theorem OR.keep {prog : Program} {w : World} {F F' : Addr → Prop} {h h' : Heap} (k : Keepy F F' h h') {a : Addr} (ha : ∀ o, h.get? a = some o → h'.get? a = some o) : ∀ {o : O}, OR nm prog w F h a o → OR nm prog w F' h' a o
  | .lst vs, r => by
    obtain ⟨xs, p, q⟩ := r
    exact ⟨xs, p.at ha, q.keep k⟩
  | .dict es ep, r => by
    obtain ⟨xs, ⟨o, es', g, p⟩, q⟩ := r
    exact ⟨xs, ⟨o, es', ha _ g, p⟩, q.keep k⟩
  | .inst C d, r => ha _ r
  | .ns fs, r => by
    obtain ⟨m, ⟨es, n, e, p⟩, q, z⟩ := r
    exact ⟨m, ⟨es, n, ha _ e, p⟩, q.keep k, z⟩
  | .sl C vs, r => by
    obtain ⟨xs, d, od, p, f, g, q⟩ := r
    exact ⟨xs, d, od, ha _ p, (k _ _ f g).1, (k _ _ f g).2, q.keep k⟩
  | .it l k', r => by
    obtain ⟨⟨o, p, q⟩, o', p', q'⟩ := r
    exact ⟨⟨o, ha _ p, q⟩, o', ha _ p', q'⟩
  | .set xs, r => by
    obtain ⟨o, es, ep, t, p, q⟩ := r
    exact ⟨o, es, ep, t, ha _ p, q⟩
  | .fld, r => by
    obtain ⟨o, vs, p, q⟩ := r
    exact ⟨o, vs, ha _ p, q⟩
end
end Mine
namespace Mine
open PySem PySem.W PyProof.Rows
noncomputable def Fz (stk : Addr → Prop) (hp : Hp) (a : Addr) : Prop := hp a = Option.none ∧ ¬ stk a
structure Par where
  nm : Nat → Str
  prog : Program
  w : World
  H₀ : Heap
  K : Frag
variable (P : Par)
noncomputable abbrev Par.VR (P : Par) (stk : Addr → Prop) (hp : Hp) (h : Heap) : V → Value → Prop := Mine.VR P.nm (Fz stk hp) h
noncomputable abbrev Par.VRs (P : Par) (stk : Addr → Prop) (hp : Hp) (h : Heap) : List V → List Value → Prop := Mine.VRs P.nm (Fz stk hp) h
noncomputable abbrev Par.M (P : Par) : Model := model P.prog P.w
structure HeapOk (stk : Addr → Prop) (hp : Hp) (s : Shared) : Prop where
  obj : ∀ a o, hp a = some o → OR P.nm P.prog P.w (Fz stk hp) s.heap a o
  apart : ∀ a, hp a ≠ Option.none → ¬ stk a
  base : ∀ b o, P.H₀.get? b = some o → s.heap.get? b = some o
  new : ∀ a, hp a ≠ Option.none → P.H₀.get? a = Option.none
  stkn : ∀ a, stk a → P.H₀.get? a = Option.none
  stkl : ∀ a, stk a → ∃ o, s.heap.get? a = some o
  gens : s.gens = #[]
noncomputable def isD (o : Obj) : Prop := ∃ es n, o.data = .dict es n
structure Ext (own stk : Addr → Prop) (hp : Hp) (s : Shared) (hp' : Hp) (s' : Shared) : Prop where
  keep : ∀ b o, hp b = Option.none → ¬ own b → s.heap.get? b = some o → s'.heap.get? b = some o ∨ (stk b ∧ isD o ∧ ∃ sl, s'.heap.get? b = some { o with slots := sl })
  there : ∀ b o, s.heap.get? b = some o → ∃ o', s'.heap.get? b = some o'
  dic : ∀ b o, stk b → s.heap.get? b = some o → isD o → ∃ o', s'.heap.get? b = some o' ∧ isD o'
  fresh : ∀ b, hp b = Option.none → hp' b ≠ Option.none → s.heap.get? b = Option.none
  drawn : s'.drawn = s.drawn
  os : s'.os = s.os
noncomputable def no1 : Addr → Prop := fun _ => False
theorem Ext.refl (own stk : Addr → Prop) (hp : Hp) (s : Shared) : Ext own stk hp s hp s := ⟨fun _ _ _ _ e => .inl e, fun _ o e => ⟨o, e⟩, fun _ o _ e d => ⟨o, e, d⟩, fun _ a b => absurd a b, rfl, rfl⟩
theorem Ext.same {own stk : Addr → Prop} {hp hp1 : Hp} {s s1 : Shared} (x : Ext own stk hp s hp1 s1) {b : Addr} {o : Obj} (e : hp b = Option.none) (n : ¬ own b) (h : ¬ stk b ∨ ¬ isD o) (g : s.heap.get? b = some o) : s1.heap.get? b = some o := by
  rcases x.keep b o e n g with q | ⟨q1, q2, _⟩
  · exact q
  · rcases h with h | h
    · exact absurd q1 h
    · exact absurd q2 h
theorem Ext.trans {own stk : Addr → Prop} {hp hp1 hp2 : Hp} {s s1 s2 : Shared} (x : Ext own stk hp s hp1 s1) (y : Ext own stk hp1 s1 hp2 s2) : Ext own stk hp s hp2 s2 := by
  refine ⟨fun b o e n g => ?_, fun b o g => ?_, fun b o st g d => ?_, fun b e n => ?_, y.drawn.trans x.drawn, y.os.trans x.os⟩
  · have h1 : hp1 b = Option.none := by
      cases q : hp1 b with
      | none => rfl
      | some v => have := x.fresh b e (by rw [q]; intro z; cases z); rw [g] at this; cases this
    rcases x.keep b o e n g with g1 | ⟨st, d, sl, g1⟩
    · exact y.keep b o h1 n g1
    · rcases y.keep b _ h1 n g1 with g2 | ⟨_, _, sl2, g2⟩
      · exact .inr ⟨st, d, sl, g2⟩
      · exact .inr ⟨st, d, sl2, g2⟩
  · obtain ⟨o', g'⟩ := x.there b o g
    exact y.there b o' g'
  · obtain ⟨o', g', d'⟩ := x.dic b o st g d
    exact y.dic b o' st g' d'
  · cases q : hp1 b with
    | none =>
      have := y.fresh b q n
      cases g : s.heap.get? b with
      | none => rfl
      | some o => obtain ⟨o', g'⟩ := x.there b o g; rw [this] at g'; cases g'
    | some v => exact x.fresh b e (by rw [q]; intro z; cases z)
theorem Ext.wider {own own' stk : Addr → Prop} {hp hp1 : Hp} {s s1 : Shared} (x : Ext own stk hp s hp1 s1) (k : ∀ b, own b → own' b) : Ext own' stk hp s hp1 s1 :=
  ⟨fun b o e n g => x.keep b o e (fun z => n (k b z)) g, x.there, x.dic, x.fresh, x.drawn, x.os⟩
theorem Ext.of1 {own stk : Addr → Prop} {hp hp1 : Hp} {s s1 : Shared} (x : Ext no1 stk hp s hp1 s1) : Ext own stk hp s hp1 s1 := x.wider fun _ z => z.elim
theorem Ext.exact {own stk : Addr → Prop} {hp hp1 : Hp} {s s1 : Shared} (k : ∀ b o, hp b = Option.none → ¬ own b → s.heap.get? b = some o → s1.heap.get? b = some o) (th : ∀ b o, s.heap.get? b = some o → ∃ o', s1.heap.get? b = some o')
    (dc : ∀ b o, stk b → s.heap.get? b = some o → isD o → ∃ o', s1.heap.get? b = some o' ∧ isD o') (fr : ∀ b, hp b = Option.none → hp1 b ≠ Option.none → s.heap.get? b = Option.none) (hd : s1.drawn = s.drawn) (ho : s1.os = s.os) : Ext own stk hp s hp1 s1 :=
  ⟨fun b o e n g => .inl (k b o e n g), th, dc, fr, hd, ho⟩
theorem Ext.keepy {own stk : Addr → Prop} {hp hp1 : Hp} {s s1 : Shared} (x : Ext own stk hp s hp1 s1) (k : ∀ b, own b → stk b) : Keepy (Fz stk hp) (Fz stk hp1) s.heap s1.heap := by
  rintro a o ⟨e, n⟩ g
  refine ⟨⟨?_, n⟩, x.same e (fun z => n (k a z)) (.inl n) g⟩
  cases q : hp1 a with
  | none => rfl
  | some v => have := x.fresh a e (by rw [q]; intro z; cases z); rw [g] at this; cases this
inductive PostT {α : Type} (own stk : Addr → Prop) (hp : Hp) (s : Shared) (Q : α → Hp → Shared → Prop) (x : α) (s' : Shared) : Prop
  | intro (hp' : Hp) (e : Ext own stk hp s hp' s') (ok : HeapOk P stk hp' s') (q : Q x hp' s') : PostT own stk hp s Q x s'
theorem PostT.back {α : Type} {own stk : Addr → Prop} {hp hp1 : Hp} {s s1 : Shared} {Q : α → Hp → Shared → Prop} (e : Ext own stk hp s hp1 s1) {x : α} {s' : Shared} (h : PostT P own stk hp1 s1 Q x s') : PostT P own stk hp s Q x s' :=
  (by obtain ⟨hp', e', ok, q⟩ := h; exact ⟨hp', e.trans e', ok, q⟩)
noncomputable abbrev XP := Value → Hp → Shared → Prop
noncomputable def T {α : Type} (own stk : Addr → Prop) (A : Around) (t : Sem α) (hp : Hp) (s : Shared) (Q : α → Hp → Shared → Prop) (X : XP) : Prop :=
  wpAny P.M A t (PostT P own stk hp s Q) (PostT P own stk hp s X) s
variable {P}
section
variable {α β : Type} {own stk : Addr → Prop} {A : Around} {hp : Hp} {s : Shared} {X : XP}
theorem T.thn {t : Sem α} {Q : α → Hp → Shared → Prop} {G : α → Shared → Prop} (h : T P own stk A t hp s Q X) (k : ∀ a hp1 s1, Ext own stk hp s hp1 s1 → HeapOk P stk hp1 s1 → Q a hp1 s1 → G a s1) :
    wpAny P.M A t G (PostT P own stk hp s X) s :=
  wpAny_mono h (by rintro a s1 ⟨hp1, e, ok, q⟩; exact k a hp1 s1 e ok q) fun _ _ z => z
theorem T.nxt {t : Sem β} {Q : β → Hp → Shared → Prop} {hp1 : Hp} {s1 : Shared} (e : Ext own stk hp s hp1 s1) (h : T P own stk A t hp1 s1 Q X) : wpAny P.M A t (PostT P own stk hp s Q) (PostT P own stk hp s X) s1 :=
  wpAny_mono h (fun _ _ z => z.back P e) fun _ _ z => z.back P e
theorem Ext.toks (n : Nat) : Ext own stk hp s hp { s with toks := n } := .exact (fun _ _ _ _ e => e) (fun _ o e => ⟨o, e⟩) (fun _ o _ e d => ⟨o, e, d⟩) (fun _ a b => absurd a b) rfl rfl
theorem HeapOk.toks (ok : HeapOk P stk hp s) (n : Nat) : HeapOk P stk hp { s with toks := n } := ⟨ok.obj, ok.apart, ok.base, ok.new, ok.stkn, ok.stkl, ok.gens⟩
end
theorem Ext.grow {own stk : Addr → Prop} {hp : Hp} {s : Shared} {h' : Heap} {tk : Nat} (k : ∀ b o, s.heap.get? b = some o → h'.get? b = some o) : Ext own stk hp s hp { s with heap := h', toks := tk } :=
  .exact (fun b o _ _ e => k b o e) (fun b o e => ⟨o, k b o e⟩) (fun b o _ e d => ⟨o, k b o e, d⟩) (fun _ a b => absurd a b) rfl rfl
theorem HeapOk.grow {stk : Addr → Prop} {hp : Hp} {s : Shared} (ok : HeapOk P stk hp s) {h' : Heap} {tk : Nat} (k : ∀ b o, s.heap.get? b = some o → h'.get? b = some o) : HeapOk P stk hp { s with heap := h', toks := tk } :=
  ⟨fun a o e => (ok.obj a o e).keep (fun a o f g => ⟨f, k a o g⟩) (fun o g => k a o g), ok.apart, fun b o e => k b o (ok.base b o e), ok.new, ok.stkn, fun a z => (by obtain ⟨o, e⟩ := ok.stkl a z; exact ⟨o, k a o e⟩), ok.gens⟩
theorem fz_of_new {stk : Addr → Prop} {hp : Hp} {s : Shared} (ok : HeapOk P stk hp s) {a : Addr} (h : s.heap.get? a = Option.none) : Fz stk hp a := by
  refine ⟨?_, fun z => ?_⟩
  · cases q : hp a with
    | none => rfl
    | some o =>
      have := ok.obj a o q
      exfalso
      cases o with
      | lst vs => obtain ⟨xs, ⟨n, e⟩, _⟩ := this; rw [h] at e; cases e
      | dict vs ep => obtain ⟨xs, ⟨o, es, e, _⟩, _⟩ := this; rw [h] at e; cases e
      | inst C d => rw [show s.heap.get? a = some _ from this] at h; cases h
      | ns fs => obtain ⟨m, ⟨es, n, e, _⟩, _⟩ := this; rw [h] at e; cases e
      | sl C vs => obtain ⟨xs, d, od, e, _⟩ := this; rw [h] at e; cases e
      | it l k => obtain ⟨⟨o, e, _⟩, _⟩ := this; rw [h] at e; cases e
      | set _ => obtain ⟨o, es, ep, t, e, _⟩ := this; rw [h] at e; cases e
      | fld => obtain ⟨o, vs, e, _⟩ := this; rw [h] at e; cases e
  · obtain ⟨o, e⟩ := ok.stkl a z
    rw [h] at e; cases e
theorem HeapOk.track {stk : Addr → Prop} {hp : Hp} {s : Shared} (ok : HeapOk P stk hp s) {h' : Heap} {tk : Nat} {a : Addr} {o : O} (k : ∀ b o, s.heap.get? b = some o → h'.get? b = some o) (hn : s.heap.get? a = Option.none)
    (ho : OR P.nm P.prog P.w (Fz stk (upd hp a o)) h' a o) : HeapOk P stk (upd hp a o) { s with heap := h', toks := tk } := by
  have fz := fz_of_new ok hn
  have ky : Keepy (Fz stk hp) (Fz stk (upd hp a o)) s.heap h' := by
    rintro b ob ⟨e, n⟩ g
    have : b ≠ a := by rintro rfl; rw [hn] at g; cases g
    exact ⟨⟨by rw [upd_ne this]; exact e, n⟩, k b ob g⟩
  refine ⟨fun b ob e => ?_, fun b e => ?_, fun b ob e => k b ob (ok.base b ob e), fun b e => ?_, ok.stkn, fun b z => (by obtain ⟨o, e⟩ := ok.stkl b z; exact ⟨o, k b o e⟩), ok.gens⟩
  · by_cases q : b = a
    · subst q; rw [upd_same] at e; cases e; exact ho
    · rw [upd_ne q] at e
      exact (ok.obj b ob e).keep ky (fun o g => k b o g)
  · by_cases q : b = a
    · subst q; exact fz.2
    · rw [upd_ne q] at e; exact ok.apart b e
  · by_cases q : b = a
    · subst q
      cases g : P.H₀.get? b with
      | none => rfl
      | some o' => have := ok.base b o' g; rw [hn] at this; cases this
    · rw [upd_ne q] at e; exact ok.new b e
theorem Ext.track {own stk : Addr → Prop} {hp : Hp} {s : Shared} {h' : Heap} {tk : Nat} {a : Addr} {o : O} (k : ∀ b o, s.heap.get? b = some o → h'.get? b = some o) (hn : s.heap.get? a = Option.none) : Ext own stk hp s (upd hp a o) { s with heap := h', toks := tk } := by
  refine .exact (fun b o _ _ e => k b o e) (fun b o e => ⟨o, k b o e⟩) (fun b o _ e d => ⟨o, k b o e, d⟩) (fun b e n => ?_) rfl rfl
  by_cases q : b = a
  · subst q; exact hn
  · rw [upd_ne q] at n; exact absurd e n
theorem HeapOk.change {stk : Addr → Prop} {hp : Hp} {s : Shared} (ok : HeapOk P stk hp s) {h' : Heap} {tk : Nat} {a : Addr} {o₀ o : O} (ha : hp a = some o₀) (hs : Heap.SameBut a s.heap h')
    (ho : OR P.nm P.prog P.w (Fz stk (upd hp a o)) h' a o) : HeapOk P stk (upd hp a o) { s with heap := h', toks := tk } := by
  have ha' : hp a ≠ Option.none := by rw [ha]; intro z; cases z
  have ky : Keepy (Fz stk hp) (Fz stk (upd hp a o)) s.heap h' := by
    rintro b ob ⟨e, n⟩ g
    have : b ≠ a := by rintro rfl; exact ha' e
    exact ⟨⟨by rw [upd_ne this]; exact e, n⟩, (hs.2 b this).trans g⟩
  refine ⟨fun b ob e => ?_, fun b e => ?_, fun b ob e => ?_, fun b e => ?_, ok.stkn, fun b z => ?_, ok.gens⟩
  · by_cases q : b = a
    · subst q; rw [upd_same] at e; cases e; exact ho
    · rw [upd_ne q] at e
      exact (ok.obj b ob e).keep ky (fun o g => (hs.2 b q).trans g)
  · by_cases q : b = a
    · subst q; exact ok.apart b ha'
    · rw [upd_ne q] at e; exact ok.apart b e
  · have : b ≠ a := by rintro rfl; rw [ok.new b ha'] at e; cases e
    exact (hs.2 b this).trans (ok.base b ob e)
  · by_cases q : b = a
    · subst q; exact ok.new b ha'
    · rw [upd_ne q] at e; exact ok.new b e
  · have : b ≠ a := by rintro rfl; exact ok.apart b ha' z
    obtain ⟨o, e⟩ := ok.stkl b z
    exact ⟨o, (hs.2 b this).trans e⟩
theorem Ext.change {own stk : Addr → Prop} {hp : Hp} {s : Shared} (ok : HeapOk P stk hp s) {h' : Heap} {tk : Nat} {a : Addr} {o₀ o : O} (ha : hp a = some o₀) (hs : Heap.SameBut a s.heap h') (ht : ∃ o', h'.get? a = some o') : Ext own stk hp s (upd hp a o) { s with heap := h', toks := tk } := by
  have ha' : hp a ≠ Option.none := by rw [ha]; intro z; cases z
  refine .exact (fun b ob e _ g => ?_) (fun b o' e => ?_) (fun b o' st e d => ⟨o', (hs.2 b (by rintro rfl; exact ok.apart b ha' st)).trans e, d⟩) (fun b e n => ?_) rfl rfl
  · have : b ≠ a := by rintro rfl; exact ha' e
    exact (hs.2 b this).trans g
  · by_cases q : b = a
    · subst q; exact ht
    · exact ⟨o', (hs.2 b q).trans e⟩
  · by_cases q : b = a
    · subst q; exact absurd e ha'
    · rw [upd_ne q] at n; exact absurd e n
theorem HeapOk.drop {stk : Addr → Prop} {hp : Hp} {s : Shared} (ok : HeapOk P stk hp s) (a : Addr) : HeapOk P stk (del hp a) s := by
  have ky : Keepy (Fz stk hp) (Fz stk (del hp a)) s.heap s.heap := by
    rintro b ob ⟨e, n⟩ g
    refine ⟨⟨?_, n⟩, g⟩
    by_cases q : b = a
    · subst q; simp
    · rw [del_ne q]; exact e
  have ne : ∀ b, del hp a b ≠ Option.none → hp b ≠ Option.none := fun b e => by
    by_cases q : b = a
    · subst q; simp at e
    · rw [del_ne q] at e; exact e
  refine ⟨fun b ob e => ?_, fun b e => ok.apart b (ne b e), ok.base, fun b e => ok.new b (ne b e), ok.stkn, ok.stkl, ok.gens⟩
  by_cases q : b = a
  · subst q; simp at e
  · rw [del_ne q] at e
    exact (ok.obj b ob e).keep ky (fun o g => g)
theorem Ext.drop {own stk : Addr → Prop} {hp : Hp} {s : Shared} (a : Addr) : Ext own stk hp s (del hp a) s := by
  refine .exact (fun b ob e _ g => g) (fun b o' e => ⟨o', e⟩) (fun b o _ e d => ⟨o, e, d⟩) (fun b e n => ?_) rfl rfl
  by_cases q : b = a
  · subst q; simp at n
  · rw [del_ne q] at n; exact absurd e n
end Mine
open PySem PySem.W PySem.Calls PyProof.Rows
namespace Mine
structure Room (d : Nat) (A : Around) : Prop where
  depth : A.depth + d < recursionLimit
  units : A.units + 8 * d + 128 < cLine
  hd : 0 < d → A.handled = none
theorem Room.less {d d' : Nat} {A : Around} (r : Room d A) (h : d' ≤ d) : Room d' A := ⟨by have := r.depth; lia, by have := r.units; lia, fun z => r.hd (by lia)⟩
noncomputable def Fs (A : Around) (stk : Addr → Prop) (s : Shared) : Prop := ∃ l, A.frames = some l ∧ ∀ e ∈ l, e.scope.kind = .function ∧ ∃ L o, e.frame = some L ∧ stk L ∧ s.heap.get? L = some o ∧ isD o
theorem Fs.step {A : Around} {own stk : Addr → Prop} {hp hp' : Hp} {s s' : Shared} (f : Fs A stk s) (e : Ext own stk hp s hp' s') : Fs A stk s' := by
  obtain ⟨l, hl, h⟩ := f
  refine ⟨l, hl, fun x hx => ?_⟩
  obtain ⟨hk, L, o, hf, st, g, d⟩ := h x hx
  obtain ⟨o', g', d'⟩ := e.dic L o st g d
  exact ⟨hk, L, o', hf, st, g', d'⟩
theorem Fs.up {A : Around} {stk stk' : Addr → Prop} {s s' : Shared} (f : Fs A stk s) (sub : ∀ a, stk a → stk' a) (k : ∀ b o, stk b → s.heap.get? b = some o → isD o → ∃ o', s'.heap.get? b = some o' ∧ isD o') : Fs A stk' s' := by
  obtain ⟨l, hl, h⟩ := f
  refine ⟨l, hl, fun x hx => ?_⟩
  obtain ⟨hk, L, o, hf, st, g, d⟩ := h x hx
  obtain ⟨o', g', d'⟩ := k L o st g d
  exact ⟨hk, L, o', hf, sub L st, g', d'⟩
theorem Fs.around {A A' : Around} {stk : Addr → Prop} {s : Shared} (f : Fs A stk s) (h : A'.frames = A.frames) : Fs A' stk s := (by obtain ⟨l, hl, k⟩ := f; exact ⟨l, h.trans hl, k⟩)
structure EnvOk (P : Par) (A : Around) (stk : Addr → Prop) (hp : Hp) (env : Env) (loc : Loc) (s : Shared) : Prop where
  kind : env.scope.kind = .function
  glob : env.globals = mainGlobals
  blt : env.builtins = builtinsNs
  ns : ∃ m, s.heap.Ns env.locals m ∧ ∀ i v, loc i = some v → env.kindOf (P.nm i) = some .local → ∃ x, m (P.nm i) = some x ∧ P.VR stk hp s.heap v x
  cell : ∀ i v, loc i = some v → (env.kindOf (P.nm i) = some .cell ∨ env.kindOf (P.nm i) = some .free) → ∃ c x, env.cells.lookup (P.nm i) = some c ∧ s.heap.IsCell c (some x) ∧ P.VR stk hp s.heap v x
  stkL : stk env.locals
  stkC : ∀ n c, env.cells.lookup n = some c → stk c
  cells : ∀ n, (env.kindOf n = some .cell ∨ env.kindOf n = some .free) → ∃ c x, env.cells.lookup n = some c ∧ s.heap.IsCell c x
  apart : ∀ n n' c, env.cells.lookup n = some c → env.cells.lookup n' = some c → n = n'
  apartL : ∀ n, env.cells.lookup n ≠ some env.locals
  frs : Fs A stk s
  top : ∃ e0 r, A.frames = some (e0 :: r) ∧ e0.frame = env.frame
structure TopOk (P : Par) (mg mb : Str → Option Value) : Prop where
  kin : P.K.In P.H₀
  g : P.H₀.Ns mainGlobals mg
  b : P.H₀.Ns builtinsNs mb
  lim : P.H₀.NoLimit
theorem isD_cell {o : Obj} {v : Option Value} (h : o.data = .cell v) : ¬ isD o := by rintro ⟨es, n, e⟩; rw [h] at e; cases e
theorem EnvOk.step {P : Par} {A : Around} {stk : Addr → Prop} {hp hp' : Hp} {env : Env} {loc : Loc} {s s' : Shared} (x : EnvOk P A stk hp env loc s) (ok : HeapOk P stk hp s) (e : Ext no1 stk hp s hp' s') : EnvOk P A stk hp' env loc s' := by
  have hn : ∀ a, stk a → hp a = Option.none := fun a z => by
    cases q : hp a with
    | none => rfl
    | some o => exact absurd z (ok.apart a (by rw [q]; intro z; cases z))
  have ky := e.keepy (stk := stk) (fun _ z => z.elim)
  refine ⟨x.kind, x.glob, x.blt, ?_, fun i v h k => ?_, x.stkL, x.stkC, fun n k => ?_, x.apart, x.apartL, x.frs.step e, x.top⟩
  · obtain ⟨m, ⟨o, es, ep, g, r⟩, h⟩ := x.ns
    have ns' : s'.heap.Ns env.locals m := by
      rcases e.keep _ _ (hn _ x.stkL) (fun z => z) g with g' | ⟨_, _, sl, g'⟩
      · exact ⟨o, es, ep, g', r⟩
      · exact ⟨_, es, ep, g', r⟩
    refine ⟨m, ns', fun i v a b => ?_⟩
    obtain ⟨y, p, q⟩ := h i v a b
    exact ⟨y, p, q.keep ky⟩
  · obtain ⟨c, y, p, ⟨o, g, r⟩, q⟩ := x.cell i v h k
    exact ⟨c, y, p, ⟨o, e.same (hn _ (x.stkC _ _ p)) (fun z => z) (.inr (isD_cell r)) g, r⟩, q.keep ky⟩
  · obtain ⟨c, y, p, ⟨o, g, r⟩⟩ := x.cells n k
    exact ⟨c, y, p, ⟨o, e.same (hn _ (x.stkC _ _ p)) (fun z => z) (.inr (isD_cell r)) g, r⟩⟩
noncomputable abbrev XA := Nat → Hp → Prop
noncomputable abbrev DE := (V → Hp → Prop) → XA → Loc → Hp → Prop
noncomputable abbrev Fly := Nat × Hp → Value → Hp → Shared → Prop
inductive lX (Fl : Fly) (X : XA) (e : Value) (hp : Hp) (s : Shared) : Prop
  | intro (k : Nat × Hp) (x : X k.1 k.2) (l : Fl k e hp s) : lX Fl X e hp s
inductive PV (P : Par) (stk : Addr → Prop) (Q : V → Hp → Prop) (x : Value) (hp : Hp) (s : Shared) : Prop
  | intro (v : V) (q : Q v hp) (r : P.VR stk hp s.heap v x) : PV P stk Q x hp s
variable (P : Par) (Fl : Fly)
noncomputable def SimE (d : Nat) (sc : Scope) (e : Expr) (D : DE) : Prop :=
  ∀ (A : Around) (env : Env) (s : Shared) (Q : V → Hp → Prop) (X : XA) (loc : Loc) (hp : Hp) (stk : Addr → Prop),
    Room d A → env.scope = sc → EnvOk P A stk hp env loc s → HeapOk P stk hp s → D Q X loc hp →
    T P no1 stk A (eval e env) hp s (PV P stk Q) (lX Fl X)
variable {P Fl}
section
variable {d : Nat} {sc : Scope}
noncomputable def dVar (i : Nat) : DE := fun Q _ loc hp => ∃ v, loc i = some v ∧ Q v hp
theorem Sim.var {i : Nat} {x : Str} {pos : Pos} (hx : P.nm i = x) (hk : (match sc.names.lookup x with | some .local => true | some .cell => true | some .free => true | _ => false) = true)
    (hd : (x == ("__debug__" : Str)) = false) (hc : (x == ("__classdict__" : Str)) = false) : SimE P Fl d sc (.Name x pos) (dVar i) := by
  subst hx
  rintro A env s Q X loc hp stk _ hs ev ok ⟨v, hv, hq⟩
  refine wpAny_Name ?_ hd
  have hkind : env.kindOf (P.nm i) = sc.names.lookup (P.nm i) := by rw [← hs]; rfl
  rw [← hkind] at hk
  cases q : env.kindOf (P.nm i) with
  | none => rw [q] at hk; cases hk
  | some k =>
    rw [q] at hk
    cases k with
    | «local» =>
      obtain ⟨m, n, h⟩ := ev.ns
      obtain ⟨y, p, r⟩ := h i v hv q
      exact wpAny_loadName_local ev.kind q n p ⟨hp, .refl .., ok, v, hq, r⟩
    | cell =>
      obtain ⟨c, y, p, g, r⟩ := ev.cell i v hv (.inl q)
      exact wpAny_loadName_cell ev.kind q p g ⟨hp, .refl .., ok, v, hq, r⟩
    | free =>
      obtain ⟨c, y, p, g, r⟩ := ev.cell i v hv (.inr q)
      exact wpAny_loadName_free ev.kind q p g ⟨hp, .refl .., ok, v, hq, r⟩ hc
    | _ => cases hk
noncomputable def dCon (v : V) : DE := fun Q _ _ hp => Q v hp
theorem Sim.glob {mg mb : Str → Option Value} (tp : TopOk P mg mb) {x : Str} {pos : Pos} {v : Value} (hk : sc.names.lookup x = some .globalImplicit) (hd : (x == ("__debug__" : Str)) = false)
    (hv : mg x = some v) : SimE P Fl d sc (.Name x pos) (dCon (.fn v)) := by
  intro A env s Q X loc hp stk _ hs ev ok hq
  refine wpAny_Name ?_ hd
  have hkind : env.kindOf x = some .globalImplicit := by rw [← hk, ← hs]; rfl
  rw [loadName_read ev.kind hkind]
  refine loadGlobal_global (mg := mg) ?_ hv ⟨hp, .refl .., ok, _, hq, by simp only [VRe]⟩
  rw [ev.glob]; exact tp.g.keeps ok.base
theorem Sim.built {mg mb : Str → Option Value} (tp : TopOk P mg mb) {x : Str} {pos : Pos} {v : Value} (hk : sc.names.lookup x = some .globalImplicit) (hd : (x == ("__debug__" : Str)) = false)
    (hm : mg x = Option.none) (hv : mb x = some v) : SimE P Fl d sc (.Name x pos) (dCon (.fn v)) := by
  intro A env s Q X loc hp stk _ hs ev ok hq
  refine wpAny_Name ?_ hd
  have hkind : env.kindOf x = some .globalImplicit := by rw [← hk, ← hs]; rfl
  rw [loadName_read ev.kind hkind]
  refine loadGlobal_builtin (mg := mg) (mb := mb) ?_ hm ?_ hv ⟨hp, .refl .., ok, _, hq, by simp only [VRe]⟩
  · rw [ev.glob]; exact tp.g.keeps ok.base
  · rw [ev.blt]; exact tp.b.keeps ok.base
theorem Sim.cInt {i : Int} {k : Nat} {pos : Pos} : SimE P Fl d sc (.Constant (.int i) k pos) (dCon (.int i)) :=
  fun A env s Q X loc hp stk _ _ _ ok hq => wpAny_Constant_int ⟨hp, .toks _, ok.toks _, _, hq, by simp only [VRe]; exact ⟨_, rfl⟩⟩
theorem Sim.cNone {k : Nat} {pos : Pos} : SimE P Fl d sc (.Constant .none k pos) (dCon .none) :=
  fun A env s Q X loc hp stk _ _ _ ok hq => wpAny_Constant_none ⟨hp, .refl .., ok, _, hq, by simp only [VRe]⟩
theorem Sim.cBool {b : Bool} {k : Nat} {pos : Pos} : SimE P Fl d sc (.Constant (.bool b) k pos) (dCon (.bool b)) :=
  fun A env s Q X loc hp stk _ _ _ ok hq => wpAny_Constant_bool ⟨hp, .refl .., ok, _, hq, by simp only [VRe]⟩
theorem Sim.cStr {x : Str} {l : List Nat} {k : Nat} {pos : Pos} (h : x = ⟨l.toArray⟩) : SimE P Fl d sc (.Constant (.str x) k pos) (dCon (.str l)) :=
  fun A env s Q X loc hp stk _ _ _ ok hq => wpAny_Constant_str ⟨hp, .toks _, ok.toks _, _, hq, by simp only [VRe]; exact ⟨_, by rw [h]⟩⟩
noncomputable abbrev B2 := V → V → (V → Hp → Prop) → Hp → Prop
noncomputable def dBin (b : B2) (l r : DE) : DE := fun Q X loc hp => l (fun x hp1 => r (fun y hp2 => b x y Q hp2) X loc hp1) X loc hp
noncomputable def OkB (P : Par) (Fl : Fly) (f : Value → Value → Sem Value) (b : B2) : Prop :=
  ∀ (A : Around) (s : Shared) (Q : V → Hp → Prop) (X : XA) (hp : Hp) (stk : Addr → Prop) (v u : V) (x y : Value), Room 0 A → HeapOk P stk hp s → P.VR stk hp s.heap v x → P.VR stk hp s.heap u y → b v u Q hp →
    T P no1 stk A (f x y) hp s (PV P stk Q) (lX Fl X)
theorem VR_step {stk : Addr → Prop} {hp hp' : Hp} {s s' : Shared} {v : V} {x : Value} (e : Ext no1 stk hp s hp' s') (h : P.VR stk hp s.heap v x) : P.VR stk hp' s'.heap v x := VR.keep (e.keepy fun _ z => z.elim) h
theorem VRs_step {stk : Addr → Prop} {hp hp' : Hp} {s s' : Shared} {v : List V} {x : List Value} (e : Ext no1 stk hp s hp' s') (h : P.VRs stk hp s.heap v x) : P.VRs stk hp' s'.heap v x := VRs.keep (e.keepy fun _ z => z.elim) h
theorem two {A : Around} {env : Env} {s : Shared} {loc : Loc} {hp : Hp} {stk : Addr → Prop} {l r : Expr} {dl dr : DE} {Q : V → Hp → Prop} {X : XA} {f : Value → Value → Sem Value} {b : B2} (hl : SimE P Fl d sc l dl) (hr : SimE P Fl d sc r dr) (hf : OkB P Fl f b)
    (rm : Room d A) (hs : env.scope = sc) (ev : EnvOk P A stk hp env loc s) (ok : HeapOk P stk hp s) (h : dBin b dl dr Q X loc hp) :
    wpAny P.M A (eval l env) (fun a s₁ => wpAny P.M A (eval r env) (fun b s₂ => wpAny P.M A (f a b) (PostT P no1 stk hp s (PV P stk Q)) (PostT P no1 stk hp s (lX Fl X)) s₂) (PostT P no1 stk hp s (lX Fl X)) s₁) (PostT P no1 stk hp s (lX Fl X)) s := by
  refine (hl A env s _ X loc hp stk rm hs ev ok h).thn fun a hp1 s1 e1 ok1 hq  => ?_
  obtain ⟨v, q1, r1⟩ := hq
  refine wpAny_mono (hr A env s1 _ X loc hp1 stk rm hs (ev.step ok e1) ok1 q1) (fun y s2 hq  => ?_) fun _ _ z => z.back P e1
  obtain ⟨hp2, e2, ok2, u, q2, r2⟩ := hq
  exact T.nxt (e1.trans e2) (hf A s2 Q X hp2 stk v u a y (rm.less (Nat.zero_le _)) ok2 (VR_step e2 r1) r2 q2)
theorem Sim.bin {l r : Expr} {op : Operator} {pos : Pos} {dl dr : DE} {b : B2} (hb : OkB P Fl (binaryOp op) b) (hl : SimE P Fl d sc l dl) (hr : SimE P Fl d sc r dr) : SimE P Fl d sc (.BinOp l op r pos) (dBin b dl dr) :=
  fun A env s Q X loc hp stk rm hs ev ok h => wpAny_BinOp (two hl hr hb rm hs ev ok h)
theorem Sim.cmp {l r : Expr} {op : CmpOp} {pos : Pos} {dl dr : DE} {b : B2} (hb : OkB P Fl (compareOp op) b) (hl : SimE P Fl d sc l dl) (hr : SimE P Fl d sc r dr) (hm : behindInMarks op r = false) : SimE P Fl d sc (.Compare l [op] [r] pos) (dBin b dl dr) :=
  fun A env s Q X loc hp stk rm hs ev ok h => wpAny_Compare1 (two hl hr hb rm hs ev ok h) hm
end
end Mine
namespace Mine
variable {P : Par} {Fl : Fly}
noncomputable def lim : Nat := 1000000
theorem lim_le : lim ≤ sizeLine := by decide
noncomputable def listOf (hp : Hp) : V → Option (List V)
  | .lst vs => some vs
  | .ref a => match hp a with
    | some (.lst vs) => some vs
    | _ => Option.none
  | _ => Option.none
theorem listOf_ref {hp : Hp} {a : Addr} {us : List V} (h : hp a = some (.lst us)) : listOf hp (.ref a) = some us := congrArg (fun o => match o with | some (O.lst vs) => some vs | _ => Option.none) h
theorem listOf_plain {stk : Addr → Prop} {hp : Hp} {s : Shared} {v : V} {x : Value} {vs : List V} (ok : HeapOk P stk hp s) (r : P.VR stk hp s.heap v x) (h : listOf hp v = some vs) :
    ∃ a xs, x = .ref a ∧ s.heap.PlainList a xs ∧ P.VRs stk hp s.heap vs xs.toList := by
  cases v with
  | lst us => cases h; simp only [VRe] at r; obtain ⟨a, xs, e, _, p, q⟩ := r; exact ⟨a, xs, e, p, q⟩
  | ref a =>
    simp only [VRe] at r
    change (match hp a with | some (.lst vs) => some vs | _ => Option.none) = _ at h
    cases q : hp a with
    | none => rw [q] at h; cases h
    | some o =>
      rw [q] at h
      cases o with
      | lst us => cases h; obtain ⟨xs, p, z⟩ := ok.obj a _ q; exact ⟨a, xs, r, p, z⟩
      | _ => cases h
  | _ => cases h
theorem VRs.length {F : Addr → Prop} {h : Heap} : ∀ {vs : List V} {xs : List Value}, VRs P.nm F h vs xs → xs.length = vs.length
  | [], xs, r => by simp only [VRse] at r; subst r; rfl
  | v :: vs, xs, r => by
    simp only [VRse] at r
    obtain ⟨y, ys, rfl, _, q⟩ := r
    simp [VRs.length q]
theorem VRs.append {F : Addr → Prop} {h : Heap} : ∀ {vs us : List V} {xs ys : List Value}, VRs P.nm F h vs xs → VRs P.nm F h us ys → VRs P.nm F h (vs ++ us) (xs ++ ys)
  | [], us, xs, ys, r, q => by simp only [VRse] at r; subst r; exact q
  | v :: vs, us, xs, ys, r, q => by
    simp only [VRse] at r
    obtain ⟨y, zs, rfl, p, r⟩ := r
    simp only [List.cons_append, VRse]
    exact ⟨y, zs ++ ys, rfl, p, VRs.append r q⟩
theorem VRs.get {F : Addr → Prop} {h : Heap} : ∀ {vs : List V} {xs : List Value} {i : Nat} {v : V}, VRs P.nm F h vs xs → vs[i]? = some v → ∃ x, xs[i]? = some x ∧ VR P.nm F h v x
  | [], _, _, _, _, e => by cases e
  | v :: vs, xs, 0, _, r, e => by
    simp only [VRse] at r
    obtain ⟨y, ys, rfl, p, _⟩ := r
    cases e
    exact ⟨y, rfl, p⟩
  | v :: vs, xs, i + 1, _, r, e => by
    simp only [VRse] at r
    obtain ⟨y, ys, rfl, p, q⟩ := r
    have := VRs.get q (i := i) (by simpa using e)
    simpa using this
theorem fz_push {stk : Addr → Prop} {hp : Hp} {s : Shared} (ok : HeapOk P stk hp s) : Fz stk hp s.heap.objs.size := fz_of_new ok (by
  cases q : s.heap.get? s.heap.objs.size with
  | none => rfl
  | some o => exact absurd (Heap.lt_size q) (Nat.lt_irrefl _))
theorem get_size (h : Heap) : h.get? h.objs.size = Option.none := by
  cases q : h.get? h.objs.size with
  | none => rfl
  | some o => exact absurd (Heap.lt_size q) (Nat.lt_irrefl _)
theorem VRs_grow {stk : Addr → Prop} {hp : Hp} {h h' : Heap} (k : ∀ b o, h.get? b = some o → h'.get? b = some o) {vs : List V} {xs : List Value} (r : P.VRs stk hp h vs xs) : P.VRs stk hp h' vs xs := VRs.keep (fun a o f g => ⟨f, k a o g⟩) r
theorem VR_grow {stk : Addr → Prop} {hp : Hp} {h h' : Heap} (k : ∀ b o, h.get? b = some o → h'.get? b = some o) {v : V} {x : Value} (r : P.VR stk hp h v x) : P.VR stk hp h' v x := VR.keep (fun a o f g => ⟨f, k a o g⟩) r
theorem newFrozen {own stk : Addr → Prop} {hp : Hp} {s : Shared} {vs : List V} {xs : Array Value} {tk : Nat} {n : Nat} {Q : V → Hp → Prop} (ok : HeapOk P stk hp s) (r : P.VRs stk hp s.heap vs xs.toList) (hq : Q (.lst vs) hp) :
    PostT P own stk hp s (PV P stk Q) (.ref s.heap.objs.size) { s with heap := s.heap.push { cls := .type "list", data := .seq xs n }, toks := tk } := by
  have k : ∀ b o, s.heap.get? b = some o → (s.heap.push { cls := .type "list", data := .seq xs n }).get? b = some o := fun b o e => Heap.get?_push_of_some _ e
  refine ⟨hp, Ext.grow (stk := stk) k, ok.grow k, .lst vs, hq, ?_⟩
  simp only [VRe]
  exact ⟨_, xs, rfl, fz_push ok, ⟨n, Heap.get?_push_size _ rfl⟩, VRs_grow k r⟩
theorem newFrozenT {own stk : Addr → Prop} {hp : Hp} {s : Shared} {vs : List V} {xs : Array Value} {tk : Nat} {n : Nat} {Q : V → Hp → Prop} (ok : HeapOk P stk hp s) (r : P.VRs stk hp s.heap vs xs.toList) (hq : Q (.tup vs) hp) :
    PostT P own stk hp s (PV P stk Q) (.ref s.heap.objs.size) { s with heap := s.heap.push { cls := .type "tuple", data := .seq xs n }, toks := tk } := by
  have k : ∀ b o, s.heap.get? b = some o → (s.heap.push { cls := .type "tuple", data := .seq xs n }).get? b = some o := fun b o e => Heap.get?_push_of_some _ e
  refine ⟨hp, Ext.grow (stk := stk) k, ok.grow k, .tup vs, hq, ?_⟩
  simp only [VRe]
  exact ⟨_, xs, rfl, fz_push ok, ⟨n, Heap.get?_push_size _ rfl⟩, VRs_grow k r⟩
theorem here {own stk : Addr → Prop} {hp : Hp} {s : Shared} {Q : V → Hp → Prop} (ok : HeapOk P stk hp s) {v : V} {x : Value} (hq : Q v hp) (r : P.VR stk hp s.heap v x) : PostT P own stk hp s (PV P stk Q) x s := ⟨hp, .refl .., ok, v, hq, r⟩
theorem hereT {own stk : Addr → Prop} {hp : Hp} {s : Shared} {Q : V → Hp → Prop} (ok : HeapOk P stk hp s) {v : V} {x : Value} {tk : Nat} (hq : Q v hp) (r : P.VR stk hp s.heap v x) : PostT P own stk hp s (PV P stk Q) x { s with toks := tk } := ⟨hp, .toks _, ok.toks _, v, hq, r⟩
theorem vInt {F : Addr → Prop} {h : Heap} {i : Int} {t : Tok} : VR P.nm F h (.int i) (.int i t) := by simp only [VRe]; exact ⟨t, rfl⟩
theorem vBool {F : Addr → Prop} {h : Heap} {b : Bool} : VR P.nm F h (.bool b) (.bool b) := by simp only [VRe]
theorem vNone {F : Addr → Prop} {h : Heap} : VR P.nm F h .none .none := by simp only [VRe]
theorem vStr {F : Addr → Prop} {h : Heap} {l : List Nat} {t : Tok} : VR P.nm F h (.str l) (.str ⟨l.toArray⟩ t) := by simp only [VRe]; exact ⟨t, rfl⟩
theorem vRef {F : Addr → Prop} {h : Heap} {a : Addr} : VR P.nm F h (.ref a) (.ref a) := by simp only [VRe]
theorem inv_int {nm : Nat → Str} {F : Addr → Prop} {h : Heap} {i : Int} {x : Value} (r : Mine.VR nm F h (.int i) x) : ∃ t, x = .int i t := by simpa only [VRe] using r
theorem inv_str {nm : Nat → Str} {F : Addr → Prop} {h : Heap} {l : List Nat} {x : Value} (r : Mine.VR nm F h (.str l) x) : ∃ t, x = .str ⟨l.toArray⟩ t := by simpa only [VRe] using r
noncomputable def asInt : V → Option Int
  | .int i => some i
  | _ => Option.none
noncomputable def asStr : V → Option (List Nat)
  | .str i => some i
  | _ => Option.none
theorem asInt_inv {v : V} {i : Int} (h : asInt v = some i) : v = .int i := by cases v <;> cases h; rfl
theorem asStr_inv {v : V} {i : List Nat} (h : asStr v = some i) : v = .str i := by cases v <;> cases h; rfl
noncomputable def bothO {α β : Type} (a : Option α) (b : Option β) (f : α → β → Prop) (g : Prop) : Prop := match a with
  | .none => g
  | some x => match b with
    | .none => g
    | some y => f x y
theorem bothO_inv {α β : Type} {a : Option α} {b : Option β} {f : α → β → Prop} {g : Prop} (h : bothO a b f g) : (∃ x y, a = some x ∧ b = some y ∧ f x y) ∨ g := by
  cases a with
  | none => exact .inr h
  | some x => cases b with
    | none => exact .inr h
    | some y => exact .inl ⟨x, y, rfl, rfl, h⟩
noncomputable def b2 (r : Int → Int → V) : B2 := fun x y Q hp => bothO (asInt x) (asInt y) (fun a b => Q (r a b) hp) False
noncomputable def b2c (c : Int → Int → Prop) (r : Int → Int → V) : B2 := fun x y Q hp => bothO (asInt x) (asInt y) (fun a b => c a b ∧ Q (r a b) hp) False
noncomputable def Two (c : Int → Int → Prop) (r : Int → Int → V) (v u : V) (Q : V → Hp → Prop) (hp : Hp) : Prop := ∃ i j, v = .int i ∧ u = .int j ∧ c i j ∧ Q (r i j) hp
theorem b2c_inv {c : Int → Int → Prop} {r : Int → Int → V} (v u : V) (Q : V → Hp → Prop) (hp : Hp) (h : b2c c r v u Q hp) : Two c r v u Q hp := by
  rcases bothO_inv h with ⟨i, j, e1, e2, h⟩ | h
  · exact ⟨i, j, asInt_inv e1, asInt_inv e2, h⟩
  · exact h.elim
theorem b2_inv {r : Int → Int → V} (v u : V) (Q : V → Hp → Prop) (hp : Hp) (h : b2 r v u Q hp) : Two (fun _ _ => True) r v u Q hp := by
  rcases bothO_inv h with ⟨i, j, e1, e2, h⟩ | h
  · exact ⟨i, j, asInt_inv e1, asInt_inv e2, trivial, h⟩
  · exact h.elim
theorem okInt {f : Value → Value → Sem Value} {b : B2} {c : Int → Int → Prop} {r : Int → Int → V} (inv : ∀ v u Q hp, b v u Q hp → Two c r v u Q hp)
    (op : ∀ A s G E i j t t', c i j → (∀ y tk, (∀ F h, VR P.nm F h (r i j) y) → G y { s with toks := tk }) → wpAny P.M A (f (.int i t) (.int j t')) G E s) : OkB P Fl f b := by
  intro A s Q X hp stk v u x y rm ok rv ru h
  obtain ⟨i, j, rfl, rfl, hc, hq⟩ := inv v u Q hp h
  obtain ⟨t, rfl⟩ := inv_int rv
  obtain ⟨t', rfl⟩ := inv_int ru
  exact op A s _ _ i j t t' hc fun y tk hy => hereT ok hq (hy _ _)
noncomputable def bInt (f : Int → Int → Int) : B2 := b2 fun a b => .int (f a b)
noncomputable def bAdd : B2 := fun x y Q hp => bothO (asInt x) (asInt y) (fun a b => Q (.int (a + b)) hp)
  (bothO (asStr x) (asStr y) (fun a b => a.length + b.length ≤ lim ∧ Q (.str (a ++ b)) hp)
    (∃ xs ys, listOf hp x = some xs ∧ listOf hp y = some ys ∧ xs.length + ys.length ≤ lim ∧ Q (.lst (xs ++ ys)) hp))
theorem add_lists {A : Around} {s : Shared} {Q : V → Hp → Prop} {X : XA} {hp : Hp} {stk : Addr → Prop} {v u : V} {x y : Value} {xs ys : List V} (ok : HeapOk P stk hp s) (rv : P.VR stk hp s.heap v x) (ru : P.VR stk hp s.heap u y) (h1 : listOf hp v = some xs) (h2 : listOf hp u = some ys) (hl : xs.length + ys.length ≤ lim) (hq : Q (.lst (xs ++ ys)) hp) :
    T P no1 stk A (binaryOp .Add x y) hp s (PV P stk Q) (lX Fl X) := by
  obtain ⟨a, as, rfl, ⟨n, pa⟩, ra⟩ := listOf_plain ok rv h1
  obtain ⟨b, bs, rfl, ⟨m, pb⟩, rb⟩ := listOf_plain ok ru h2
  refine PySem.P.add_list (n := n) (n2 := m) pa pb (newFrozen (tk := s.toks) ok (by rw [Array.toList_append]; exact ra.append rb) hq) ?_
  rw [show as.size = xs.length from ra.length, show bs.size = ys.length from rb.length]
  exact Nat.le_trans hl lim_le
theorem bAdd_inv {v u : V} {Q : V → Hp → Prop} {hp : Hp} (h : bAdd v u Q hp) : (∃ a b, v = .int a ∧ u = .int b ∧ Q (.int (a + b)) hp) ∨ (∃ a b, v = .str a ∧ u = .str b ∧ a.length + b.length ≤ lim ∧ Q (.str (a ++ b)) hp) ∨ ∃ xs ys, listOf hp v = some xs ∧ listOf hp u = some ys ∧ xs.length + ys.length ≤ lim ∧ Q (.lst (xs ++ ys)) hp := by
  rcases bothO_inv h with ⟨i, j, e1, e2, h⟩ | h
  · exact .inl ⟨i, j, asInt_inv e1, asInt_inv e2, h⟩
  · rcases bothO_inv h with ⟨i, j, e1, e2, h⟩ | h
    · exact .inr (.inl ⟨i, j, asStr_inv e1, asStr_inv e2, h⟩)
    · exact .inr (.inr h)
theorem ok_add : OkB P Fl (binaryOp .Add) bAdd := by
  intro A s Q X hp stk v u x y rm ok rv ru h
  rcases bAdd_inv h with ⟨a, b, rfl, rfl, h⟩ | ⟨a, b, rfl, rfl, hl, h⟩ | ⟨xs, ys, h1, h2, h3, h4⟩
  · obtain ⟨t, rfl⟩ := inv_int rv
    obtain ⟨t', rfl⟩ := inv_int ru
    exact PyProof.Rows.add_int (hereT ok h vInt)
  · obtain ⟨t, rfl⟩ := inv_str rv
    obtain ⟨t', rfl⟩ := inv_str ru
    refine PyProof.Rows.add_str (fun t' tk => hereT (v := .str (a ++ b)) ok h ?_) (Nat.le_trans hl lim_le)
    have : (⟨a.toArray⟩ : Str) ++ ⟨b.toArray⟩ = ⟨(a ++ b).toArray⟩ := by
      show Str.append _ _ = _
      simp [Str.append]
    rw [this]; exact vStr
  · exact add_lists ok rv ru h1 h2 h3 h4
theorem ok_sub : OkB P Fl (binaryOp .Sub) (bInt (· - ·)) := okInt b2_inv fun A s G E i j t t' _ k => PyProof.Rows.sub_int (k _ _ fun _ _ => vInt)
noncomputable def small (a : Int) : Prop := -(2 ^ 64) < a ∧ a < 2 ^ 64
theorem mul_small {A : Around} {s : Shared} {G : Value → Shared → Prop} {E : Value → Shared → Prop} {i j : Int} {t t' : Tok} (h : small i ∨ small j) (k : ∀ y tk, (∀ F h, VR P.nm F h (.int (i * j)) y) → G y { s with toks := tk }) : wpAny P.M A (binaryOp .Mult (.int i t) (.int j t')) G E s :=
  PyProof.Rows.mul_int (k _ _ fun _ _ => vInt) (h.elim (fun q => IntMulOk.of_left (intBits_le_64 q.1 q.2)) fun q => IntMulOk.of_right (intBits_le_64 q.1 q.2))
noncomputable def bMod : B2 := b2c (fun _ b => b ≠ 0) fun a b => .int (a.fmod b)
theorem ok_mod : OkB P Fl (binaryOp .Mod) bMod := okInt b2c_inv fun A s G E i j t t' h k => PyProof.Rows.mod_int h (k _ _ fun _ _ => vInt)
theorem noPylong_left {x y : Int} (h : x.natAbs < 1073741824) : Builtin.divisionGoesByPylong x y = false := by
  unfold Builtin.divisionGoesByPylong
  have : (if x == 0 then 0 else x.natAbs.log2 / 30 + 1) ≤ 1 := by
    split
    · omega
    · rename_i hx
      have hx0 : x.natAbs ≠ 0 := by intro e; apply hx; simp; omega
      have : x.natAbs.log2 < 30 := (Nat.log2_lt hx0).mpr (by omega)
      omega
  simp only [Bool.and_eq_false_iff, decide_eq_false_iff_not]
  right
  omega
noncomputable def bDiv : B2 := b2c (fun a b => b ≠ 0 ∧ (a.natAbs < 1073741824 ∨ b.natAbs < 1073741824)) fun a b => .int (a.fdiv b)
theorem ok_div : OkB P Fl (binaryOp .FloorDiv) bDiv := okInt b2c_inv fun A s G E i j t t' h k => PyProof.Rows.floordiv_int h.1 (k _ _ fun _ _ => vInt) (.inl (h.2.elim noPylong_left PyProof.noPylong_small))
noncomputable def bCmp (f : Int → Int → Bool) : B2 := b2 fun a b => .bool (f a b)
theorem ok_lt : OkB P Fl (compareOp .Lt) (bCmp fun a b => decide (a < b)) := okInt b2_inv fun A s G E i j t t' _ k => PyProof.Rows.lt_int (k _ s.toks fun _ _ => vBool)
theorem ok_le : OkB P Fl (compareOp .LtE) (bCmp fun a b => decide (a ≤ b)) := okInt b2_inv fun A s G E i j t t' _ k => PyProof.Rows.le_int (k _ s.toks fun _ _ => vBool)
theorem ok_ge : OkB P Fl (compareOp .GtE) (bCmp fun a b => decide (b ≤ a)) := okInt b2_inv fun A s G E i j t t' _ k => PyProof.Rows.ge_int (k _ s.toks fun _ _ => vBool)
noncomputable def isOneN : V → Option Bool
  | .none => some true
  | .bool _ => some false
  | .int _ => some false
  | .lst _ => some false
  | .tup _ => some false
  | .ref _ => some false
  | _ => Option.none
noncomputable def isOneB (b : Bool) : V → Option Bool
  | .none => some false
  | .bool a => some (a == b)
  | .int _ => some false
  | .lst _ => some false
  | .ref _ => some false
  | _ => Option.none
noncomputable def isOne (v : V) : V → Option Bool
  | .none => isOneN v
  | .bool b => isOneB b v
  | _ => Option.none
noncomputable def bIs : B2 := fun x y Q hp => ∃ b, isOne x y = some b ∧ Q (.bool b) hp
noncomputable def bIsNot : B2 := fun x y Q hp => ∃ b, isOne x y = some b ∧ Q (.bool (!b)) hp
theorem oneReal {F : Addr → Prop} {h : Heap} {v : V} {x : Value} {b : Bool} (r : VR P.nm F h v x) (c : isOneN v = some b ∨ ∃ q, isOneB q v = some b) : (v = .none ∧ x = .none) ∨ (∃ q, v = .bool q ∧ x = .bool q) ∨ (∃ a, x = .ref a ∧ isOneN v = some false ∧ ∀ q, isOneB q v = some false ∨ isOneB q v = Option.none) ∨ ∃ i t, v = .int i ∧ x = .int i t := by
  cases v <;> simp only [VRe] at r
  case none => exact .inl ⟨rfl, r⟩
  case bool => exact .inr (.inl ⟨_, rfl, r⟩)
  case int => exact .inr (.inr (.inr ⟨_, r.choose, rfl, r.choose_spec⟩))
  case lst => obtain ⟨a, _, rfl, _⟩ := r; exact .inr (.inr (.inl ⟨a, rfl, rfl, fun _ => .inl rfl⟩))
  case tup => obtain ⟨a, _, rfl, _⟩ := r; exact .inr (.inr (.inl ⟨a, rfl, rfl, fun _ => .inr rfl⟩))
  case ref => subst r; exact .inr (.inr (.inl ⟨_, rfl, rfl, fun _ => .inl rfl⟩))
  all_goals (rcases c with c | ⟨q, c⟩ <;> cases c)
theorem isOne_plain {F : Addr → Prop} {h : Heap} {v u : V} {x y : Value} {b : Bool} (rv : VR P.nm F h v x) (ru : VR P.nm F h u y) (e : isOne v u = some b) : plainIs x y = true ∧ (x == y) = b := by
  cases u with
  | none =>
    have hy : y = .none := by simpa only [VRe] using ru
    subst hy
    rcases oneReal rv (.inl e) with ⟨rfl, rfl⟩ | ⟨q, rfl, rfl⟩ | ⟨a, rfl, h1, _⟩ | ⟨i, t, rfl, rfl⟩
    · cases e; exact ⟨rfl, rfl⟩
    · cases e; exact ⟨rfl, rfl⟩
    · cases h1.symm.trans e; exact ⟨rfl, rfl⟩
    · cases e; exact ⟨rfl, rfl⟩
  | bool q =>
    have hy : y = .bool q := by simpa only [VRe] using ru
    subst hy
    rcases oneReal rv (.inr ⟨q, e⟩) with ⟨rfl, rfl⟩ | ⟨p, rfl, rfl⟩ | ⟨a, rfl, _, h1⟩ | ⟨i, t, rfl, rfl⟩
    · cases e; exact ⟨rfl, rfl⟩
    · cases e; refine ⟨rfl, ?_⟩; cases p <;> cases q <;> rfl
    · rcases h1 q with h1 | h1 <;> cases h1.symm.trans e
      exact ⟨rfl, rfl⟩
    · cases e; exact ⟨rfl, rfl⟩
  | _ => cases e
theorem ok_is : OkB P Fl (compareOp .Is) bIs := by
  rintro A s Q X hp stk v u x y rm ok rv ru ⟨b, e, hq⟩
  obtain ⟨p, q⟩ := isOne_plain rv ru e
  exact wpAny_is_plain p (by rw [q]; exact here ok hq vBool)
theorem ok_isNot : OkB P Fl (compareOp .IsNot) bIsNot := by
  rintro A s Q X hp stk v u x y rm ok rv ru ⟨b, e, hq⟩
  obtain ⟨p, q⟩ := isOne_plain rv ru e
  exact wpAny_isNot_plain p (by rw [q]; exact here ok hq vBool)
end Mine
namespace Mine
variable {P : Par} {Fl : Fly}
mutual
noncomputable def toD0 : V → Option PyData
  | .none => some .none
  | .bool b => some (.bool b)
  | .int i => some (.int i)
  | .str l => some (.str ⟨l.toArray⟩)
  | .tup vs => (toD0s vs).map .tuple
  | .lst vs => (toD0s vs).map .list
  | _ => Option.none
noncomputable def toD0s : List V → Option (List PyData)
  | [] => some []
  | v :: vs => (toD0 v).bind fun d => (toD0s vs).map (d :: ·)
end
noncomputable def lstAt (hp : Hp) (a : Addr) : Option (List V) := match hp a with
  | some (.lst vs) => some vs
  | _ => Option.none
theorem lstAt_of {hp : Hp} {a : Addr} {vs : List V} (h : hp a = some (.lst vs)) : lstAt hp a = some vs := by unfold lstAt; rw [h]
theorem lstAt_eq {hp : Hp} {a : Addr} {vs : List V} (h : lstAt hp a = some vs) : hp a = some (.lst vs) := by
  unfold lstAt at h
  revert h
  cases hp a with
  | none => intro h; cases h
  | some o => cases o <;> intro h <;> cases h; rfl
noncomputable def toD (hp : Hp) : V → Option PyData
  | .ref a => ((lstAt hp a).bind toD0s).map .list
  | v => toD0 v
mutual
theorem reads0 {F : Addr → Prop} {h : Heap} : ∀ {v : V} {x : Value} {d : PyData}, VR P.nm F h v x → toD0 v = some d → ∃ as, Reads h x d as
  | .none, x, d, r, e => by simp only [VRe] at r; subst r; cases e; exact ⟨_, .none⟩
  | .bool b, x, d, r, e => by simp only [VRe] at r; subst r; cases e; exact ⟨_, .bool _⟩
  | .int i, x, d, r, e => by simp only [VRe] at r; obtain ⟨t, rfl⟩ := r; cases e; exact ⟨_, .int _ _⟩
  | .str l, x, d, r, e => by simp only [VRe] at r; obtain ⟨t, rfl⟩ := r; cases e; exact ⟨_, .str _ _⟩
  | .tup vs, x, d, r, e => by
    simp only [VRe] at r
    obtain ⟨a, xs, rfl, _, ⟨n, g⟩, q⟩ := r
    obtain ⟨ds, hds, rfl⟩ := Option.map_eq_some_iff.mp e
    obtain ⟨as, z⟩ := reads0s q hds
    exact ⟨_, .tuple g rfl rfl z⟩
  | .lst vs, x, d, r, e => by
    simp only [VRe] at r
    obtain ⟨a, xs, rfl, _, ⟨n, g⟩, q⟩ := r
    obtain ⟨ds, hds, rfl⟩ := Option.map_eq_some_iff.mp e
    obtain ⟨as, z⟩ := reads0s q hds
    exact ⟨_, .list g rfl rfl z⟩
  | .obj C fs, x, d, r, e => by cases e
  | .ref a, x, d, r, e => by cases e
  | .fn y, x, d, r, e => by cases e
  | .rng lo hi, x, d, r, e => by cases e
  | .vals y, x, d, r, e => by cases e
  | .nxt y, x, d, r, e => by cases e
theorem reads0s {F : Addr → Prop} {h : Heap} : ∀ {vs : List V} {xs : List Value} {ds : List PyData}, VRs P.nm F h vs xs → toD0s vs = some ds → ∃ as, ReadsAll h xs ds as
  | [], xs, ds, r, e => by simp only [VRse] at r; subst r; cases e; exact ⟨_, .nil⟩
  | v :: vs, xs, ds, r, e => by
    simp only [VRse] at r
    obtain ⟨y, ys, rfl, p, q⟩ := r
    obtain ⟨d, h1, h3⟩ := Option.bind_eq_some_iff.mp e
    obtain ⟨ds', h2, rfl⟩ := Option.map_eq_some_iff.mp h3
    obtain ⟨as, z⟩ := reads0 p h1
    obtain ⟨bs, z'⟩ := reads0s q h2
    exact ⟨_, .cons z z'⟩
end
theorem readsD {stk : Addr → Prop} {hp : Hp} {s : Shared} {v : V} {x : Value} {d : PyData} (ok : HeapOk P stk hp s) (r : P.VR stk hp s.heap v x) (e : toD hp v = some d) : ∃ as, Reads s.heap x d as := by
  cases v with
  | ref a =>
    simp only [VRe] at r
    subst r
    obtain ⟨ds, h1, rfl⟩ := Option.map_eq_some_iff.mp e
    obtain ⟨vs, hv, hds⟩ := Option.bind_eq_some_iff.mp h1
    obtain ⟨xs, ⟨n, g⟩, q⟩ := ok.obj a _ (lstAt_eq hv)
    obtain ⟨as, z⟩ := reads0s q hds
    exact ⟨_, .list g rfl rfl z⟩
  | _ => exact reads0 r e
noncomputable def bEq : B2 := fun x y Q hp => ∃ a b, toD hp x = some a ∧ toD hp y = some b ∧ SeqAt.shaped a = true ∧ SeqAt.shaped b = true ∧ Q (.bool (PyData.eqv a b)) hp
noncomputable def bNe : B2 := fun x y Q hp => ∃ a b, toD hp x = some a ∧ toD hp y = some b ∧ SeqAt.shaped a = true ∧ SeqAt.shaped b = true ∧ Q (.bool (!PyData.eqv a b)) hp
theorem ok_eq : OkB P Fl (compareOp .Eq) bEq := by
  rintro A s Q X hp stk v u x y rm ok rv ru ⟨a, b, e1, e2, s1, s2, hq⟩
  obtain ⟨as, r1⟩ := readsD ok rv e1
  obtain ⟨bs, r2⟩ := readsD ok ru e2
  exact eq_dataH r1 r2 s1 s2 (by have := rm.units; lia) (here ok hq vBool)
theorem ok_ne : OkB P Fl (compareOp .NotEq) bNe := by
  rintro A s Q X hp stk v u x y rm ok rv ru ⟨a, b, e1, e2, s1, s2, hq⟩
  obtain ⟨as, r1⟩ := readsD ok rv e1
  obtain ⟨bs, r2⟩ := readsD ok ru e2
  exact ne_dataH r1 r2 s1 s2 (by have := rm.units; lia) (here ok hq vBool)
noncomputable def inL0 (hp : Hp) (x c : V) (r : Bool) : Prop := ∃ ds d, toD hp c = some (.list ds) ∧ toD hp x = some d ∧ SeqAt.shaped (.list ds) = true ∧ SeqAt.shaped d = true ∧ r = ds.any (fun y => PyData.eqv y d)
noncomputable def inO (hp : Hp) (x : V) (a : Addr) (r : Bool) : Option O → Prop
  | some (.dict es _) => ∃ k, x = .int k ∧ r = es.any (fun e => decide (e.1 = k))
  | some (.set xs) => ∃ k, x = .int k ∧ r = decide (k ∈ xs)
  | _ => inL0 hp x (.ref a) r
noncomputable def inRes (hp : Hp) (x c : V) (r : Bool) : Prop := match c with
  | .ref a => inO hp x a r (hp a)
  | c => inL0 hp x c r
theorem inRes_o {hp : Hp} {x : V} {a : Addr} {r : Bool} {o : O} (h : hp a = some o) : inRes hp x (.ref a) r = inO hp x a r (some o) := congrArg (inO hp x a r) h
noncomputable def bIn : B2 := fun x c Q hp => ∃ r, inRes hp x c r ∧ Q (.bool r) hp
noncomputable def bNotIn : B2 := fun x c Q hp => ∃ r, inRes hp x c r ∧ Q (.bool (!r)) hp
theorem ER_any {F : Addr → Prop} {h : Heap} {k : Int} : ∀ {es : List (Int × V)} {kvs : List (Int × Value)}, ER P.nm F h es kvs → (valueAt kvs k).isSome = es.any (fun e => decide (e.1 = k))
  | [], kvs, r => by simp only [ERe] at r; subst r; rfl
  | (i, v) :: es, kvs, r => by
    simp only [ERe] at r
    obtain ⟨y, ys, rfl, _, q⟩ := r
    have ih := ER_any (k := k) q
    simp only [valueAt, List.find?_cons, List.any_cons] at ih ⊢
    by_cases hk : i = k
    · simp [hk]
    · simp only [hk, decide_false, Bool.false_or]
      exact ih
theorem not_sys {stk : Addr → Prop} {hp : Hp} {s : Shared} (ok : HeapOk P stk hp s) {a : Addr} {o : O} (h : hp a = some o) (hz : (P.H₀.get? sysModules).isSome = true) : (a == sysModules) = false := by
  cases q : a == sysModules with
  | false => rfl
  | true =>
    have : a = sysModules := by simpa using q
    subst this
    have := ok.new _ (by rw [h]; intro z; cases z)
    rw [this] at hz; cases hz
theorem in_core (hz : (P.H₀.get? sysModules).isSome = true) {A : Around} {s : Shared} {hp : Hp} {stk : Addr → Prop} {v u : V} {x y : Value} {r : Bool} (rm : Room 0 A) (ok : HeapOk P stk hp s) (rv : P.VR stk hp s.heap v x) (ru : P.VR stk hp s.heap u y) (h : inRes hp v u r) :
    (∀ (Q : Value → Shared → Prop) E, (∀ n, Q (.bool r) { s with toks := n }) → wpAny P.M A (compareOp .In x y) Q E s) ∧ (∀ (Q : Value → Shared → Prop) E, (∀ n, Q (.bool (!r)) { s with toks := n }) → wpAny P.M A (compareOp .NotIn x y) Q E s) := by
  have lists : inL0 hp v u r → (∀ (Q : Value → Shared → Prop) E, (∀ n, Q (.bool r) { s with toks := n }) → wpAny P.M A (compareOp .In x y) Q E s) ∧ (∀ (Q : Value → Shared → Prop) E, (∀ n, Q (.bool (!r)) { s with toks := n }) → wpAny P.M A (compareOp .NotIn x y) Q E s) := by
    rintro ⟨ds, d, e1, e2, s1, s2, rfl⟩
    obtain ⟨as, r1⟩ := readsD ok ru e1
    obtain ⟨bs, r2⟩ := readsD ok rv e2
    have c1 : PyData.canLayAll0 ds = true := by have := SeqAt.canLay_of_shaped s1; simpa [PyData.canLay0] using this
    have rr := room_in_shaped (A := A) (xs := ds) s2 (by have := rm.units; lia)
    exact ⟨fun Q E q => SeqAt.in_list_reads r1 r2 c1 (SeqAt.canLay_of_shaped s2) rr (q s.toks), fun Q E q => SeqAt.notIn_list_reads r1 r2 c1 (SeqAt.canLay_of_shaped s2) rr (q s.toks)⟩
  cases u with
  | ref a =>
    simp only [VRe] at ru
    subst ru
    change inO hp v a r (hp a) at h
    obtain he | ⟨o, he⟩ : hp a = Option.none ∨ ∃ o, hp a = some o := by cases hp a with | none => exact .inl rfl | some o => exact .inr ⟨o, rfl⟩
    · rw [he] at h; exact lists h
    rw [he] at h
    cases o with
    | dict es ep =>
      obtain ⟨k, rfl, rfl⟩ := h
      simp only [VRe] at rv
      obtain ⟨t, rfl⟩ := rv
      obtain ⟨kvs, hd, er⟩ := ok.obj a _ he
      replace hd := hd.dictOf
      have hs := not_sys ok he hz
      have hk : (intKind P.prog P.w).is k (.int k t) = true := intKind_is _ _ _ _
      rw [← ER_any er]
      refine ⟨fun Q E q => wpAny_in_of hk hs hd.mapOf (q _), fun Q E q => wpAny_notIn_of hk hs hd.mapOf (q _)⟩
    | set xs =>
      obtain ⟨k, rfl, rfl⟩ := h
      simp only [VRe] at rv
      obtain ⟨t, rfl⟩ := rv
      have hd := ok.obj a _ he
      have hk : (intKind P.prog P.w).is k (.int k t) = true := intKind_is _ _ _ _
      exact ⟨fun Q E q => wpAny_inSet_of hk rfl hd (q _), fun Q E q => wpAny_notInSet_of hk rfl hd (q _)⟩
    | _ => exact lists h
  | _ => exact lists h
theorem ok_in (hz : (P.H₀.get? sysModules).isSome = true) : OkB P Fl (compareOp .In) bIn := by
  rintro A s Q X hp stk v u x y rm ok rv ru ⟨r, h, hq⟩
  exact (in_core hz rm ok rv ru h).1 _ _ fun n => hereT ok hq vBool
theorem ok_notIn (hz : (P.H₀.get? sysModules).isSome = true) : OkB P Fl (compareOp .NotIn) bNotIn := by
  rintro A s Q X hp stk v u x y rm ok rv ru ⟨r, h, hq⟩
  exact (in_core hz rm ok rv ru h).2 _ _ fun n => hereT ok hq vBool
end Mine
namespace Mine
noncomputable abbrev DT := (Bool → Hp → Prop) → XA → Loc → Hp → Prop
noncomputable def SimT (P : Par) (Fl : Fly) (d : Nat) (sc : Scope) (e : Expr) (D : DT) : Prop :=
  ∀ (A : Around) (env : Env) (s : Shared) (Q : Bool → Hp → Prop) (X : XA) (loc : Loc) (hp : Hp) (stk : Addr → Prop),
    Room d A → env.scope = sc → EnvOk P A stk hp env loc s → HeapOk P stk hp s → D Q X loc hp →
    T P no1 stk A (isTrue e env (eval e env)) hp s (fun b hp' s' => Q b hp') (lX Fl X)
variable {P : Par} {Fl : Fly} {d : Nat} {sc : Scope}
noncomputable def truthOf (hp : Hp) : V → Option Bool
  | .none => some false
  | .bool b => some b
  | .int i => some (i != 0)
  | .lst vs => some (!vs.isEmpty)
  | .ref a => match hp a with
    | some (.lst vs) => some (!vs.isEmpty)
    | _ => Option.none
  | _ => Option.none
theorem ok_truthy {A : Around} {s : Shared} {Q : Bool → Hp → Prop} {X : XP} {hp : Hp} {stk : Addr → Prop} {v : V} {x : Value} {b : Bool} (ok : HeapOk P stk hp s) (r : P.VR stk hp s.heap v x) (e : truthOf hp v = some b)
    (hsz : ∀ vs, listOf hp v = some vs → vs.length ≤ lim) (hq : Q b hp) : T P no1 stk A (truthy x) hp s (fun b hp' s' => Q b hp') X := by
  have lists : ∀ vs, listOf hp v = some vs → b = !vs.isEmpty → T P no1 stk A (truthy x) hp s (fun b hp' s' => Q b hp') X := by
    intro vs hv hb
    obtain ⟨a, xs, rfl, p, q⟩ := listOf_plain ok r hv
    have hl := q.length
    have hn := hsz vs hv
    have : xs.size = xs.toList.length := by simp
    refine wpAny_truthy_list p.isList ?_ ⟨hp, .toks _, ok.toks _, ?_⟩
    · unfold lim at hn; lia
    · have : (!xs.isEmpty) = b := by
        rw [hb]
        cases vs with
        | nil => have : xs = #[] := by apply Array.eq_empty_of_size_eq_zero; rw [this, hl]; rfl
                 rw [this]; rfl
        | cons v vs =>
          have : xs.isEmpty = false := by
            rw [Array.isEmpty_eq_false_iff]
            intro e0; rw [e0] at hl; simp at hl
          rw [this]; rfl
      rw [this]; exact hq
  cases v with
  | none => simp only [VRe] at r; subst r; cases e; exact wpAny_of_eq (a := false) rfl ⟨hp, .refl .., ok, hq⟩
  | bool c => simp only [VRe] at r; subst r; cases e; exact wpAny_truthy_bool ⟨hp, .refl .., ok, hq⟩
  | int i => simp only [VRe] at r; obtain ⟨t, rfl⟩ := r; cases e; exact PyProof.Rows.truthy_int ⟨hp, .refl .., ok, hq⟩
  | lst vs => cases e; exact lists vs rfl rfl
  | ref a =>
    have e' : (match hp a with | some (.lst vs) => some (!vs.isEmpty) | _ => Option.none) = some b := e
    cases hv : hp a with
    | none => rw [hv] at e'; cases e'
    | some o =>
      cases o with
      | lst vs => rw [hv] at e'; cases e'; exact lists vs (listOf_ref hv) rfl
      | _ => rw [hv] at e'; cases e'
  | _ => cases e
noncomputable def tTru (t : DE) : DT := fun Q X loc hp => t (fun v hp1 => ∃ b, truthOf hp1 v = some b ∧ (∀ vs, listOf hp1 v = some vs → vs.length ≤ lim) ∧ Q b hp1) X loc hp
theorem SimT.val {e : Expr} {D : DE} (h : SimE P Fl d sc e D) (he : ∀ env whole, isTrue e env whole = (do let v ← whole; standAt e.pos; holding [v] (truthy v))) : SimT P Fl d sc e (tTru D) := by
  intro A env s Q X loc hp stk rm hs ev ok hD
  refine wpAny_isTrue_value ?_ (he env _)
  exact (h A env s _ X loc hp stk rm hs ev ok hD).thn (by rintro a hp1 s1 e1 ok1 ⟨v, ⟨b, tb, hsz, q⟩, r⟩; exact T.nxt e1 (ok_truthy ok1 r tb hsz q))
noncomputable def tBin (b : B2) (l r : DE) : DT := fun Q X loc hp => l (fun x hp1 => r (fun y hp2 => b x y (fun v hp3 => ∃ c, v = .bool c ∧ Q c hp3) hp2) X loc hp1) X loc hp
theorem SimT.cmp {l r : Expr} {op : CmpOp} {pos : Pos} {dl dr : DE} {b : B2} (hb : OkB P Fl (compareOp op) b) (hl : SimE P Fl d sc l dl) (hr : SimE P Fl d sc r dr) (hm : behindInMarks op r = false) : SimT P Fl d sc (.Compare l [op] [r] pos) (tBin b dl dr) := by
  intro A env s Q X loc hp stk rm hs ev ok h
  refine wpAny_isTrue_Compare1 ?_ hm
  refine (hl A env s _ X loc hp stk rm hs ev ok h).thn fun a hp1 s1 e1 ok1 hq  => ?_
  obtain ⟨v, q1, r1⟩ := hq
  refine wpAny_mono (hr A env s1 _ X loc hp1 stk rm hs (ev.step ok e1) ok1 q1) (fun y s2 hq  => ?_) fun _ _ z => z.back P e1
  obtain ⟨hp2, e2, ok2, u, q2, r2⟩ := hq
  refine wpAny_mono (hb A s2 _ X hp2 stk v u a y (rm.less (Nat.zero_le _)) ok2 (VR_step e2 r1) r2 q2) (fun z s3 hq  => ?_) fun _ _ z => z.back P (e1.trans e2)
  obtain ⟨hp3, e3, ok3, t, ⟨c, ht, q3⟩, r3⟩ := hq
  subst ht
  simp only [VRe] at r3
  subst r3
  exact wpAny_truthy_bool ⟨hp3, (e1.trans e2).trans e3, ok3, q3⟩
noncomputable def tNot (t : DT) : DT := fun Q X loc hp => t (fun b hp1 => Q (!b) hp1) X loc hp
theorem SimT.not {e : Expr} {pos : Pos} {D : DT} (h : SimT P Fl d sc e D) : SimT P Fl d sc (.UnaryOp .Not e pos) (tNot D) := fun A env s Q X loc hp stk rm hs ev ok hD => wpAny_isTrue_Not (wpAny_mono (h A env s (fun b hp1 => Q (!b) hp1) X loc hp stk rm hs ev ok hD) (by rintro _ _ ⟨a, b, c, q⟩; exact ⟨a, b, c, q⟩) fun _ _ z => z)
noncomputable abbrev DTs := (Bool → Hp → Prop) → XA → Loc → Hp → Prop
noncomputable def SimTs (P : Par) (Fl : Fly) (d : Nat) (sc : Scope) (op : BoolOp) (es : List Expr) (D : DTs) : Prop :=
  ∀ (A : Around) (env : Env) (s : Shared) (Q : Bool → Hp → Prop) (X : XA) (loc : Loc) (hp : Hp) (stk : Addr → Prop),
    Room d A → env.scope = sc → EnvOk P A stk hp env loc s → HeapOk P stk hp s → D Q X loc hp →
    T P no1 stk A (allTrue op es env) hp s (fun b hp' s' => Q b hp') (lX Fl X)
noncomputable def tAnd (a b : DT) : DT := fun Q X loc hp => a (fun c hp1 => if c then b Q X loc hp1 else Q false hp1) X loc hp
noncomputable def tOr (a b : DT) : DT := fun Q X loc hp => a (fun c hp1 => if c then Q true hp1 else b Q X loc hp1) X loc hp
theorem SimTs.andNil : SimTs P Fl d sc .And [] (fun Q _ _ hp => Q true hp) := fun A env s Q X loc hp stk rm hs ev ok hD => wpAny_allTrue_And_nil ⟨hp, .refl .., ok, hD⟩
theorem SimTs.orNil : SimTs P Fl d sc .Or [] (fun Q _ _ hp => Q false hp) := fun A env s Q X loc hp stk rm hs ev ok hD => wpAny_allTrue_Or_nil ⟨hp, .refl .., ok, hD⟩
theorem SimTs.and {e : Expr} {es : List Expr} {a b : DT} (h : SimT P Fl d sc e a) (hr : SimTs P Fl d sc .And es b) : SimTs P Fl d sc .And (e :: es) (tAnd a b) := by
  intro A env s Q X loc hp stk rm hs ev ok hD
  refine wpAny_allTrue_And_cons ((h A env s _ X loc hp stk rm hs ev ok hD).thn fun c hp1 s1 e1 ok1 q => ?_)
  cases c with
  | true => exact T.nxt e1 (hr A env s1 Q X loc hp1 stk rm hs (ev.step ok e1) ok1 q)
  | false => exact ⟨hp1, e1, ok1, q⟩
theorem SimTs.or {e : Expr} {es : List Expr} {a b : DT} (h : SimT P Fl d sc e a) (hr : SimTs P Fl d sc .Or es b) : SimTs P Fl d sc .Or (e :: es) (tOr a b) := by
  intro A env s Q X loc hp stk rm hs ev ok hD
  refine wpAny_allTrue_Or_cons ((h A env s _ X loc hp stk rm hs ev ok hD).thn fun c hp1 s1 e1 ok1 q => ?_)
  cases c with
  | true => exact ⟨hp1, e1, ok1, q⟩
  | false => exact T.nxt e1 (hr A env s1 Q X loc hp1 stk rm hs (ev.step ok e1) ok1 q)
theorem SimT.and2 {x y : Expr} {pos : Pos} {a b : DT} (hx : SimT P Fl d sc x a) (hy : SimT P Fl d sc y b) : SimT P Fl d sc (.BoolOp .And [x, y] pos) (tAnd a (tAnd b fun Q _ _ hp => Q true hp)) :=
  fun A env s Q X loc hp stk rm hs ev ok hD => wpAny_isTrue_BoolOp (SimTs.and hx (SimTs.and hy SimTs.andNil) A env s Q X loc hp stk rm hs ev ok hD)
theorem SimT.or2 {x y : Expr} {pos : Pos} {a b : DT} (hx : SimT P Fl d sc x a) (hy : SimT P Fl d sc y b) : SimT P Fl d sc (.BoolOp .Or [x, y] pos) (tOr a (tOr b fun Q _ _ hp => Q false hp)) :=
  fun A env s Q X loc hp stk rm hs ev ok hD => wpAny_isTrue_BoolOp (SimTs.or hx (SimTs.or hy SimTs.orNil) A env s Q X loc hp stk rm hs ev ok hD)
noncomputable def dIte (t : DT) (a b : DE) : DE := fun Q X loc hp => t (fun c hp1 => if c then a Q X loc hp1 else b Q X loc hp1) X loc hp
theorem Sim.ite {t a b : Expr} {pos : Pos} {dt : DT} {da db : DE} (ht : SimT P Fl d sc t dt) (ha : SimE P Fl d sc a da) (hb : SimE P Fl d sc b db) : SimE P Fl d sc (.IfExp t a b pos) (dIte dt da db) := by
  intro A env s Q X loc hp stk rm hs ev ok hD
  refine wpAny_IfExp ((ht A env s _ X loc hp stk rm hs ev ok hD).thn fun c hp1 s1 e1 ok1 q => ?_)
  cases c with
  | true => exact T.nxt e1 (ha A env s1 Q X loc hp1 stk rm hs (ev.step ok e1) ok1 q)
  | false => exact T.nxt e1 (hb A env s1 Q X loc hp1 stk rm hs (ev.step ok e1) ok1 q)
noncomputable def dNeg (a : DE) : DE := fun Q X loc hp => a (fun v hp1 => ∃ i, v = .int i ∧ Q (.int (-i)) hp1) X loc hp
theorem Sim.neg {a : Expr} {pos : Pos} {da : DE} (ha : SimE P Fl d sc a da) : SimE P Fl d sc (.UnaryOp .USub a pos) (dNeg da) := by
  intro A env s Q X loc hp stk rm hs ev ok hD
  refine wpAny_UnaryOp ((ha A env s _ X loc hp stk rm hs ev ok hD).thn fun x hp1 s1 e1 ok1 hq  => ?_)
  obtain ⟨v, ⟨i, hv, q⟩, r⟩ := hq
  subst hv
  simp only [VRe] at r
  obtain ⟨t, rfl⟩ := r
  exact PyProof.Rows.neg_int ⟨hp1, e1.trans (.toks _), ok1.toks _, _, q, vInt⟩
noncomputable def dOr2 (a b : DE) : DE := fun Q X loc hp => a (fun v hp1 => ∃ c, truthOf hp1 v = some c ∧ (∀ vs, listOf hp1 v = some vs → vs.length ≤ lim) ∧ if c then Q v hp1 else b Q X loc hp1) X loc hp
theorem Sim.or2 {x y : Expr} {pos : Pos} {a b : DE} (hx : SimE P Fl d sc x a) (hy : SimE P Fl d sc y b) : SimE P Fl d sc (.BoolOp .Or [x, y] pos) (dOr2 a b) := by
  intro A env s Q X loc hp stk rm hs ev ok hD
  refine wpAny_Or2 ((hx A env s _ X loc hp stk rm hs ev ok hD).thn fun x hp1 s1 e1 ok1 hq  => ?_)
  obtain ⟨v, ⟨c, tc, hsz, q⟩, r⟩ := hq
  refine wpAny_mono (ok_truthy (Q := fun b hp' => b = c ∧ hp' = hp1) (X := lX Fl X) ok1 r tc hsz ⟨rfl, rfl⟩) (fun b s2 hq  => ?_) fun _ _ z => z.back P e1
  obtain ⟨hp2, e2, ok2, hb, hh⟩ := hq
  subst hb hh
  cases b with
  | true => exact ⟨_, e1.trans e2, ok2, v, q, VR_step e2 r⟩
  | false => exact T.nxt (e1.trans e2) (hy A env s2 Q X loc _ stk rm hs (ev.step ok (e1.trans e2)) ok2 q)
end Mine
namespace Mine
noncomputable abbrev DEs := (List V → Hp → Prop) → XA → Loc → Hp → Prop
noncomputable def SimA (P : Par) (Fl : Fly) (d : Nat) (sc : Scope) (pos : Pos) (es : List Expr) (D : DEs) : Prop :=
  ∀ (A : Around) (env : Env) (s : Shared) (Q : List V → Hp → Prop) (X : XA) (loc : Loc) (hp : Hp) (stk : Addr → Prop),
    Room d A → env.scope = sc → EnvOk P A stk hp env loc s → HeapOk P stk hp s → D Q X loc hp →
    T P no1 stk A (spliced (backTo pos (starEach es env))) hp s (fun xs hp' s' => ∃ vs, Q vs hp' ∧ P.VRs stk hp' s'.heap vs xs) (lX Fl X)
variable {P : Par} {Fl : Fly} {d : Nat} {sc : Scope}
theorem vNil {F : Addr → Prop} {h : Heap} : VRs P.nm F h [] [] := by simp only [VRse]
theorem vCons {F : Addr → Prop} {h : Heap} {v : V} {vs : List V} {x : Value} {xs : List Value} (a : VR P.nm F h v x) (b : VRs P.nm F h vs xs) : VRs P.nm F h (v :: vs) (x :: xs) := by simp only [VRse]; exact ⟨x, xs, rfl, a, b⟩
noncomputable def aNil : DEs := fun Q _ _ hp => Q [] hp
noncomputable def aCons (e : DE) (r : DEs) : DEs := fun Q X loc hp => e (fun v hp1 => r (fun vs hp2 => Q (v :: vs) hp2) X loc hp1) X loc hp
theorem SimA.nil {pos : Pos} : SimA P Fl d sc pos [] aNil := fun A env s Q X loc hp stk rm hs ev ok hD => Calls.spliced_nil ⟨hp, .refl .., ok, [], hD, vNil⟩
theorem SimA.cons {pos : Pos} {e : Expr} {es : List Expr} {D : DE} {R : DEs} (h : SimE P Fl d sc e D) (hr : SimA P Fl d sc pos es R) (he : ∀ env, starEach (e :: es) env = (false, eval e env) :: starEach es env) : SimA P Fl d sc pos (e :: es) (aCons D R) := by
  intro A env s Q X loc hp stk rm hs ev ok hD
  rw [he env]
  refine Calls.spliced_cons ((h A env s _ X loc hp stk rm hs ev ok hD).thn fun x hp1 s1 e1 ok1 hq  => ?_)
  obtain ⟨v, q1, r1⟩ := hq
  refine wpAny_mono (hr A env s1 _ X loc hp1 stk rm hs (ev.step ok e1) ok1 q1) (fun xs s2 hq  => ?_) fun _ _ z => z.back P e1
  obtain ⟨hp2, e2, ok2, vs, q2, r2⟩ := hq
  exact ⟨hp2, e1.trans e2, ok2, v :: vs, q2, vCons (VR_step e2 r1) r2⟩
noncomputable def itemsOf (hp : Hp) : V → Option (List V)
  | .tup vs => some vs
  | v => listOf hp v
theorem itemsOf_real {stk : Addr → Prop} {hp : Hp} {s : Shared} {v : V} {x : Value} {vs : List V} (ok : HeapOk P stk hp s) (r : P.VR stk hp s.heap v x) (h : itemsOf hp v = some vs) :
    ∃ a xs T n, x = .ref a ∧ (T = "list" ∨ T = "tuple") ∧ s.heap.get? a = some { cls := .type T, data := .seq xs n } ∧ P.VRs stk hp s.heap vs xs.toList := by
  cases v with
  | tup us => cases h; simp only [VRe] at r; obtain ⟨a, xs, rfl, _, ⟨n, g⟩, q⟩ := r; exact ⟨a, xs, _, n, rfl, .inr rfl, g, q⟩
  | lst us => obtain ⟨a, xs, rfl, ⟨n, g⟩, q⟩ := listOf_plain ok r h; exact ⟨a, xs, _, n, rfl, .inl rfl, g, q⟩
  | ref b => obtain ⟨a, xs, rfl, ⟨n, g⟩, q⟩ := listOf_plain ok r h; exact ⟨a, xs, _, n, rfl, .inl rfl, g, q⟩
  | _ => cases h
theorem star_items {A : Around} {s : Shared} {hp : Hp} {stk : Addr → Prop} {v : V} {x : Value} {vs : List V} {Q : List Value → Shared → Prop} {E : Value → Shared → Prop} (ok : HeapOk P stk hp s) (r : P.VR stk hp s.heap v x) (h : itemsOf hp v = some vs) (hl : vs.length ≤ lim)
    (hq : ∀ xs h', (∀ b o, s.heap.get? b = some o → h'.get? b = some o) → P.VRs stk hp h' vs xs → Q xs { s with heap := h' }) : StarOf P.M A E x Q s := by
  obtain ⟨a, xs, T, n, rfl, hT, g, q⟩ := itemsOf_real ok r h
  have hz : xs.size ≤ sizeLine := by have h1 := q.length; have h2 : xs.size = xs.toList.length := by simp
                                     have := lim_le; lia
  have z : wpAny P.M A (collect (.ref a)) Q E s := wpAny_collect_seq a hT g rfl rfl (fun h' k => hq _ h' k (VRs_grow k q)) hz
  have hT' : s.TypeIs (.ref a) T := ⟨_, g, rfl⟩
  unfold StarOf notIterableAtAll
  rcases hT with rfl | rfl
  · exact wpAny_bind (wpAny_specialOf hT' PySem.F.slot_list_iter.lookup (wpAny_pure ⟨rfl, z⟩))
  · exact wpAny_bind (wpAny_specialOf hT' PySem.F.slot_tuple_iter.lookup (wpAny_pure ⟨rfl, z⟩))
noncomputable def aStar (e : DE) (r : DEs) : DEs := fun Q X loc hp => e (fun v hp1 => ∃ us, itemsOf hp1 v = some us ∧ us.length ≤ lim ∧ r (fun vs hp2 => Q (us ++ vs) hp2) X loc hp1) X loc hp
theorem SimA.star {pos p : Pos} {e : Expr} {es : List Expr} {D : DE} {R : DEs} (h : SimE P Fl d sc e D) (hr : SimA P Fl d sc pos es R) : SimA P Fl d sc pos (.Starred e p :: es) (aStar D R) := by
  intro A env s Q X loc hp stk rm hs ev ok hD
  refine items_star ((h A env s _ X loc hp stk rm hs ev ok hD).thn fun x hp1 s1 e1 ok1 hq  => ?_) rfl
  obtain ⟨v, ⟨us, hu, hl, q1⟩, r1⟩ := hq
  refine star_items ok1 r1 hu hl fun xs h' k rx => ?_
  have e2 : Ext no1 stk hp1 s1 hp1 { s1 with heap := h' } := Ext.grow (stk := stk) (tk := s1.toks) k
  have ok2 : HeapOk P stk hp1 { s1 with heap := h' } := ok1.grow (tk := s1.toks) k
  refine wpAny_mono (hr A env _ _ X loc hp1 stk rm hs (ev.step ok (e1.trans e2)) ok2 q1) (fun ys s3 hq  => ?_) fun _ _ z => z.back P (e1.trans e2)
  obtain ⟨hp3, e3, ok3, vs, q3, r3⟩ := hq
  exact ⟨hp3, (e1.trans e2).trans e3, ok3, us ++ vs, q3, VRs.append (VRs_step e3 rx) r3⟩
noncomputable def dTup (a : DEs) : DE := fun Q X loc hp => a (fun vs hp1 => vs.length ≤ lim ∧ Q (.tup vs) hp1) X loc hp
theorem Sim.tup {es : List Expr} {k : Nat} {pos : Pos} {D : DEs} (h : SimA P Fl d sc pos es D) : SimE P Fl d sc (.Tuple es k pos) (dTup D) := by
  intro A env s Q X loc hp stk rm hs ev ok hD
  refine wpAny_Tuple ((h A env s _ X loc hp stk rm hs ev ok hD).thn fun xs hp1 s1 e1 ok1 ⟨vs, ⟨hl, q⟩, r⟩ => ⟨?_, ?_⟩)
  · have := r.length; have := lim_le; lia
  · exact (newFrozenT (tk := s1.toks) (xs := xs.toArray) ok1 (by simpa using r) q).back P e1
noncomputable def dLst (a : DEs) : DE := fun Q X loc hp => a (fun vs hp1 => vs.length ≤ lim ∧ Q (.lst vs) hp1) X loc hp
theorem Sim.lst {es : List Expr} {pos : Pos} {D : DEs} (h : SimA P Fl d sc pos es D) : SimE P Fl d sc (.List es pos) (dLst D) := by
  intro A env s Q X loc hp stk rm hs ev ok hD
  refine wpAny_List ((h A env s _ X loc hp stk rm hs ev ok hD).thn fun xs hp1 s1 e1 ok1 ⟨vs, ⟨hl, q⟩, r⟩ => ⟨?_, ?_⟩)
  · have := r.length; have := lim_le; lia
  · exact (newFrozen (tk := s1.toks) (xs := xs.toArray) ok1 (by simpa using r) q).back P e1
noncomputable def dNew (a : DEs) : DE := fun Q X loc hp => a (fun vs hp1 => vs.length ≤ lim ∧ ∀ l, hp1 l = Option.none → Q (.ref l) (upd hp1 l (.lst vs))) X loc hp
theorem Keepy.upd {stk : Addr → Prop} {hp : Hp} {h h' : Heap} {a : Addr} {o : O} (k : ∀ b o, h.get? b = some o → h'.get? b = some o) (hn : h.get? a = Option.none) : Keepy (Fz stk hp) (Fz stk (Mine.upd hp a o)) h h' := by
  rintro b ob ⟨e, n⟩ g
  have : b ≠ a := by rintro rfl; rw [hn] at g; cases g
  exact ⟨⟨by rw [upd_ne this]; exact e, n⟩, k b ob g⟩
theorem newTracked {own stk : Addr → Prop} {hp : Hp} {s : Shared} {ob : Obj} {o : O} {tk : Nat} {Q : V → Hp → Prop} (ok : HeapOk P stk hp s) (hf : ob.isFreed = false)
    (ho : OR P.nm P.prog P.w (Fz stk (upd hp s.heap.objs.size o)) (s.heap.push ob) s.heap.objs.size o) (hq : ∀ l, hp l = Option.none → Q (.ref l) (upd hp l o)) :
    PostT P own stk hp s (PV P stk Q) (.ref s.heap.objs.size) { s with heap := s.heap.push ob, toks := tk } := by
  have k : ∀ b o, s.heap.get? b = some o → (s.heap.push ob).get? b = some o := fun b o e => Heap.get?_push_of_some _ e
  have hn := get_size s.heap
  exact ⟨_, Ext.track (stk := stk) k hn, ok.track k hn ho, .ref _, hq _ (fz_of_new ok hn).1, vRef⟩
theorem Sim.new {es : List Expr} {pos : Pos} {D : DEs} (h : SimA P Fl d sc pos es D) : SimE P Fl d sc (.List es pos) (dNew D) := by
  intro A env s Q X loc hp stk rm hs ev ok hD
  refine wpAny_List ((h A env s _ X loc hp stk rm hs ev ok hD).thn fun xs hp1 s1 e1 ok1 ⟨vs, ⟨hl, q⟩, r⟩ => ⟨?_, ?_⟩)
  · have := r.length; have := lim_le; lia
  · refine (newTracked (tk := s1.toks) (o := .lst vs) ok1 rfl ?_ q).back P e1
    exact ⟨xs.toArray, ⟨0, Heap.get?_push_size _ rfl⟩, by simpa using VRs.keep (Keepy.upd (fun b o e => Heap.get?_push_of_some _ e) (get_size _)) r⟩
noncomputable def dDict : DE := fun Q X loc hp => ∀ l, hp l = Option.none → ∀ ep, Q (.ref l) (upd hp l (.dict [] ep))
theorem Sim.dict {pos : Pos} : SimE P Fl d sc (.Dict [] [] pos) dDict := by
  intro A env s Q X loc hp stk rm hs ev ok hD
  refine wpAny_Dict_empty ?_
  obtain ⟨ep, hd⟩ := (Heap.DictOf.new (knd := intKind P.prog P.w) s.heap).dictAt
  refine newTracked (tk := s.toks) (o := .dict [] ep) ok rfl ?_ fun l hl => hD l hl ep
  exact ⟨[], hd, by simp only [ERe]⟩
noncomputable abbrev DC := List V → (V → Hp → Prop) → XA → Hp → Prop
noncomputable def OkC (P : Par) (Fl : Fly) (d : Nat) (f : Value) (Dc : DC) : Prop :=
  ∀ (A : Around) (s : Shared) (Q : V → Hp → Prop) (X : XA) (hp : Hp) (stk : Addr → Prop) (vs : List V) (xs : List Value), Room d A → Fs A stk s → HeapOk P stk hp s → P.VRs stk hp s.heap vs xs → Dc vs Q X hp →
    T P no1 stk A (call f xs) hp s (PV P stk Q) (lX Fl X)
noncomputable def KeepF (P : Par) (f : Value) : Prop := ∀ h : Heap, (∀ b o, P.H₀.get? b = some o → h.get? b = some o) → ∃ k, (k = Keeper.frame ∨ k = Keeper.machine ∨ k = Keeper.boundFrame) ∧ Looks P.M h (keeperOf f) k
theorem KeepF.builtin (id : String) : KeepF P (.builtin id) := fun h _ => ⟨_, .inr (.inl rfl), Looks.of_pure rfl⟩
theorem KeepF.type (id : String) : KeepF P (.type id) := fun h _ => ⟨_, .inr (.inl rfl), Looks.of_pure rfl⟩
theorem KeepF.inK {f : Value} (X : P.K.In P.H₀) (hk : keepIn P.K f = true) : KeepF P f := fun h k => keeps_K hk h (X.keeps k)
theorem callWith_any {A : Around} {s : Shared} {E : Value → Shared → Prop} {f : Value} {first : List Value} {pos : Pos} {Q : Value → Shared → Prop} {R : Heap → Prop} {args : List (Bool × Sem Value)}
    (hk : ∀ h, R h → ∃ k, (k = Keeper.frame ∨ k = Keeper.machine ∨ k = Keeper.boundFrame) ∧ Looks P.M h (keeperOf f) k)
    (h : wpAny P.M A (evalArgs f true args []) (fun a s₁ => R s₁.heap ∧ wpAny P.M A (call f (first ++ a.pos) a.kw) Q E s₁) E s) : wpAny P.M A (callWith pos f first args []) Q E s := by
  unfold callWith
  refine wpAny_bind (wpAny_holding (wpAny_mono h (fun a s₁ h₁ => wpAny_bind (wpAny_standAt ?_)) fun _ _ x => x))
  obtain ⟨k, hk', L⟩ := hk _ h₁.1
  refine wpAny_bind (L.here ?_)
  have tail : ∀ {t : Sem Value}, wpAny P.M A t Q E s₁ → wpAny P.M A (t >>= fun r => holding [r] point >>= fun _ => pure r) Q E s₁ :=
    fun ht => wpAny_bind (wpAny_mono ht (fun r s₂ hr => wpAny_bind (wpAny_holding (wpAny_point (wpAny_pure hr)))) fun _ _ x => x)
  have marked (mk : Value) : wpAny P.M A (callMarked mk f (first ++ a.pos) a.kw) Q E s₁ := by unfold callMarked; exact Calls.wpAny_keep h₁.2
  cases hst : (args.any (·.1) || ([] : List (Option Str × Sem Value)).any (·.1.isNone)) <;>
  rcases hk' with rfl | rfl | rfl <;> dsimp only <;> first | exact tail (marked _) | exact tail (wpAny_operating h₁.2) | exact tail h₁.2 | (refine wpAny_ite ?_; split <;> first | exact tail (marked _) | exact tail h₁.2)
noncomputable def SimR (P : Par) (Fl : Fly) (d : Nat) (sc : Scope) (pos : Pos) (es : List Expr) (D : DEs) : Prop :=
  ∀ (f : Value) (A : Around) (env : Env) (s : Shared) (Q : List V → Hp → Prop) (X : XA) (loc : Loc) (hp : Hp) (stk : Addr → Prop),
    Room d A → env.scope = sc → EnvOk P A stk hp env loc s → HeapOk P stk hp s → D Q X loc hp →
    T P no1 stk A (evalArgs f true (backTo pos (starEach es env)) []) hp s (fun a hp' s' => a.kw = [] ∧ ∃ vs, Q vs hp' ∧ P.VRs stk hp' s'.heap vs a.pos) (lX Fl X)
theorem SimR.nil {pos : Pos} : SimR P Fl d sc pos [] aNil := fun f A env s Q X loc hp stk rm hs ev ok hD => PySem.evalArgs_none ⟨hp, .refl .., ok, rfl, [], hD, vNil⟩
theorem SimR.of {pos : Pos} {e : Expr} {es : List Expr} {D : DEs} (h : SimA P Fl d sc pos (e :: es) D) (he : ∀ env, starEach (e :: es) env = (false, eval e env) :: starEach es env) : SimR P Fl d sc pos (e :: es) D := by
  intro f A env s Q X loc hp stk rm hs ev ok hD
  have z := h A env s Q X loc hp stk rm hs ev ok hD
  rw [he env] at z ⊢
  exact Calls.evalArgs_plain (wpAny_mono z (by rintro xs s1 ⟨hp1, e1, ok1, vs, q, r⟩; exact ⟨hp1, e1, ok1, rfl, vs, q, r⟩) fun _ _ z => z)
theorem callWith_sim {A : Around} {env : Env} {s : Shared} {loc : Loc} {hp : Hp} {stk : Addr → Prop} {pos : Pos} {es : List Expr} {D : DEs} {Dc : DC} {f : Value} {fv : List V} {first : List Value} {Q : V → Hp → Prop} {X : XA}
    (hr : SimR P Fl d sc pos es D) (hf : OkC P Fl d f Dc) (hk : KeepF P f) (rm : Room d A) (hs : env.scope = sc) (ev : EnvOk P A stk hp env loc s) (ok : HeapOk P stk hp s) (rf : P.VRs stk hp s.heap fv first)
    (h : D (fun vs hp2 => Dc (fv ++ vs) Q X hp2) X loc hp) :
    T P no1 stk A (callWith pos f first (backTo pos (starEach es env)) []) hp s (PV P stk Q) (lX Fl X) := by
  refine callWith_any (R := fun h => ∀ b o, P.H₀.get? b = some o → h.get? b = some o) (fun h k => hk h k) ?_
  refine (hr f A env s _ X loc hp stk rm hs ev ok h).thn fun a hp1 s1 e1 ok1 ⟨hkw, vs, q, r⟩ => ⟨ok1.base, ?_⟩
  rw [hkw]
  exact T.nxt e1 (hf A s1 Q X hp1 stk (fv ++ vs) (first ++ a.pos) rm (ev.step ok e1).frs ok1 (VRs.append (VRs_step e1 rf) r) q)
noncomputable def dCall (Dc : DC) (a : DEs) : DE := fun Q X loc hp => a (fun vs hp1 => Dc vs Q X hp1) X loc hp
theorem Sim.call {x : Str} {np pos : Pos} {es : List Expr} {D : DEs} {Dc : DC} {f : Value} (hn : SimE P Fl d sc (.Name x np) (dCon (.fn f))) (hr : SimR P Fl d sc pos es D) (hf : OkC P Fl d f Dc) (hk : KeepF P f) : SimE P Fl d sc (.Call (.Name x np) es [] pos) (dCall Dc D) := by
  intro A env s Q X loc hp stk rm hs ev ok hD
  refine wpAny_Call_ofName ((hn A env s (fun v hp1 => v = .fn f ∧ hp1 = hp) X loc hp stk rm hs ev ok ⟨rfl, rfl⟩).thn fun y hp1 s1 e1 ok1 hq  => ?_)
  obtain ⟨v, ⟨hv, hh⟩, r⟩ := hq
  subst hv hh
  simp only [VRe] at r
  subst r
  exact T.nxt e1 (callWith_sim (fv := []) (first := []) hr hf hk rm hs (ev.step ok e1) ok1 vNil hD)
noncomputable def Meth (P : Par) (name : Str) (isR : Hp → V → Prop) (f : Value) : Prop :=
  ∀ (A : Around) (s : Shared) (hp : Hp) (stk : Addr → Prop) (v : V) (x : Value) (pl : Sem Bool) (Q : Value × List Value → Shared → Prop) (E : Value → Shared → Prop), HeapOk P stk hp s → P.VR stk hp s.heap v x → isR hp v →
    (∀ tk, Q (f, [x]) { s with toks := tk }) → wpAny P.M A (getMethod x name pl) Q E s
noncomputable def dMeth (isR : Hp → V → Prop) (Dc : DC) (o : DE) (a : DEs) : DE := fun Q X loc hp => o (fun r hp1 => isR hp1 r ∧ a (fun vs hp2 => Dc (r :: vs) Q X hp2) X loc hp1) X loc hp
theorem callMeth {A : Around} {env : Env} {s : Shared} {E : Value → Shared → Prop} {o : Expr} {name : Str} {apos pos : Pos} {args : List Expr} {Q : Value → Shared → Prop}
    (hbase : attributeBase o name env (eval o env) = eval o env)
    (hfew : ((backTo pos (starEach args env)).all (fun x => !x.1)) = true) (hlen : args.length < 29)
    (hline : (apos.endLine == pos.line) = true)
    (h : wpAny P.M A (eval o env) (fun ov s₁ => ∀ pl, wpAny P.M A (getMethod ov name pl) (fun fx s₂ => wpAny P.M A (callWith pos fx.1 fx.2 (backTo pos (starEach args env)) []) Q E s₂) E s₁) E s) :
    wpAny P.M A (eval (.Call (.Attribute o name apos) args [] pos) env) Q E s := by
  rw [arm_eval_Call, hbase]
  refine wpAny_bind (wpAny_mono h (fun ov s₁ h₁ => ?_) fun _ _ e => e)
  refine wpAny_bind (wpAny_standAt ?_)
  have hc : methodCallForm (args.length + ([] : List Keyword).length) (backTo pos (starEach args env)) (backToKw pos (keywordEach [] env)) = true := by
    show ((backTo pos (starEach args env)).all (fun x => !x.1) && true && decide (args.length + 0 + 0 < 30)) = true
    rw [hfew]; simp; lia
  unfold methodCall calleeOf methodCallPos
  rw [hc, if_pos rfl]
  refine wpAny_bind (wpAny_holding (wpAny_mono (h₁ _) (fun fx s₂ h₂ => ?_) fun _ _ e => e))
  obtain ⟨f, first⟩ := fx
  refine wpAny_bind ?_
  rw [if_pos (by rw [hline]; simp)]
  exact wpAny_pure h₂
theorem Sim.meth {o : Expr} {name : Str} {apos pos : Pos} {es : List Expr} {isR : Hp → V → Prop} {f : Value} {Dc : DC} {Do : DE} {D : DEs} (hm : Meth P name isR f) (ho : SimE P Fl d sc o Do) (hr : SimR P Fl d sc pos es D) (hf : OkC P Fl d f Dc) (hk : KeepF P f)
    (hbase : ∀ env, attributeBase o name env (eval o env) = eval o env)
    (hfew : ∀ env, ((backTo pos (starEach es env)).all (fun x => !x.1)) = true) (hlen : es.length < 29)
    (hline : (apos.endLine == pos.line) = true) : SimE P Fl d sc (.Call (.Attribute o name apos) es [] pos) (dMeth isR Dc Do D) := by
  intro A env s Q X loc hp stk rm hs ev ok hD
  refine callMeth (hbase env) (hfew env) hlen hline ((ho A env s _ X loc hp stk rm hs ev ok hD).thn fun x hp1 s1 e1 ok1 ⟨v, ⟨hR, q⟩, r⟩ => fun pl => ?_)
  refine hm A s1 hp1 stk v x pl _ _ ok1 r hR fun tk => ?_
  have e2 : Ext no1 stk hp1 s1 hp1 { s1 with toks := tk } := .toks tk
  exact T.nxt (e1.trans e2) (callWith_sim (fv := [v]) (first := [x]) hr hf hk rm hs (ev.step ok (e1.trans e2)) (ok1.toks tk) (vCons r vNil) q)
end Mine
namespace Mine
inductive Fw where
  | next | brk | cont
  | ret (v : V)
noncomputable abbrev XS := Nat → Loc → Hp → Prop
noncomputable abbrev DS := (Fw → Loc → Hp → Prop) → XS → Loc → Hp → Prop
noncomputable def ownE (env : Env) : Addr → Prop := fun b => b = env.locals ∨ ∃ n, env.cells.lookup n = some b
theorem EnvOk.own {P : Par} {A : Around} {stk : Addr → Prop} {hp : Hp} {env : Env} {loc : Loc} {s : Shared} (ev : EnvOk P A stk hp env loc s) : ∀ b, ownE env b → stk b := by
  rintro b (rfl | ⟨n, h⟩)
  · exact ev.stkL
  · exact ev.stkC _ _ h
noncomputable def ownI (P : Par) (env : Env) (ids : List Nat) : Addr → Prop := fun b => ∃ i ∈ ids, (env.kindOf (P.nm i) = some .local ∧ b = env.locals) ∨ (env.kindOf (P.nm i) = some .cell ∧ env.cells.lookup (P.nm i) = some b)
theorem ownI_E {P : Par} {env : Env} {ids : List Nat} : ∀ b, ownI P env ids b → ownE env b := by
  rintro b ⟨i, _, ⟨_, rfl⟩ | ⟨_, h⟩⟩
  · exact .inl rfl
  · exact .inr ⟨_, h⟩
theorem ownI_mono {P : Par} {env : Env} {ids ids' : List Nat} (h : ∀ i ∈ ids, i ∈ ids') : ∀ b, ownI P env ids b → ownI P env ids' b := (by rintro b ⟨i, m, r⟩; exact ⟨i, h i m, r⟩)
noncomputable def FwR (P : Par) (stk : Addr → Prop) (hp : Hp) (h : Heap) : Fw → Flow → Prop
  | .next, .next => True
  | .brk, .brk => True
  | .cont, .cont => True
  | .ret v, .ret x => P.VR stk hp h v x
  | _, _ => False
@[elab_as_elim] theorem FwR.inv {P : Par} {stk : Addr → Prop} {hp : Hp} {h : Heap} {C : Fw → Flow → Prop} {w : Fw} {f : Flow} (r : FwR P stk hp h w f) (h1 : C .next .next) (h2 : C .brk .brk) (h3 : C .cont .cont) (h4 : ∀ v x, P.VR stk hp h v x → C (.ret v) (.ret x)) : C w f := by
  cases w <;> cases f <;> first | exact r.elim | assumption | exact h4 _ _ r
inductive QS (P : Par) (A : Around) (stk : Addr → Prop) (env : Env) (Q : Fw → Loc → Hp → Prop) (f : Flow) (hp : Hp) (s : Shared) : Prop
  | intro (w : Fw) (loc : Loc) (ev : EnvOk P A stk hp env loc s) (q : Q w loc hp) (r : FwR P stk hp s.heap w f) : QS P A stk env Q f hp s
inductive QX (P : Par) (Fl : Fly) (A : Around) (stk : Addr → Prop) (env : Env) (X : XS) (e : Value) (hp : Hp) (s : Shared) : Prop
  | intro (k : Nat × Hp) (loc : Loc) (ev : EnvOk P A stk hp env loc s) (x : X k.1 loc k.2) (l : Fl k e hp s) : QX P Fl A stk env X e hp s
inductive QG (P : Par) (A : Around) (stk : Addr → Prop) (env : Env) (Q : Loc → Hp → Prop) {α : Type} (x : α) (hp : Hp) (s : Shared) : Prop
  | intro (loc : Loc) (ev : EnvOk P A stk hp env loc s) (q : Q loc hp) : QG P A stk env Q x hp s
noncomputable def SimS (P : Par) (Fl : Fly) (d : Nat) (sc : Scope) (st : Stmt) (D : DS) : Prop :=
  ∀ (A : Around) (env : Env) (s : Shared) (Q : Fw → Loc → Hp → Prop) (X : XS) (loc : Loc) (hp : Hp) (stk : Addr → Prop),
    Room d A → env.scope = sc → EnvOk P A stk hp env loc s → HeapOk P stk hp s → D Q X loc hp →
    T P (ownE env) stk A (exec st env) hp s (QS P A stk env Q) (QX P Fl A stk env X)
noncomputable def SimSs (P : Par) (Fl : Fly) (d : Nat) (sc : Scope) (sts : List Stmt) (D : DS) : Prop :=
  ∀ (A : Around) (env : Env) (s : Shared) (Q : Fw → Loc → Hp → Prop) (X : XS) (loc : Loc) (hp : Hp) (stk : Addr → Prop),
    Room d A → env.scope = sc → EnvOk P A stk hp env loc s → HeapOk P stk hp s → D Q X loc hp →
    T P (ownE env) stk A (execs sts env) hp s (QS P A stk env Q) (QX P Fl A stk env X)
variable {P : Par} {Fl : Fly} {d : Nat} {sc : Scope}
theorem E2 {A : Around} {env : Env} {s : Shared} {loc : Loc} {hp : Hp} {stk : Addr → Prop} {e : Expr} {D : DE} {Q : V → Hp → Prop} {X : XS} {G : Value → Shared → Prop} (h : SimE P Fl d sc e D) (rm : Room d A) (hs : env.scope = sc) (ev : EnvOk P A stk hp env loc s) (ok : HeapOk P stk hp s)
    (hD : D Q (fun k hp' => X k loc hp') loc hp) (k : ∀ v x hp1 s1, Ext no1 stk hp s hp1 s1 → EnvOk P A stk hp1 env loc s1 → HeapOk P stk hp1 s1 → Q v hp1 → P.VR stk hp1 s1.heap v x → G x s1) :
    wpAny P.M A (eval e env) G (PostT P (ownE env) stk hp s (QX P Fl A stk env X)) s :=
  wpAny_mono (h A env s Q _ loc hp stk rm hs ev ok hD) (by rintro x s1 ⟨hp1, e1, ok1, v, q, r⟩; exact k v x hp1 s1 e1 (ev.step ok e1) ok1 q r)
    (by rintro e s1 ⟨hp1, e1, ok1, kk, hx, hf⟩; exact ⟨hp1, e1.of1, ok1, kk, loc, ev.step ok e1, hx, hf⟩)
theorem T2 {A : Around} {env : Env} {s : Shared} {loc : Loc} {hp : Hp} {stk : Addr → Prop} {e : Expr} {D : DT} {Q : Bool → Hp → Prop} {X : XS} {G : Bool → Shared → Prop} (h : SimT P Fl d sc e D) (rm : Room d A) (hs : env.scope = sc) (ev : EnvOk P A stk hp env loc s) (ok : HeapOk P stk hp s)
    (hD : D Q (fun k hp' => X k loc hp') loc hp) (k : ∀ b hp1 s1, Ext no1 stk hp s hp1 s1 → EnvOk P A stk hp1 env loc s1 → HeapOk P stk hp1 s1 → Q b hp1 → G b s1) :
    wpAny P.M A (isTrue e env (eval e env)) G (PostT P (ownE env) stk hp s (QX P Fl A stk env X)) s :=
  wpAny_mono (h A env s Q _ loc hp stk rm hs ev ok hD) (by rintro x s1 ⟨hp1, e1, ok1, q⟩; exact k x hp1 s1 e1 (ev.step ok e1) ok1 q)
    (by rintro e s1 ⟨hp1, e1, ok1, kk, hx, hf⟩; exact ⟨hp1, e1.of1, ok1, kk, loc, ev.step ok e1, hx, hf⟩)
theorem storeVar (inj : ∀ i j, P.nm i = P.nm j → i = j) {A : Around} {env : Env} {s : Shared} {loc : Loc} {hp : Hp} {stk : Addr → Prop} {i : Nat} {v : V} {x : Value} {G : Unit → Shared → Prop} {E : Value → Shared → Prop}
    (hk : (match env.scope.names.lookup (P.nm i) with | some .local => true | some .cell => true | _ => false) = true) (ev : EnvOk P A stk hp env loc s) (ok : HeapOk P stk hp s) (r : P.VR stk hp s.heap v x)
    (k : ∀ s', Ext (ownI P env [i]) stk hp s hp s' → EnvOk P A stk hp env (upd loc i v) s' → HeapOk P stk hp s' → G () s') : wpAny P.M A (storeName env (P.nm i) x) G E s := by
  have hn : ∀ a, stk a → hp a = Option.none := fun a z => by
    cases q : hp a with
    | none => rfl
    | some o => exact absurd z (ok.apart a (by rw [q]; intro z; cases z))
  have main : ∀ (c : Addr) (h' : Heap) (tk : Nat), ownI P env [i] c → Heap.SameBut c s.heap h' → (∃ o, h'.get? c = some o) → (∀ o, s.heap.get? c = some o → isD o → ∃ o', h'.get? c = some o' ∧ isD o') → Ext (ownI P env [i]) stk hp s hp { s with heap := h', toks := tk } ∧ HeapOk P stk hp { s with heap := h', toks := tk } ∧ Keepy (Fz stk hp) (Fz stk hp) s.heap h' := by
    intro c h' tk hc hs ht hdd
    have hsc := ev.own c (ownI_E c hc)
    have ky : Keepy (Fz stk hp) (Fz stk hp) s.heap h' := by
      rintro a o f g
      have : a ≠ c := by rintro rfl; exact f.2 hsc
      exact ⟨f, (hs.2 a this).trans g⟩
    refine ⟨.exact (fun b o e n g => ?_) (fun b o g => ?_) (fun b o st g d => ?_) (fun _ a b => absurd a b) rfl rfl, ⟨fun a o e => (ok.obj a o e).keep ky fun o g => ?_, ok.apart, fun b o e => ?_, ok.new, ok.stkn, fun a z => ?_, ok.gens⟩, ky⟩
    · have : b ≠ c := by rintro rfl; exact n hc
      exact (hs.2 b this).trans g
    · by_cases q : b = c
      · subst q; exact ht
      · exact ⟨o, (hs.2 b q).trans g⟩
    · by_cases q : b = c
      · subst q; exact hdd o g d
      · exact ⟨o, (hs.2 b q).trans g, d⟩
    · have : a ≠ c := by rintro rfl; rw [hn _ hsc] at e; cases e
      exact (hs.2 a this).trans g
    · have : b ≠ c := by rintro rfl; rw [ok.stkn _ hsc] at e; cases e
      exact (hs.2 b this).trans (ok.base b o e)
    · by_cases q : a = c
      · subst q; exact ht
      · obtain ⟨o, e⟩ := ok.stkl a z; exact ⟨o, (hs.2 a q).trans e⟩
  have hkind : env.kindOf (P.nm i) = env.scope.names.lookup (P.nm i) := rfl
  rw [← hkind] at hk
  cases q : env.kindOf (P.nm i) with
  | none => rw [q] at hk; cases hk
  | some kd =>
    rw [q] at hk
    obtain ⟨m, n, hm⟩ := ev.ns
    cases kd with
    | «local» =>
      refine wpAny_storeName_local q n (fun h' hn' hs' => ?_) (by rw [ev.kind]; rfl)
      obtain ⟨e, ok', ky⟩ := main env.locals h' (s.toks + 1) ⟨i, by simp, .inl ⟨q, rfl⟩⟩ hs' (by obtain ⟨o, _, _, g, _⟩ := hn'; exact ⟨o, g⟩) (fun _ _ _ => (by obtain ⟨o, es, ep, g, d, _⟩ := hn'; exact ⟨o, g, es, ep, d⟩))
      refine k _ e ⟨ev.kind, ev.glob, ev.blt, ⟨_, hn', fun j u hj hl => ?_⟩, fun j u hj hl => ?_, ev.stkL, ev.stkC, fun nn kk => ?_, ev.apart, ev.apartL, ev.frs.step e, ev.top⟩ ok'
      · by_cases ji : j = i
        · subst ji; rw [upd_same] at hj; cases hj; exact ⟨x, by simp, r.keep ky⟩
        · rw [upd_ne ji] at hj
          obtain ⟨y, p, ry⟩ := hm j u hj hl
          exact ⟨y, by rw [if_neg (fun z => ji (inj _ _ z))]; exact p, ry.keep ky⟩
      · have ji : j ≠ i := by rintro rfl; rw [q] at hl; rcases hl with z | z <;> cases z
        rw [upd_ne ji] at hj
        obtain ⟨c, y, p, g, ry⟩ := ev.cell j u hj hl
        exact ⟨c, y, p, g.sameBut hs' (fun z => ev.apartL _ (z ▸ p)), ry.keep ky⟩
      · obtain ⟨c, y, p, g⟩ := ev.cells nn kk
        exact ⟨c, y, p, g.sameBut hs' (fun z => ev.apartL _ (z ▸ p))⟩
    | cell =>
      obtain ⟨c, y, p, g⟩ := ev.cells _ (.inl q)
      refine wpAny_storeName_cell ev.kind q p g fun h' hc' hs' => ?_
      have hLc : env.locals ≠ c := fun z => ev.apartL _ (z ▸ p)
      obtain ⟨e, ok', ky⟩ := main c h' s.toks ⟨i, by simp, .inr ⟨q, p⟩⟩ hs' (by obtain ⟨o, g, _⟩ := hc'; exact ⟨o, g⟩) (fun o g' d' => by obtain ⟨o2, g2, r2⟩ := g; rw [g'] at g2; cases g2; exact absurd d' (isD_cell r2))
      refine k _ e ⟨ev.kind, ev.glob, ev.blt, ⟨m, n.sameBut hs' hLc, fun j u hj hl => ?_⟩, fun j u hj hl => ?_, ev.stkL, ev.stkC, fun nn kk => ?_, ev.apart, ev.apartL, ev.frs.step e, ev.top⟩ ok'
      · have ji : j ≠ i := by rintro rfl; rw [q] at hl; cases hl
        rw [upd_ne ji] at hj
        obtain ⟨y, p, ry⟩ := hm j u hj hl
        exact ⟨y, p, ry.keep ky⟩
      · by_cases ji : j = i
        · subst ji; rw [upd_same] at hj; cases hj; exact ⟨c, x, p, hc', r.keep ky⟩
        · rw [upd_ne ji] at hj
          obtain ⟨c2, y2, p2, g2, ry⟩ := ev.cell j u hj hl
          exact ⟨c2, y2, p2, g2.sameBut hs' (fun z => ji (inj _ _ (ev.apart _ _ _ p2 (z ▸ p)))), ry.keep ky⟩
      · obtain ⟨c2, y2, p2, g2⟩ := ev.cells nn kk
        by_cases cc : c2 = c
        · subst cc; exact ⟨c2, _, p2, hc'⟩
        · exact ⟨c2, y2, p2, g2.sameBut hs' cc⟩
    | _ => cases hk
noncomputable abbrev DA := V → (Loc → Hp → Prop) → XS → Loc → Hp → Prop
noncomputable def SimG (P : Par) (Fl : Fly) (d : Nat) (sc : Scope) (t : Expr) (ids : List Nat) (D : DA) : Prop :=
  ∀ (A : Around) (env : Env) (s : Shared) (Q : Loc → Hp → Prop) (X : XS) (loc : Loc) (hp : Hp) (stk : Addr → Prop) (v : V) (x : Value),
    Room d A → env.scope = sc → EnvOk P A stk hp env loc s → HeapOk P stk hp s → P.VR stk hp s.heap v x → D v Q X loc hp →
    T P (ownI P env ids) stk A (assign t env x) hp s (QG P A stk env Q) (QX P Fl A stk env X)
noncomputable def gVar (i : Nat) : DA := fun v Q X loc hp => Q (upd loc i v) hp
theorem SimG.var (inj : ∀ i j, P.nm i = P.nm j → i = j) {i : Nat} {x : Str} {pos : Pos} (hx : P.nm i = x) (hk : (match sc.names.lookup x with | some .local => true | some .cell => true | _ => false) = true) : SimG P Fl d sc (.Name x pos) [i] (gVar i) := by
  subst hx
  intro A env s Q X loc hp stk v x rm hs ev ok r hD
  refine wpAny_assign_Name (storeVar inj (by rw [hs]; exact hk) ev ok r fun s' e ev' ok' => ⟨hp, e, ok', _, ev', hD⟩)
theorem SimG.wide {t : Expr} {it : List Nat} {D : DA} (h : SimG P Fl d sc t it D) {A : Around} {env : Env} {s : Shared} {Q : Loc → Hp → Prop} {X : XS} {loc : Loc} {hp : Hp} {stk : Addr → Prop} {v : V} {x : Value}
    (rm : Room d A) (hs : env.scope = sc) (ev : EnvOk P A stk hp env loc s) (ok : HeapOk P stk hp s) (r : P.VR stk hp s.heap v x) (hD : D v Q X loc hp) :
    T P (ownE env) stk A (assign t env x) hp s (QG P A stk env Q) (QX P Fl A stk env X) :=
  wpAny_mono (h A env s Q X loc hp stk v x rm hs ev ok r hD) (by rintro _ _ ⟨hp', e, z, z'⟩; exact ⟨hp', e.wider ownI_E, z, z'⟩) (by rintro _ _ ⟨hp', e, z, z'⟩; exact ⟨hp', e.wider ownI_E, z, z'⟩)
theorem VR_stepE {A : Around} {stk : Addr → Prop} {hp hp' : Hp} {env : Env} {loc : Loc} {s₀ s s' : Shared} {hp₀ : Hp} {v : V} {x : Value} (ev : EnvOk P A stk hp₀ env loc s₀) (e : Ext (ownE env) stk hp s hp' s') (h : P.VR stk hp s.heap v x) : P.VR stk hp' s'.heap v x := VR.keep (e.keepy ev.own) h
noncomputable def sAsg (e : DE) (t : DA) : DS := fun Q X loc hp => e (fun v hp1 => t v (fun loc' hp2 => Q .next loc' hp2) X loc hp1) (fun k hp' => X k loc hp') loc hp
theorem SimS.asgName {i : Nat} {x : Str} {pos pos' : Pos} {e : Expr} {D : DE} (inj : ∀ i j, P.nm i = P.nm j → i = j) (hx : P.nm i = x) (hk : (match sc.names.lookup x with | some .local => true | some .cell => true | _ => false) = true)
    (h : SimE P Fl d sc e D) (hs' : ∀ env : Env, env.scope = sc → swapsWith e (some (.Name x pos')) pos.line env = pure false) : SimS P Fl d sc (.Assign [.Name x pos'] e pos) (sAsg D (gVar i)) := by
  subst hx
  intro A env s Q X loc hp stk rm hs ev ok hD
  refine wpAny_Assign_Name (E2 h rm hs ev ok hD fun v x hp1 s1 e1 ev1 ok1 q r => ?_) (hs' env hs)
  exact storeVar inj (by rw [hs]; exact hk) ev1 ok1 r fun s' e ev' ok' => ⟨hp1, e1.of1.trans (e.wider ownI_E), ok', .next, _, ev', q, trivial⟩
theorem SimS.asg {t e : Expr} {pos : Pos} {D : DE} {Dt : DA} {it : List Nat} (h : SimE P Fl d sc e D) (ht : SimG P Fl d sc t it Dt)
    (he : ∀ env, (assignEach [t] env).map (·.2) = [assign t env]) (hs' : ∀ env, swapsWithSole [t] e pos.line env = pure false) (hw : ∀ env, swappedStores [t] e env = pure Option.none) : SimS P Fl d sc (.Assign [t] e pos) (sAsg D Dt) := by
  intro A env s Q X loc hp stk rm hs ev ok hD
  refine wpAny_Assign_stores (E2 h rm hs ev ok hD fun v x hp1 s1 e1 ev1 ok1 q r => ?_) (hs' env) (hw env)
  rw [he env]
  refine wpAny_mono (ht.wide rm hs ev1 ok1 r q) (fun _ s2 hq  => ?_) fun _ _ z => z.back P e1.of1
  obtain ⟨hp2, e2, ok2, loc2, ev2, q2⟩ := hq
  exact ⟨hp2, e1.of1.trans e2, ok2, .next, loc2, ev2, q2, trivial⟩
noncomputable def sAsg2 (e : DE) (t u : DA) : DS := fun Q X loc hp => e (fun v hp1 => t v (fun loc2 hp2 => u v (fun loc3 hp3 => Q .next loc3 hp3) X loc2 hp2) X loc hp1) (fun k hp' => X k loc hp') loc hp
theorem SimS.asg2 {t u e : Expr} {pos : Pos} {D : DE} {Dt Du : DA} {it iu : List Nat} (h : SimE P Fl d sc e D) (ht : SimG P Fl d sc t it Dt) (hu : SimG P Fl d sc u iu Du)
    (he : ∀ env, (assignEach [t, u] env).map (·.2) = [assign t env, assign u env]) (hw : ∀ env, swappedStores [t, u] e env = pure Option.none) : SimS P Fl d sc (.Assign [t, u] e pos) (sAsg2 D Dt Du) := by
  intro A env s Q X loc hp stk rm hs ev ok hD
  refine wpAny_Assign_two (E2 h rm hs ev ok hD fun v x hp1 s1 e1 ev1 ok1 q r => ?_) (he env) (hw env)
  refine wpAny_mono (ht.wide rm hs ev1 ok1 r q) (fun _ s2 hq  => ?_) fun _ _ z => z.back P e1.of1
  obtain ⟨hp2, e2, ok2, loc2, ev2, q2⟩ := hq
  refine wpAny_mono (hu.wide rm hs ev2 ok2 (VR_stepE ev1 e2 r) q2) (fun _ s3 hq  => ?_) fun _ _ z => z.back P (e1.of1.trans e2)
  obtain ⟨hp3, e3, ok3, loc3, ev3, q3⟩ := hq
  exact ⟨hp3, (e1.of1.trans e2).trans e3, ok3, .next, loc3, ev3, q3, trivial⟩
noncomputable def sAsg3 (e : DE) (t u w : DA) : DS := fun Q X loc hp => e (fun v hp1 => t v (fun loc2 hp2 => u v (fun loc3 hp3 => w v (fun loc4 hp4 => Q .next loc4 hp4) X loc3 hp3) X loc2 hp2) X loc hp1) (fun k hp' => X k loc hp') loc hp
theorem SimS.asg3 {t u w e : Expr} {pos : Pos} {D : DE} {Dt Du Dw : DA} {it iu iw : List Nat} (h : SimE P Fl d sc e D) (ht : SimG P Fl d sc t it Dt) (hu : SimG P Fl d sc u iu Du) (hw3 : SimG P Fl d sc w iw Dw)
    (he : ∀ env, (assignEach [t, u, w] env).map (·.2) = [assign t env, assign u env, assign w env]) (hw : ∀ env, swappedStores [t, u, w] e env = pure Option.none) : SimS P Fl d sc (.Assign [t, u, w] e pos) (sAsg3 D Dt Du Dw) := by
  intro A env s Q X loc hp stk rm hs ev ok hD
  refine wpAny_Assign_three (E2 h rm hs ev ok hD fun v x hp1 s1 e1 ev1 ok1 q r => ?_) (he env) (hw env)
  refine wpAny_mono (ht.wide rm hs ev1 ok1 r q) (fun _ s2 hq  => ?_) fun _ _ z => z.back P e1.of1
  obtain ⟨hp2, e2, ok2, loc2, ev2, q2⟩ := hq
  refine wpAny_mono (hu.wide rm hs ev2 ok2 (VR_stepE ev1 e2 r) q2) (fun _ s3 hq  => ?_) fun _ _ z => z.back P (e1.of1.trans e2)
  obtain ⟨hp3, e3, ok3, loc3, ev3, q3⟩ := hq
  refine wpAny_mono (hw3.wide rm hs ev3 ok3 (VR_stepE ev1 (e2.trans e3) r) q3) (fun _ s4 hq  => ?_) fun _ _ z => z.back P ((e1.of1.trans e2).trans e3)
  obtain ⟨hp4, e4, ok4, loc4, ev4, q4⟩ := hq
  exact ⟨hp4, ((e1.of1.trans e2).trans e3).trans e4, ok4, .next, loc4, ev4, q4, trivial⟩
noncomputable def sRet (e : DE) : DS := fun Q X loc hp => e (fun v hp1 => Q (.ret v) loc hp1) (fun k hp' => X k loc hp') loc hp
theorem SimS.ret {e : Expr} {pos : Pos} {D : DE} (h : SimE P Fl d sc e D) : SimS P Fl d sc (.Return (some e) pos) (sRet D) := fun A env s Q X loc hp stk rm hs ev ok hD =>
  wpAny_Return_some (E2 h rm hs ev ok hD fun v x hp1 s1 e1 ev1 ok1 q r => ⟨hp1, e1.of1, ok1, .ret v, loc, ev1, q, r⟩)
noncomputable def sExp (e : DE) : DS := fun Q X loc hp => e (fun v hp1 => Q .next loc hp1) (fun k hp' => X k loc hp') loc hp
theorem SimS.exp {e : Expr} {pos : Pos} {D : DE} (h : SimE P Fl d sc e D) (hi : ∀ env, swapsWith e Option.none pos.line env = pure false) : SimS P Fl d sc (.Expr e pos) (sExp D) := fun A env s Q X loc hp stk rm hs ev ok hD =>
  wpAny_Expr_any (E2 h rm hs ev ok hD fun v x hp1 s1 e1 ev1 ok1 q r => ⟨hp1, e1.of1, ok1, .next, loc, ev1, q, trivial⟩) (by unfold interactive; rw [ev.kind]; rfl) (hi env)
noncomputable def sSkip : DS := fun Q X loc hp => Q .next loc hp
noncomputable def sBrk : DS := fun Q X loc hp => Q .brk loc hp
noncomputable def sCont : DS := fun Q X loc hp => Q .cont loc hp
theorem SimS.brk {pos : Pos} : SimS P Fl d sc (.Break pos) sBrk := fun A env s Q X loc hp stk rm hs ev ok hD => wpAny_Break ⟨hp, .refl .., ok, .brk, loc, ev, hD, trivial⟩
theorem SimS.cont {pos : Pos} : SimS P Fl d sc (.Continue pos) sCont := fun A env s Q X loc hp stk rm hs ev ok hD => wpAny_Continue ⟨hp, .refl .., ok, .cont, loc, ev, hD, trivial⟩
theorem SimSs.nil : SimSs P Fl d sc [] sSkip := fun A env s Q X loc hp stk rm hs ev ok hD => wpAny_execs_nil ⟨hp, .refl .., ok, .next, loc, ev, hD, trivial⟩
noncomputable def sSeq (a b : DS) : DS := fun Q X loc hp => a (fun w loc1 hp1 => match w with | .next => b Q X loc1 hp1 | w => Q w loc1 hp1) X loc hp
theorem SimSs.cons {st : Stmt} {sts : List Stmt} {a b : DS} (h : SimS P Fl d sc st a) (hr : SimSs P Fl d sc sts b) : SimSs P Fl d sc (st :: sts) (sSeq a b) := by
  intro A env s Q X loc hp stk rm hs ev ok hD
  refine wpAny_execs_cons ((h A env s _ X loc hp stk rm hs ev ok hD).thn fun f hp1 s1 e1 ok1 hq  => ?_)
  obtain ⟨w, loc1, ev1, q1, r1⟩ := hq
  revert q1
  refine FwR.inv r1 (fun q1 => ?_) (fun q1 => ?_) (fun q1 => ?_) (fun v x r q1 => ?_)
  · exact T.nxt e1 (hr A env s1 Q X loc1 hp1 stk rm hs ev1 ok1 q1)
  · exact ⟨hp1, e1, ok1, .brk, loc1, ev1, q1, trivial⟩
  · exact ⟨hp1, e1, ok1, .cont, loc1, ev1, q1, trivial⟩
  · exact ⟨hp1, e1, ok1, .ret _, loc1, ev1, q1, r⟩
noncomputable def sIf (t : DT) (a b : DS) : DS := fun Q X loc hp => t (fun c hp1 => if c then a Q X loc hp1 else b Q X loc hp1) (fun k hp' => X k loc hp') loc hp
theorem SimS.iff {t : Expr} {xs ys : List Stmt} {pos : Pos} {dt : DT} {a b : DS} (ht : SimT P Fl d sc t dt) (ha : SimSs P Fl d sc xs a) (hb : SimSs P Fl d sc ys b) : SimS P Fl d sc (.If t xs ys pos) (sIf dt a b) := by
  intro A env s Q X loc hp stk rm hs ev ok hD
  refine wpAny_If (T2 ht rm hs ev ok hD fun c hp1 s1 e1 ev1 ok1 q => ?_)
  cases c with
  | true => exact T.nxt e1.of1 (ha A env s1 Q X loc hp1 stk rm hs ev1 ok1 q)
  | false => exact T.nxt e1.of1 (hb A env s1 Q X loc hp1 stk rm hs ev1 ok1 q)
end Mine
namespace Mine
variable {A : Around} {P : Par} {Fl : Fly} {d : Nat} {sc : Scope}
noncomputable def plus (stk : Addr → Prop) (I : Addr) : Addr → Prop := fun a => stk a ∨ a = I
theorem fzPlus {stk : Addr → Prop} {hp : Hp} {h h' : Heap} {I : Addr} (hn : h.get? I = Option.none) (k : ∀ b o, h.get? b = some o → h'.get? b = some o) : Keepy (Fz stk hp) (Fz (plus stk I) hp) h h' := by
  rintro a o ⟨e, n⟩ g
  refine ⟨⟨e, ?_⟩, k a o g⟩
  rintro (z | rfl)
  · exact n z
  · rw [hn] at g; cases g
theorem fzMinus {stk : Addr → Prop} {hp : Hp} {h : Heap} {I : Addr} : Keepy (Fz (plus stk I) hp) (Fz stk hp) h h := fun a o f g => ⟨⟨f.1, fun z => f.2 (.inl z)⟩, g⟩
theorem okPlus {stk : Addr → Prop} {hp : Hp} {s : Shared} (ok : HeapOk P stk hp s) {h' : Heap} {tk : Nat} {I : Addr} (hn : s.heap.get? I = Option.none) (k : ∀ b o, s.heap.get? b = some o → h'.get? b = some o) (hI : ∃ o, h'.get? I = some o) : HeapOk P (plus stk I) hp { s with heap := h', toks := tk } := by
  have fz := fz_of_new ok hn
  refine ⟨fun a o e => (ok.obj a o e).keep (fzPlus hn k) (fun o g => k a o g), fun a e => ?_, fun b o e => k b o (ok.base b o e), ok.new, fun a z => ?_, fun a z => ?_, ok.gens⟩
  · rintro (z | rfl)
    · exact ok.apart a e z
    · exact e fz.1
  · rcases z with z | rfl
    · exact ok.stkn a z
    · cases g : P.H₀.get? a with
      | none => rfl
      | some o => have := ok.base a o g; rw [hn] at this; cases this
  · rcases z with z | rfl
    · obtain ⟨o, e⟩ := ok.stkl a z; exact ⟨o, k a o e⟩
    · exact hI
theorem okMinus {stk : Addr → Prop} {hp : Hp} {s : Shared} {I : Addr} (ok : HeapOk P (plus stk I) hp s) : HeapOk P stk hp s :=
  ⟨fun a o e => (ok.obj a o e).keep fzMinus (fun o g => g), fun a e z => ok.apart a e (.inl z), ok.base, ok.new, fun a z => ok.stkn a (.inl z), fun a z => ok.stkl a (.inl z), ok.gens⟩
theorem evPlus {stk : Addr → Prop} {hp : Hp} {env : Env} {loc : Loc} {s : Shared} (ev : EnvOk P A stk hp env loc s) (ok : HeapOk P stk hp s) {h' : Heap} {tk : Nat} {I : Addr} (hn : s.heap.get? I = Option.none) (k : ∀ b o, s.heap.get? b = some o → h'.get? b = some o) : EnvOk P A (plus stk I) hp env loc { s with heap := h', toks := tk } := by
  have ky := fzPlus (stk := stk) (hp := hp) hn k
  refine ⟨ev.kind, ev.glob, ev.blt, ?_, fun i v h kk => ?_, .inl ev.stkL, fun n c h => .inl (ev.stkC n c h), fun n kk => ?_, ev.apart, ev.apartL, ev.frs.up (fun a z => .inl z) fun b o _ g d => ⟨o, k b o g, d⟩, ev.top⟩
  · obtain ⟨m, n, h⟩ := ev.ns
    exact ⟨m, n.keeps k, fun i v a b => (by obtain ⟨y, p, q⟩ := h i v a b; exact ⟨y, p, q.keep ky⟩)⟩
  · obtain ⟨c, y, p, g, q⟩ := ev.cell i v h kk
    exact ⟨c, y, p, g.keeps k, q.keep ky⟩
  · obtain ⟨c, y, p, g⟩ := ev.cells n kk
    exact ⟨c, y, p, g.keeps k⟩
theorem evMinus {stk : Addr → Prop} {hp : Hp} {env : Env} {loc : Loc} {s : Shared} {I : Addr} (ev : EnvOk P A (plus stk I) hp env loc s) (hL : stk env.locals) (hC : ∀ n c, env.cells.lookup n = some c → stk c) (hF : Fs A stk s) : EnvOk P A stk hp env loc s := by
  refine ⟨ev.kind, ev.glob, ev.blt, ?_, fun i v h kk => ?_, hL, hC, ev.cells, ev.apart, ev.apartL, hF, ev.top⟩
  · obtain ⟨m, n, h⟩ := ev.ns
    exact ⟨m, n, fun i v a b => (by obtain ⟨y, p, q⟩ := h i v a b; exact ⟨y, p, q.keep fzMinus⟩)⟩
  · obtain ⟨c, y, p, g, q⟩ := ev.cell i v h kk
    exact ⟨c, y, p, g, q.keep fzMinus⟩
theorem extMinus {own stk : Addr → Prop} {hp hp' : Hp} {s s1 s' : Shared} {I : Addr} (e1 : Ext own stk hp s hp s1) (hn : s.heap.get? I = Option.none) (e : Ext (plus own I) (plus stk I) hp s1 hp' s') : Ext own stk hp s hp' s' := by
  refine ⟨fun b o h n g => ?_, fun b o g => ?_, fun b o st g d => ?_, fun b h n => ?_, e.drawn.trans e1.drawn, e.os.trans e1.os⟩
  · have ne : b ≠ I := by rintro rfl; rw [hn] at g; cases g
    have st : plus stk I b → stk b := fun z => z.elim id fun q => absurd q ne
    rcases e1.keep b o h n g with g1 | ⟨a, d, sl, g1⟩
    · rcases e.keep b o h (fun z => z.elim n ne) g1 with g2 | ⟨a, d, sl, g2⟩
      · exact .inl g2
      · exact .inr ⟨st a, d, sl, g2⟩
    · rcases e.keep b _ h (fun z => z.elim n ne) g1 with g2 | ⟨_, _, sl2, g2⟩
      · exact .inr ⟨a, d, sl, g2⟩
      · exact .inr ⟨a, d, sl2, g2⟩
  · obtain ⟨o', g'⟩ := e1.there b o g; exact e.there b o' g'
  · obtain ⟨o', g', d'⟩ := e1.dic b o st g d
    exact e.dic b o' (.inl st) g' d'
  · have := e.fresh b h n
    cases g : s.heap.get? b with
    | none => rfl
    | some o => obtain ⟨o', g'⟩ := e1.there b o g; rw [this] at g'; cases g'
theorem leaveI {own stk : Addr → Prop} {hp hp2 : Hp} {env : Env} {loc : Loc} {s s1 s2 : Shared} {I : Addr} {h' : Heap} {tk : Nat} (e1 : Ext own stk hp s hp s1) (hn : s.heap.get? I = Option.none) (e : Ext (plus own I) (plus stk I) hp s1 hp2 s2) (hI : ¬ stk I) (ok : HeapOk P (plus stk I) hp2 s2)
    (k : ∀ b o, b ≠ I → s2.heap.get? b = some o → h'.get? b = some o) : Ext own stk hp s hp2 { s2 with heap := h', toks := tk } ∧ HeapOk P stk hp2 { s2 with heap := h', toks := tk } ∧ (stk env.locals → (∀ n c, env.cells.lookup n = some c → stk c) → Fs A stk s → EnvOk P A (plus stk I) hp2 env loc s2 → EnvOk P A stk hp2 env loc { s2 with heap := h', toks := tk }) := by
  have ne : ∀ a, stk a → a ≠ I := fun a z q => hI (q ▸ z)
  have ky : Keepy (Fz (plus stk I) hp2) (Fz stk hp2) s2.heap h' := fun a o f g => ⟨⟨f.1, fun z => f.2 (.inl z)⟩, k a o (fun q => f.2 (.inr q)) g⟩
  have em := extMinus e1 hn e
  have ex : Ext own stk hp s hp2 { s2 with heap := h', toks := tk } := by
    have nI : ∀ b o, s.heap.get? b = some o → b ≠ I := by rintro b o g rfl; rw [hn] at g; cases g
    refine ⟨fun b o h n g => ?_, fun b o g => ?_, fun b o st g d => ?_, em.fresh, em.drawn, em.os⟩
    · rcases em.keep b o h n g with g1 | ⟨a, d, sl, g1⟩
      · exact .inl (k b o (nI b o g) g1)
      · exact .inr ⟨a, d, sl, k b _ (nI b o g) g1⟩
    · obtain ⟨o', g'⟩ := em.there b o g
      exact ⟨o', k b o' (nI b o g) g'⟩
    · obtain ⟨o', g', d'⟩ := em.dic b o st g d
      exact ⟨o', k b o' (nI b o g) g', d'⟩
  refine ⟨ex, ⟨fun a o h => (ok.obj a o h).keep ky fun o g => k a o ?_ g, fun a h z => ok.apart a h (.inl z), fun b o h => k b o ?_ (ok.base b o h), ok.new, fun a z => ok.stkn a (.inl z), fun a z => ?_, ok.gens⟩, fun hL hC hF ev => ?_⟩
  · rintro rfl; exact ok.apart a (by rw [h]; intro z; cases z) (.inr rfl)
  · rintro rfl; rw [ok.stkn b (.inr rfl)] at h; cases h
  · obtain ⟨o, g⟩ := ok.stkl a (.inl z); exact ⟨o, k a o (ne a z) g⟩
  · refine ⟨ev.kind, ev.glob, ev.blt, ?_, fun i v h kk => ?_, hL, hC, fun n kk => ?_, ev.apart, ev.apartL, hF.step ex, ev.top⟩
    · obtain ⟨m, ⟨o, es, ep, g, r⟩, h⟩ := ev.ns
      exact ⟨m, ⟨o, es, ep, k _ _ (ne _ hL) g, r⟩, fun i v a b => (by obtain ⟨y, p, q⟩ := h i v a b; exact ⟨y, p, q.keep ky⟩)⟩
    · obtain ⟨c, y, p, ⟨o, g, r⟩, q⟩ := ev.cell i v h kk
      exact ⟨c, y, p, ⟨o, k _ _ (ne _ (hC _ _ p)) g, r⟩, q.keep ky⟩
    · obtain ⟨c, y, p, ⟨o, g, r⟩⟩ := ev.cells n kk
      exact ⟨c, y, p, ⟨o, k _ _ (ne _ (hC _ _ p)) g, r⟩⟩
structure Wlk (P : Par) (v : V) (x : Value) (I : Addr) (vs : List V) (src : Hp → Prop) (St : Nat → Heap → Prop) : Prop where
  item : ∀ (A : Around) (target : Expr) (i : Nat) (s : Shared) (hp : Hp) (stk : Addr → Prop) (Q : Value → Shared → Prop) (E : Value → Shared → Prop) (hi : i < vs.length), A.handled = none → St i s.heap → HeapOk P stk hp s → P.VR stk hp s.heap v x → src hp → stk I →
    (∀ y h' tk, P.VR stk hp h' vs[i] y → St (i + 1) h' → (∀ b o, b ≠ I → s.heap.get? b = some o → h'.get? b = some o) → Q y { s with heap := h', toks := tk }) →
    wpAny P.M A (pyNext (.ref I)) (fun r s1 => ∃ y, r = some y ∧ wpAny P.M A (letOwnedTupleGo target (.ref I) y) (fun _ s2 => Q y s2) E s1) E s
  done : ∀ (A : Around) (s : Shared) (hp : Hp) (stk : Addr → Prop) (Q : Shared → Prop) (E : Value → Shared → Prop), A.handled = none → St vs.length s.heap → HeapOk P stk hp s → P.VR stk hp s.heap v x → src hp → stk I →
    (∀ h' tk, (∀ b o, b ≠ I → s.heap.get? b = some o → h'.get? b = some o) → Q { s with heap := h', toks := tk }) →
    wpAny P.M A (pyNext (.ref I)) (fun r s1 => r = Option.none ∧ Q s1) E s
  frame : ∀ i h h', St i h → (∀ o, h.get? I = some o → h'.get? I = some o) → St i h'
  self : ∀ (A : Around) i (s : Shared) (Q : Value → Shared → Prop) (E : Value → Shared → Prop), St i s.heap → Q (.ref I) s → wpAny P.M A (pyIter (.ref I)) Q E s
  live : ∀ i h, St i h → ∃ o, h.get? I = some o ∧ ¬ isD o
theorem Wlk.alive {v : V} {x : Value} {I : Addr} {vs : List V} {src : Hp → Prop} {St : Nat → Heap → Prop} (W : Wlk P v x I vs src St) (i : Nat) (h : Heap) (z : St i h) : ∃ o, h.get? I = some o := (by obtain ⟨o, g, _⟩ := W.live i h z; exact ⟨o, g⟩)
theorem Wlk.nd {v : V} {x : Value} {I : Addr} {vs : List V} {src : Hp → Prop} {St : Nat → Heap → Prop} (W : Wlk P v x I vs src St) {i : Nat} {h : Heap} (z : St i h) {o : Obj} (g : h.get? I = some o) : ¬ isD o := by
  obtain ⟨o', g', n⟩ := W.live i h z
  rw [g] at g'; cases g'; exact n
noncomputable def Its (P : Par) (v : V) (vs : List V) (hp : Hp) (src : Hp → Prop) : Prop :=
  ∀ (A : Around) (s : Shared) (stk : Addr → Prop) (x : Value) (Q : Value → Shared → Prop) (E : Value → Shared → Prop), A.handled = none → HeapOk P stk hp s → P.VR stk hp s.heap v x →
    (∀ I St h', s.heap.get? I = Option.none → (∀ b o, s.heap.get? b = some o → h'.get? b = some o) → Wlk P v x I vs src St → St 0 h' → Q (.ref I) { s with heap := h' }) → wpAny P.M A (pyIter x) Q E s
noncomputable def plainIt (T : String) : Bool := !["enumerate", "zip", "dict_itemiterator", "dict_reverseitemiterator", "odict_iterator", "itertools.zip_longest", "itertools.pairwise"].contains T
theorem letOwned_plain {A : Around} {s : Shared} {E : Value → Shared → Prop} {target : Expr} {I : Addr} {o : Obj} {T : String} {y : Value} {Q : Unit → Shared → Prop} (ho : s.heap.get? I = some o) (hc : o.cls = .type T) (hT : plainIt T = true) (hq : Q () s) : wpAny P.M A (letOwnedTupleGo target (.ref I) y) Q E s := by
  have h2 : wpAny P.M A (do let (.ref r, .ref a) := (Value.ref I, y) | return
                            let o ← load r
                            match o.cls, o.data with
                            | .type n, .fields vs =>
                              if ["enumerate", "zip", "dict_itemiterator", "dict_reverseitemiterator", "odict_iterator", "itertools.zip_longest", "itertools.pairwise"].contains n && vs[0]? == some (rawInt a) then
                                rule "for.unpacks-the-owned-tuple"
                                updateField r 0 .none
                            | _, _ => pure ()) Q E s := by
    cases y with
    | ref a =>
      refine wpAny_bind (wpAny_load ho ?_)
      obtain ⟨c, dd, dt, sl⟩ := o
      simp only at hc
      subst hc
      cases dt <;> first | exact wpAny_pure hq | skip
      have hT' : (["enumerate", "zip", "dict_itemiterator", "dict_reverseitemiterator", "odict_iterator", "itertools.zip_longest", "itertools.pairwise"].contains T) = false := by
        unfold plainIt at hT; simpa using hT
      simp only [hT', Bool.false_and, Bool.false_eq_true, if_false]
      exact wpAny_pure hq
    | _ => exact wpAny_pure hq
  unfold letOwnedTupleGo
  cases target <;> first | exact wpAny_pure hq | exact h2
theorem nD_fields {o : Obj} {vs : Array Value} (h : o.data = .fields vs) : ¬ isD o := by rintro ⟨es, n, e⟩; rw [h] at e; cases e
theorem its_list {v : V} {vs : List V} {hp : Hp} (h : listOf hp v = some vs) : Its P v vs hp (fun hp' => listOf hp' v = some vs) := by
  intro A s stk x Q E hh ok r k
  obtain ⟨a, xs, rfl, p, rx⟩ := listOf_plain ok r h
  refine wpAny_pyIter_list p.isList (k _ (fun i h => h.IsListIter s.heap.objs.size a i) _ (get_size _) (fun b o e => Heap.get?_push_of_some _ e) ?_ ⟨_, Heap.get?_push_size _ rfl, rfl, rfl⟩)
  refine ⟨fun A target i s hp stk Q E hi hh st ok r hv hI q => ?_, fun A s hp stk Q E hh st ok r hv hI q => ?_, fun i h h' st kk => ?_, fun A i s Q E st q => wpAny_pyIter_listiter st q, (by rintro i h ⟨o, e, _, z⟩; exact ⟨o, e, nD_fields z⟩)⟩
  · obtain ⟨a', xs, e, p, rx⟩ := listOf_plain ok r hv
    cases e
    obtain ⟨y, ey, ry⟩ := rx.get (List.getElem?_eq_getElem hi)
    refine wpAny_pyNext_list_item st p.isList (x := y) (by rw [← Array.getElem?_toList]; exact ey) fun h' st' sb => ⟨y, rfl, ?_⟩
    obtain ⟨o, ho, hc, _⟩ := id st'
    refine letOwned_plain (T := "list_iterator") ho hc (by decide) (q y h' s.toks (ry.keep ?_) st' fun b o n e => (sb.2 b n).trans e)
    rintro c oc f g
    exact ⟨f, (sb.2 c (fun z => f.2 (z ▸ hI))).trans g⟩
  · obtain ⟨a', xs, e, p, rx⟩ := listOf_plain ok r hv
    cases e
    have hl := rx.length
    refine wpAny_pyNext_list_end hh st p.isList (by rw [← Array.getElem?_toList]; exact List.getElem?_eq_none (by lia)) fun h' sb => ⟨rfl, q h' s.toks fun b o n e => sb b o n e⟩
  · obtain ⟨o, e, z⟩ := st; exact ⟨o, kk o e, z⟩
end Mine
namespace Mine
variable {P : Par} {Fl : Fly} {d : Nat} {sc : Scope}
theorem its_tup {vs : List V} {hp : Hp} : Its P (.tup vs) vs hp (fun _ => True) := by
  intro A s stk x Q E hh ok r k
  simp only [VRe] at r
  obtain ⟨a, xs, rfl, f, ⟨n, g⟩, rx⟩ := r
  refine wpAny_pyIter_tuple (t := a) (items := xs) ⟨_, g, rfl, n, rfl⟩ (k _ (fun i h => h.IsTupleIter s.heap.objs.size a i) _ (get_size _) (fun b o e => Heap.get?_push_of_some _ e) ?_ ⟨_, Heap.get?_push_size _ rfl, rfl, rfl⟩)
  refine ⟨fun A target i s hp stk Q E hi hh st ok r hv hI q => ?_, fun A s hp stk Q E hh st ok r hv hI q => ?_, fun i h h' st kk => ?_, fun A i s Q E st q => wpAny_pyIter_tupleiter st q, (by rintro i h ⟨o, e, _, z⟩; exact ⟨o, e, nD_fields z⟩)⟩
  · simp only [VRe] at r
    obtain ⟨a', xs, e, f, ⟨n, g⟩, rx⟩ := r
    cases e
    obtain ⟨y, ey, ry⟩ := rx.get (List.getElem?_eq_getElem hi)
    refine wpAny_pyNext_tuple_item st (items := xs) ⟨_, g, rfl, n, rfl⟩ (x := y) (by rw [← Array.getElem?_toList]; exact ey) fun h' st' sb => ⟨y, rfl, ?_⟩
    obtain ⟨o, ho, hc, _⟩ := id st'
    refine letOwned_plain (T := "tuple_iterator") ho hc (by decide) (q y h' s.toks (ry.keep ?_) st' fun b o n e => (sb.2 b n).trans e)
    rintro c oc f g
    exact ⟨f, (sb.2 c (fun z => f.2 (z ▸ hI))).trans g⟩
  · simp only [VRe] at r
    obtain ⟨a', xs, e, f, ⟨n, g⟩, rx⟩ := r
    cases e
    have hl := rx.length
    exact wpAny_pyNext_tuple_end hh st (items := xs) ⟨_, g, rfl, n, rfl⟩ (by rw [← Array.getElem?_toList]; exact List.getElem?_eq_none (by lia)) fun h' sb => ⟨rfl, q h' s.toks fun b o n e => sb b o n e⟩
  · obtain ⟨o, e, z⟩ := st; exact ⟨o, kk o e, z⟩
noncomputable def rngList (lo hi : Int) : List V := (List.range (hi - lo).toNat).map fun k => .int (lo + (k : Nat))
theorem rngList_get {lo hi : Int} {i : Nat} (h : i < (rngList lo hi).length) : (rngList lo hi)[i] = .int (lo + i) := by simp [rngList]
theorem rngList_len {lo hi : Int} : (rngList lo hi).length = (hi - lo).toNat := by simp [rngList]
theorem rangeSize_one (lo hi : Int) : Builtin.Range.rangeSize lo hi 1 = ((hi - lo).toNat : Int) := by
  unfold Builtin.Range.rangeSize
  split
  · simp; split <;> lia
  · lia
theorem its_rng {lo hi : Int} {hp : Hp} (hs : Builtin.Range.small lo hi 1 = true ∨ hi ≤ lo) : Its P (.rng lo hi) (rngList lo hi) hp (fun _ => True) := by
  intro A s stk x Q E hh ok r k
  simp only [VRe] at r
  obtain ⟨a, t, u, v, rfl, f, g⟩ := r
  by_cases hsm : Builtin.Range.small lo hi 1 = true
  · refine wpAny_pyIter_range g hsm (k _ (fun i h => IsRangeIter h s.heap.objs.size (lo + i) (((hi - lo).toNat : Int) - i) 1) _ (get_size _) (fun b o e => Heap.get?_push_of_some _ e) ?_ ?_)
    · refine ⟨fun A target i s hp stk Q E hi' hh st ok r hv hI q => ?_, fun A s hp stk Q E hh st ok r hv hI q => ?_, fun i h h' st kk => kk _ st, fun A i s Q E st q => wpAny_pyIter_rangeiter st q, fun i h e => ⟨_, e, nD_fields rfl⟩⟩
      · rw [rngList_len] at hi'
        refine wpAny_pyNext_range_item st (by lia) fun h' st' sb => ⟨_, rfl, ?_⟩
        have e1 : lo + (i : Int) + 1 = lo + ((i + 1 : Nat) : Int) := by lia
        have e2 : ((hi - lo).toNat : Int) - (i : Int) - 1 = ((hi - lo).toNat : Int) - ((i + 1 : Nat) : Int) := by lia
        refine letOwned_plain (T := "range_iterator") st' rfl (by decide) (q _ h' _ ?_ (by rw [← e1, ← e2]; exact st') fun b o n e => (sb.2 b n).trans e)
        rw [rngList_get]; exact vInt
      · rw [rngList_len] at st
        exact wpAny_pyNext_range_end hh st (by lia) fun h' sb => ⟨rfl, q h' s.toks fun b o n e => sb b o n e⟩
    · have := rangeSize_one lo hi
      rw [← this]
      have e := Heap.get?_push_size s.heap (o := { cls := .type "range_iterator", data := .fields #[rawInt lo, rawInt (Builtin.Range.rangeSize lo hi 1), rawInt 1] }) rfl
      simpa using e
  · have hle : hi ≤ lo := hs.resolve_left hsm
    have hb : Builtin.Range.small lo hi 1 = false := by simpa using hsm
    have hz : Builtin.Range.rangeSize lo hi 1 = 0 := by rw [rangeSize_one]; lia
    refine wpAny_pyIter_longrange g hb (k _ (fun i h => i = 0 ∧ IsLongIter h s.heap.objs.size lo 0 1) _ (get_size _) (fun b o e => Heap.get?_push_of_some _ e) ?_ ?_)
    · refine ⟨fun A target i s hp stk Q E hi' hh st ok r hv hI q => ?_, fun A s hp stk Q E hh st ok r hv hI q => ?_, fun i h h' st kk => ⟨st.1, kk _ st.2⟩, fun A i s Q E st q => wpAny_pyIter_longiter st.2 q, fun i h e => ⟨_, e.2, nD_fields rfl⟩⟩
      · rw [rngList_len] at hi'; lia
      · exact wpAny_pyNext_long_end hh st.2 (Int.le_refl _) fun h' sb => ⟨rfl, q h' s.toks fun b o n e => sb b o n e⟩
    · refine ⟨rfl, ?_⟩
      have e := Heap.get?_push_size s.heap (o := { cls := .type "longrange_iterator", data := .fields #[rawInt lo, rawInt (Builtin.Range.rangeSize lo hi 1), rawInt 1] }) rfl
      rw [hz] at e ⊢
      exact e
theorem ER_get {F : Addr → Prop} {h : Heap} : ∀ {es : List (Int × V)} {kvs : List (Int × Value)} {i : Nat} {k : Int} {v : V}, ER P.nm F h es kvs → es[i]? = some (k, v) → ∃ x, kvs[i]? = some (k, x) ∧ VR P.nm F h v x
  | [], _, _, _, _, _, e => by cases e
  | (k, v) :: es, kvs, 0, _, _, r, e => by
    simp only [ERe] at r
    obtain ⟨y, ys, rfl, p, _⟩ := r
    cases e
    exact ⟨y, rfl, p⟩
  | (k, v) :: es, kvs, i + 1, _, _, r, e => by
    simp only [ERe] at r
    obtain ⟨y, ys, rfl, p, q⟩ := r
    have := ER_get q (i := i) (by simpa using e)
    simpa using this
theorem ER_len {F : Addr → Prop} {h : Heap} : ∀ {es : List (Int × V)} {kvs : List (Int × Value)}, ER P.nm F h es kvs → kvs.length = es.length
  | [], _, r => by simp only [ERe] at r; subst r; rfl
  | (k, v) :: es, kvs, r => by
    simp only [ERe] at r
    obtain ⟨y, ys, rfl, p, q⟩ := r
    simp [ER_len q]
theorem its_keys (hz : (P.H₀.get? sysModules).isSome = true) {a : Addr} {es : List (Int × V)} {ep : Nat} {hp : Hp} (h : hp a = some (.dict es ep)) : Its P (.ref a) (es.map fun e => .int e.1) hp (fun hp' => hp' a = some (.dict es ep)) := by
  intro A s stk x Q E hh ok r k
  simp only [VRe] at r
  subst r
  obtain ⟨kvs, hd, er⟩ := ok.obj a _ h
  have hs := not_sys ok h hz
  have hlen := ER_len er
  refine wpAny_pyIter_dict hs hd (k _ (fun i h => h.IsKeyIter s.heap.objs.size a i es.length ep) _ (get_size _) (fun b o e => Heap.get?_push_of_some _ e) ?_ ⟨_, Heap.get?_push_size _ rfl, rfl, by rw [hlen]; rfl⟩)
  refine ⟨fun A target i s hp stk Q E hi hh st ok r hv hI q => ?_, fun A s hp stk Q E hh st ok r hv hI q => ?_, fun i h h' st kk => ?_, fun A i s Q E st q => wpAny_pyIter_keyiter st q, (by rintro i h ⟨o, e, _, z⟩; exact ⟨o, e, nD_fields z⟩)⟩
  · obtain ⟨kvs, hd, er⟩ := ok.obj a _ hv
    have hlen := ER_len er
    have hi2 : i < es.length := by simpa using hi
    obtain ⟨y, ey, ry⟩ := ER_get er (i := i) (k := es[i].1) (v := es[i].2) (List.getElem?_eq_getElem hi2)
    refine wpAny_pyNext_dict_item (by rw [hlen]; exact st) hd ey fun key h' hk st' sb => ⟨key, rfl, ?_⟩
    rw [hlen] at st'
    obtain ⟨o, ho, hc, _⟩ := id st'
    obtain ⟨t, rfl⟩ := Value.isInt_shape hk
    refine letOwned_plain (T := "dict_keyiterator") ho hc (by decide) (q _ h' s.toks ?_ st' fun b o n e => (sb.2 b n).trans e)
    rw [List.getElem_map]; exact vInt
  · obtain ⟨kvs, hd, er⟩ := ok.obj a _ hv
    have hlen := ER_len er
    rw [List.length_map] at st
    exact wpAny_pyNext_dict_end hh (by rw [hlen]; exact st) hd (List.getElem?_eq_none (by lia)) fun h' sb => ⟨rfl, q h' s.toks fun b o n e => sb b o n e⟩
  · obtain ⟨o, e, z⟩ := st; exact ⟨o, kk o e, z⟩
theorem its_vals {a : Addr} {es : List (Int × V)} {ep : Nat} {hp : Hp} (h : hp a = some (.dict es ep)) : Its P (.vals a) (es.map fun e => e.2) hp (fun hp' => hp' a = some (.dict es ep)) := by
  intro A s stk x Q E hh ok r k
  simp only [VRe] at r
  obtain ⟨v, rfl, f, g⟩ := r
  obtain ⟨kvs, hd, er⟩ := ok.obj a _ h
  have hlen := ER_len er
  refine wpAny_pyIter_values (v := v) ⟨_, g, rfl, rfl⟩ hd (k _ (fun i h => h.IsValIter s.heap.objs.size a i es.length ep) _ (get_size _) (fun b o e => Heap.get?_push_of_some _ e) ?_ ⟨_, Heap.get?_push_size _ rfl, rfl, by rw [hlen]; rfl⟩)
  refine ⟨fun A target i s hp stk Q E hi hh st ok r hv hI q => ?_, fun A s hp stk Q E hh st ok r hv hI q => ?_, fun i h h' st kk => ?_, fun A i s Q E st q => wpAny_pyIter_valiter st q, (by rintro i h ⟨o, e, _, z⟩; exact ⟨o, e, nD_fields z⟩)⟩
  · obtain ⟨kvs, hd, er⟩ := ok.obj a _ hv
    have hlen := ER_len er
    have hi2 : i < es.length := by simpa using hi
    obtain ⟨y, ey, ry⟩ := ER_get er (i := i) (k := es[i].1) (v := es[i].2) (List.getElem?_eq_getElem hi2)
    refine wpAny_pyNext_values_item (by rw [hlen]; exact st) hd ey fun h' st' sb => ⟨y, rfl, ?_⟩
    rw [hlen] at st'
    obtain ⟨o, ho, hc, _⟩ := id st'
    refine letOwned_plain (T := "dict_valueiterator") ho hc (by decide) (q _ h' s.toks ?_ st' fun b o n e => (sb.2 b n).trans e)
    rw [List.getElem_map]
    refine ry.keep ?_
    rintro c oc f g
    exact ⟨f, (sb.2 c (fun z => f.2 (z ▸ hI))).trans g⟩
  · obtain ⟨kvs, hd, er⟩ := ok.obj a _ hv
    have hlen := ER_len er
    rw [List.length_map] at st
    exact wpAny_pyNext_values_end hh (by rw [hlen]; exact st) hd (List.getElem?_eq_none (by lia)) fun h' sb => ⟨rfl, q h' s.toks fun b o n e => sb b o n e⟩
  · obtain ⟨o, e, z⟩ := st; exact ⟨o, kk o e, z⟩
theorem its_str {l : List Nat} {hp : Hp} (ha : l.all (· < 128) = true) : Its P (.str l) (l.map fun c => .str [c]) hp (fun _ => True) := by
  intro A s stk x Q E hh ok r k
  simp only [VRe] at r
  obtain ⟨t, rfl⟩ := r
  have hT : strIterType ⟨l.toArray⟩ = "str_ascii_iterator" := by unfold strIterType; rw [if_pos (by simpa using ha)]
  refine wpAny_pyIter_strU ?_
  rw [hT]
  refine k _ (fun i h => h.IsStrIter s.heap.objs.size "str_ascii_iterator" ⟨l.toArray⟩ t i) _ (get_size _) (fun b o e => Heap.get?_push_of_some _ e) ?_ ⟨_, Heap.get?_push_size _ rfl, rfl, rfl⟩
  refine ⟨fun A target i s hp stk Q E hi hh st ok r hv hI q => ?_, fun A s hp stk Q E hh st ok r hv hI q => ?_, fun i h h' st kk => ?_, fun A i s Q E st q => wpAny_pyIter_striter_ascii st q, (by rintro i h ⟨o, e, _, z⟩; exact ⟨o, e, nD_fields z⟩)⟩
  · have hi2 : i < l.length := by simpa using hi
    refine wpAny_pyNext_ascii_item st (c := l[i]) (by simp [hi2]) fun h' st' sb => ⟨_, rfl, ?_⟩
    obtain ⟨o, ho, hc, _⟩ := id st'
    refine letOwned_plain (T := "str_ascii_iterator") ho hc (by decide) (q _ h' _ ?_ st' fun b o n e => (sb.2 b n).trans e)
    rw [List.getElem_map]; exact vStr
  · rw [List.length_map] at st
    exact wpAny_pyNext_ascii_end hh st (by simp) fun h' sb => ⟨rfl, q h' s.toks fun b o n e => sb b o n e⟩
  · obtain ⟨o, e, z⟩ := st; exact ⟨o, kk o e, z⟩
end Mine
namespace Mine
variable {P : Par} {Fl : Fly} {d : Nat} {sc : Scope}
noncomputable def iterOf (hp : Hp) : V → Option (List V)
  | .tup vs => some vs
  | .lst vs => some vs
  | .ref a => match hp a with
    | some (.lst vs) => some vs
    | some (.dict es _) => some (es.map fun e => .int e.1)
    | _ => Option.none
  | .vals a => match hp a with
    | some (.dict es _) => some (es.map fun e => e.2)
    | _ => Option.none
  | .rng lo hi => if Builtin.Range.small lo hi 1 = true ∨ hi ≤ lo then some (rngList lo hi) else Option.none
  | .str l => if l.all (· < 128) = true then some (l.map fun c => .str [c]) else Option.none
  | _ => Option.none
noncomputable def same (v : V) (hp hp' : Hp) : Prop := match v with
  | .ref a => hp' a = hp a
  | .vals a => hp' a = hp a
  | _ => True
theorem iter_lstref {hp : Hp} {a : Addr} {us : List V} (h : hp a = some (.lst us)) : iterOf hp (.ref a) = some us := congrArg (fun o : Option O => match o with | some (O.lst vs) => some vs | some (.dict es _) => some (es.map fun e : Int × V => V.int e.1) | _ => Option.none) h
theorem iter_dictref {hp : Hp} {a : Addr} {es : List (Int × V)} {ep : Nat} (h : hp a = some (.dict es ep)) : iterOf hp (.ref a) = some (es.map fun e => .int e.1) := congrArg (fun o : Option O => match o with | some (O.lst vs) => some vs | some (.dict es _) => some (es.map fun e : Int × V => V.int e.1) | _ => Option.none) h
theorem iter_valsref {hp : Hp} {a : Addr} {es : List (Int × V)} {ep : Nat} (h : hp a = some (.dict es ep)) : iterOf hp (.vals a) = some (es.map fun e => e.2) := congrArg (fun o : Option O => match o with | some (O.dict es _) => some (es.map fun e : Int × V => e.2) | _ => Option.none) h
theorem same_refl (v : V) (hp : Hp) : same v hp hp := by cases v <;> first | exact trivial | exact rfl
theorem Its.mono {v : V} {vs : List V} {hp : Hp} {src src' : Hp → Prop} (h : Its P v vs hp src) (k : ∀ hp', src' hp' → src hp') : Its P v vs hp src' :=
  fun A s stk x Q E hh ok r q => h A s stk x Q E hh ok r fun I St h' a b W c => q I St h' a b ⟨fun A t i s hp stk Q E hi hh st ok r hv => W.item A t i s hp stk Q E hi hh st ok r (k hp hv), fun A s hp stk Q E hh st ok r hv => W.done A s hp stk Q E hh st ok r (k hp hv), W.frame, W.self, W.live⟩ c
theorem its_of (hz : (P.H₀.get? sysModules).isSome = true) {v : V} {vs : List V} {hp : Hp} (h : iterOf hp v = some vs) : Its P v vs hp (same v hp) := by
  cases v with
  | tup us => cases h; exact its_tup.mono fun _ _ => trivial
  | lst us => cases h; exact (its_list (hp := hp) rfl).mono fun hp' _ => rfl
  | ref a =>
    change (match hp a with | some (.lst vs) => some vs | some (.dict es _) => some (es.map fun e : Int × V => V.int e.1) | _ => Option.none) = _ at h
    cases hu : hp a with
    | none => rw [hu] at h; cases h
    | some o =>
      rw [hu] at h
      cases o with
      | lst us => cases h; exact (its_list (hp := hp) (v := .ref a) (listOf_ref hu)).mono fun hp' e => listOf_ref (Eq.trans e hu)
      | dict es ep => cases h; exact (its_keys hz hu).mono fun hp' e => Eq.trans e hu
      | _ => cases h
  | vals a =>
    change (match hp a with | some (.dict es _) => some (es.map fun e : Int × V => e.2) | _ => Option.none) = _ at h
    cases hu : hp a with
    | none => rw [hu] at h; cases h
    | some o =>
      rw [hu] at h
      cases o with
      | dict es ep => cases h; exact (its_vals hu).mono fun hp' e => Eq.trans e hu
      | _ => cases h
  | rng lo hi =>
    by_cases hc : Builtin.Range.small lo hi 1 = true ∨ hi ≤ lo
    · cases (if_pos hc).symm.trans h; exact (its_rng hc).mono fun _ _ => trivial
    · cases (if_neg hc).symm.trans h
  | str l =>
    by_cases hc : l.all (· < 128) = true
    · cases (if_pos hc).symm.trans h; exact (its_str hc).mono fun _ _ => trivial
    · cases (if_neg hc).symm.trans h
  | _ => cases h
noncomputable def noX : XS := fun _ _ _ => False
noncomputable def fLoop (v : V) (hp0 : Hp) (t : DA) (b : DS) (Q : Fw → Loc → Hp → Prop) : List V → Loc → Hp → Prop
  | [], loc, hp => Q .next loc hp
  | u :: us, loc, hp => t u (fun loc1 hp1 => b (fun w loc2 hp2 => match w with
      | .next => same v hp0 hp2 ∧ fLoop v hp0 t b Q us loc2 hp2
      | .cont => same v hp0 hp2 ∧ fLoop v hp0 t b Q us loc2 hp2
      | .brk => Q .next loc2 hp2
      | .ret r => Q (.ret r) loc2 hp2) noX loc1 hp1) noX loc hp
theorem fLoopN {v : V} {hp0 : Hp} {t : DA} {b : DS} {Q : Fw → Loc → Hp → Prop} {loc : Loc} {hp : Hp} : fLoop v hp0 t b Q [] loc hp = Q .next loc hp := rfl
theorem fLoopC {v : V} {hp0 : Hp} {t : DA} {b : DS} {Q : Fw → Loc → Hp → Prop} {loc : Loc} {hp : Hp} {u : V} {us : List V} : fLoop v hp0 t b Q (u :: us) loc hp = t u (fun loc1 hp1 => b (fun w loc2 hp2 => match w with
      | .next => same v hp0 hp2 ∧ fLoop v hp0 t b Q us loc2 hp2
      | .cont => same v hp0 hp2 ∧ fLoop v hp0 t b Q us loc2 hp2
      | .brk => Q .next loc2 hp2
      | .ret r => Q (.ret r) loc2 hp2) noX loc1 hp1) noX loc hp := rfl
noncomputable def sFor (e : DE) (t : DA) (b : DS) : DS := fun Q X loc hp => e (fun v hp1 => ∃ vs, iterOf hp1 v = some vs ∧ fLoop v hp1 t b Q vs loc hp1) (fun k hp' => X k loc hp') loc hp
theorem mvExt {own stk : Addr → Prop} {I : Addr} {hp : Hp} {s' : Shared} {h2 : Heap} {tk : Nat} (hal : ∃ o, h2.get? I = some o) (nd : ∀ o, s'.heap.get? I = some o → ¬ isD o) (k2 : ∀ b o, b ≠ I → s'.heap.get? b = some o → h2.get? b = some o) : Ext (plus own I) (plus stk I) hp s' hp { s' with heap := h2, toks := tk } :=
  .exact (fun b o _ n g => k2 b o (fun z => n (.inr z)) g) (fun b o g => by
    by_cases q : b = I
    · rw [q]; exact hal
    · exact ⟨o, k2 b o q g⟩) (fun b o _ g d => ⟨o, k2 b o (fun z => nd o (z ▸ g) d) g, d⟩) (fun _ a b => absurd a b) rfl rfl
theorem mvOk {P : Par} {stk : Addr → Prop} {I : Addr} {hp : Hp} {s' : Shared} {h2 : Heap} {tk : Nat} (ok' : HeapOk P (plus stk I) hp s') (hal : ∃ o, h2.get? I = some o) (ky : Keepy (Fz (plus stk I) hp) (Fz (plus stk I) hp) s'.heap h2) (k2 : ∀ b o, b ≠ I → s'.heap.get? b = some o → h2.get? b = some o) : HeapOk P (plus stk I) hp { s' with heap := h2, toks := tk } := by
  refine ⟨fun a o g => (ok'.obj a o g).keep ky fun o z => k2 a o (fun e => ?_) z, ok'.apart, fun b o g => k2 b o (fun e => ?_) (ok'.base b o g), ok'.new, ok'.stkn, fun a z => ?_, ok'.gens⟩
  · exact ok'.apart a (by rw [g]; intro z; cases z) (.inr e)
  · rw [ok'.stkn b (.inr e)] at g; cases g
  · by_cases q : a = I
    · rw [q]; exact hal
    · obtain ⟨o, g⟩ := ok'.stkl a z; exact ⟨o, k2 a o q g⟩
theorem mvEv {P : Par} {A : Around} {stk : Addr → Prop} {env : Env} {loc : Loc} {I : Addr} {hp : Hp} {s' : Shared} {h2 : Heap} {tk : Nat} {own : Addr → Prop} (ev' : EnvOk P A stk hp env loc s') (e3 : Ext own stk hp s' hp { s' with heap := h2, toks := tk }) (hLI : env.locals ≠ I) (hCI : ∀ n c, env.cells.lookup n = some c → c ≠ I) (ky : Keepy (Fz stk hp) (Fz stk hp) s'.heap h2) (k2 : ∀ b o, b ≠ I → s'.heap.get? b = some o → h2.get? b = some o) : EnvOk P A stk hp env loc { s' with heap := h2, toks := tk } := by
  refine ⟨ev'.kind, ev'.glob, ev'.blt, ?_, fun j u g kk => ?_, ev'.stkL, ev'.stkC, fun n kk => ?_, ev'.apart, ev'.apartL, ev'.frs.step e3, ev'.top⟩
  · obtain ⟨m, ⟨o, es, ep, g, rr⟩, hm⟩ := ev'.ns
    exact ⟨m, ⟨o, es, ep, k2 _ _ hLI g, rr⟩, fun j u a b => (by obtain ⟨z, p, q⟩ := hm j u a b; exact ⟨z, p, q.keep ky⟩)⟩
  · obtain ⟨c, z, p, ⟨o, g, rr⟩, q⟩ := ev'.cell j u g kk
    exact ⟨c, z, p, ⟨o, k2 _ _ (hCI _ _ p) g, rr⟩, q.keep ky⟩
  · obtain ⟨c, z, p, ⟨o, g, rr⟩⟩ := ev'.cells n kk
    exact ⟨c, z, p, ⟨o, k2 _ _ (hCI _ _ p) g, rr⟩⟩
inductive Mv (I : Addr) (s' : Shared) (G : Heap → Prop) (s2 : Shared) : Prop
  | intro (h2 : Heap) (tk : Nat) (e : s2 = { s' with heap := h2, toks := tk }) (g : G h2) (k : ∀ b o, b ≠ I → s'.heap.get? b = some o → h2.get? b = some o) : Mv I s' G s2
inductive FInv (P : Par) (A : Around) (stk : Addr → Prop) (env : Env) (v : V) (x : Value) (I : Addr) (hp1 : Hp) (s1 : Shared) (St : Nat → Heap → Prop) (vs : List V) (L : List V → Loc → Hp → Prop) (n : Nat) (s' : Shared) : Prop
  | intro (i : Nat) (loc' : Loc) (hp' : Hp) (hn : n = vs.length + 1 - i) (hi : i ≤ vs.length) (st : St i s'.heap) (ee : Ext (plus (ownE env) I) (plus stk I) hp1 s1 hp' s') (ok : HeapOk P (plus stk I) hp' s') (ev : EnvOk P A (plus stk I) hp' env loc' s') (r : P.VR (plus stk I) hp' s'.heap v x) (sm : same v hp1 hp') (lp : L (vs.drop i) loc' hp') : FInv P A stk env v x I hp1 s1 St vs L n s'
theorem noE {P : Par} {Fl : Fly} {A : Around} {own stk : Addr → Prop} {env : Env} (E : Value → Shared → Prop) (hpx : Hp) (sx : Shared) (e : Value) (s'' : Shared) (z : PostT P own stk hpx sx (QX P Fl A stk env noX) e s'') : E e s'' := by
  obtain ⟨_, _, _, k, l, _, hx, _⟩ := z
  exact hx.elim
theorem turn_lt {n i : Nat} (h : i < n) : n + 1 - (i + 1) < n + 1 - i := by
  rw [Nat.add_sub_add_right]; exact Nat.sub_lt_sub_right (Nat.le_of_lt h) (Nat.lt_succ_self n)
theorem SimS.for {t e : Expr} {body : List Stmt} {pos : Pos} {D : DE} {Dt : DA} {it : List Nat} {Db : DS} (hz : (P.H₀.get? sysModules).isSome = true) (hd : 0 < d) (h : SimE P Fl d sc e D) (ht : SimG P Fl d sc t it Dt) (hb : SimSs P Fl d sc body Db)
    (hfs : ∀ env x, foldedSetIterable e env x = pure x) (htm : ∀ v Q X loc hp, Dt v Q X loc hp → Dt v (fun loc' hp' => hp' = hp ∧ Q loc' hp') X loc hp) : SimS P Fl d sc (.For t e body [] pos) (sFor D Dt Db) := by
  intro A env s Q X loc hp stk rm hs ev ok hD
  refine wpAny_For (E2 h rm hs ev ok hD fun v x hp1 s1 e1 ev1 ok1 hq  r => ?_) (hfs env)
  obtain ⟨vs, hv, hl⟩ := hq
  refine its_of hz hv A s1 stk x _ _ (rm.hd hd) ok1 r fun I St h' hn kp W st0 => ?_
  have hI : ¬ stk I := fun z => by obtain ⟨o, g⟩ := ok1.stkl I z; rw [hn] at g; cases g
  have e2 : Ext (ownE env) stk hp1 s1 hp1 { s1 with heap := h' } := Ext.grow (stk := stk) (tk := s1.toks) kp
  have eA := (e1.of1 (own := ownE env)).trans e2
  have okp : HeapOk P (plus stk I) hp1 { s1 with heap := h' } := okPlus (tk := s1.toks) ok1 hn kp (W.alive 0 _ st0)
  have evp : EnvOk P A (plus stk I) hp1 env loc { s1 with heap := h' } := evPlus (tk := s1.toks) ev1 ok1 hn kp
  have rp : P.VR (plus stk I) hp1 h' v x := r.keep (fzPlus hn kp)
  have hLI : env.locals ≠ I := fun z => hI (z ▸ ev1.stkL)
  have hCI : ∀ n c, env.cells.lookup n = some c → c ≠ I := fun n c p z => hI (z ▸ ev1.stkC n c p)
  have hoI : ¬ ownE env I := by
    rintro (z | ⟨n, z⟩)
    · exact hLI z.symm
    · exact hCI n I z rfl
  suffices key : ∀ R : Result → Shared → Prop, (∀ f s', PostT P (ownE env) stk hp s (QS P A stk env Q) f s' → R (.ok f) s') → codeAny P.M A (.forLoop t (.ref I) body [] env) R { s1 with heap := h' } from key _ fun _ _ z => z
  intro R hR
  obtain ⟨J, hJ⟩ : ∃ J : Nat → Shared → Prop, J = FInv P A stk env v x I hp1 { s1 with heap := h' } St vs (fLoop v hp1 Dt Db Q) := ⟨_, rfl⟩
  refine codeAny_forLoop_any J ?_ (vs.length + 1) (by rw [hJ]; exact ⟨0, loc, hp1, rfl, Nat.zero_le _, st0, .refl .., okp, evp, rp, same_refl v hp1, hl⟩)
  intro n s' hj
  rw [hJ] at hj
  obtain ⟨i, loc', hp', hn', hi, st, ee, ok', ev', r', sm, lp⟩ := hj
  by_cases hlt : i < vs.length
  · refine wpAny_mono (W.item A t i s' hp' (plus stk I) (fun y => Mv I s' fun h2 => P.VR (plus stk I) hp' h2 vs[i] y ∧ St (i + 1) h2) _ hlt (rm.hd hd) st ok' r' sm (.inr rfl) fun y h2 tk ry st2 k2 => ⟨h2, tk, rfl, ⟨ry, st2⟩, k2⟩) (fun rr s2 hh => ?_) fun _ _ z => z
    obtain ⟨y, rfl, hw⟩ := hh
    refine wpAny_mono hw (fun _ s3 hq => ?_) fun _ _ z => z
    obtain ⟨h2, tk, rfl, ⟨ry, st2⟩, k2⟩ := hq
    have ky : Keepy (Fz (plus stk I) hp') (Fz (plus stk I) hp') s'.heap h2 := fun a o f g => ⟨f, k2 a o (fun z => f.2 (.inr z)) g⟩
    have e3 := mvExt (own := ownE env) (stk := stk) (hp := hp') (tk := tk) (W.alive _ _ st2) (fun o g => W.nd st g) k2
    have ok3 := mvOk (tk := tk) ok' (W.alive _ _ st2) ky k2
    have ev3 := mvEv ev' e3 hLI hCI ky k2
    have hdrop : vs.drop i = vs[i] :: vs.drop (i + 1) := List.drop_eq_getElem_cons hlt
    rw [hdrop, fLoopC] at lp
    refine wpAny_mono (ht.wide rm hs ev3 ok3 ry (htm _ _ _ _ _ lp)) (fun _ s4 hq  => ?_) (noE _ _ _)
    obtain ⟨hp4, e4, ok4, loc4, ev4, h4, q4⟩ := hq
    subst h4
    refine wpAny_mono (hb A env s4 _ noX loc4 hp4 (plus stk I) rm hs ev4 ok4 q4) (fun f s5 hq  => ?_) (noE _ _ _)
    obtain ⟨hp5, e5, ok5, w, loc5, ev5, q5, r5⟩ := hq
    have e45 : Ext (ownE env) (plus stk I) hp4 { s' with heap := h2, toks := tk } hp5 s5 := e4.trans e5
    have eT : Ext (plus (ownE env) I) (plus stk I) hp1 { s1 with heap := h' } hp5 s5 := (ee.trans e3).trans (e45.wider fun b z => .inl z)
    have st5 : St (i + 1) s5.heap := W.frame _ _ _ st2 fun o g => e45.same (by
      cases q : hp4 I with
      | none => rfl
      | some ob => exact absurd (.inr rfl) (ok'.apart I (by rw [q]; intro z; cases z))) hoI (.inr (W.nd st2 g)) g
    have r5v : P.VR (plus stk I) hp5 s5.heap v x := VR.keep (e45.keepy fun b z => .inl (ev1.own b z)) (VR.keep ky r')
    have fin : Ext (ownE env) stk hp s hp5 s5 := (e1.of1 (own := ownE env)).trans (extMinus e2 hn eT)
    have evm : EnvOk P A stk hp5 env loc5 s5 := evMinus ev5 ev1.stkL ev1.stkC (ev.frs.step fin)
    revert q5
    refine FwR.inv r5 (fun q5 => ?_) (fun q5 => ?_) (fun q5 => ?_) (fun u y r5 q5 => ?_)
    · exact ⟨vs.length + 1 - (i + 1), hn'.symm ▸ turn_lt hlt, by rw [hJ]; exact ⟨i + 1, loc5, hp5, rfl, hlt, st5, eT, ok5, ev5, r5v, q5.1, q5.2⟩⟩
    · exact hR _ _ ⟨hp5, fin, okMinus ok5, .next, loc5, evm, q5, trivial⟩
    · exact ⟨vs.length + 1 - (i + 1), hn'.symm ▸ turn_lt hlt, by rw [hJ]; exact ⟨i + 1, loc5, hp5, rfl, hlt, st5, eT, ok5, ev5, r5v, q5.1, q5.2⟩⟩
    · exact hR _ _ ⟨hp5, fin, okMinus ok5, .ret _, loc5, evm, q5, VR.keep fzMinus r5⟩
  · have hin : i = vs.length := Nat.le_antisymm hi (Nat.le_of_not_lt hlt)
    rw [hin] at st lp
    refine wpAny_mono (W.done A s' hp' (plus stk I) (Mv I s' fun _ => True) _ (rm.hd hd) st ok' r' sm (.inr rfl) fun h2 tk k2 => ⟨h2, tk, rfl, trivial, k2⟩) (fun rr s2 hh => ?_) fun _ _ z => z
    obtain ⟨rfl, h2, tk, rfl, _, k2⟩ := hh
    rw [List.drop_length, fLoopN] at lp
    obtain ⟨ex, okx, evx⟩ := leaveI (env := env) (loc := loc') (tk := tk) e2 hn ee hI ok' k2
    exact wpAny_execs_nil (hR _ _ ⟨hp', (e1.of1 (own := ownE env)).trans ex, okx, .next, loc', evx ev1.stkL ev1.stkC ev1.frs ev', lp, trivial⟩)
end Mine
namespace Mine
variable {P : Par} {Fl : Fly} {d : Nat} {sc : Scope}
noncomputable def gSeq : List DA → List V → (Loc → Hp → Prop) → XS → Loc → Hp → Prop
  | [], [], Q, _, loc, hp => Q loc hp
  | t :: ts, u :: us, Q, X, loc, hp => t u (fun loc1 hp1 => gSeq ts us Q X loc1 hp1) X loc hp
  | _, _, _, _, _, _ => False
noncomputable def gTup (ts : List DA) : DA := fun v Q X loc hp => ∃ us, v = .tup us ∧ gSeq ts us Q X loc hp
inductive SimGs (P : Par) (Fl : Fly) (d : Nat) (sc : Scope) : List Expr → List Nat → List DA → Prop
  | nil : SimGs P Fl d sc [] [] []
  | cons {t : Expr} {ts : List Expr} {i is : List Nat} {D : DA} {Ds : List DA} : SimG P Fl d sc t i D → SimGs P Fl d sc ts is Ds → SimGs P Fl d sc (t :: ts) (i ++ is) (D :: Ds)
theorem gSeq_len : ∀ {ts : List DA} {us : List V} {Q : Loc → Hp → Prop} {X : XS} {loc : Loc} {hp : Hp}, gSeq ts us Q X loc hp → (∀ t ∈ ts, ∀ v Q X loc hp, t v Q X loc hp → ∃ loc' hp', Q loc' hp') → ts.length = us.length
  | [], [], _, _, _, _, _, _ => rfl
  | [], _ :: _, _, _, _, _, h, _ => h.elim
  | _ :: _, [], _, _, _, _, h, _ => h.elim
  | t :: ts, u :: us, Q, X, loc, hp, h, k => by
    obtain ⟨l, p, z⟩ := k t List.mem_cons_self _ _ _ _ _ h
    simp [gSeq_len z fun t ht => k t (List.mem_cons_of_mem _ ht)]
theorem inOrder {A : Around} {env : Env} {stk : Addr → Prop} (rm : Room d A) (hs : env.scope = sc) : ∀ {ts : List Expr} {is : List Nat} {Ds : List DA}, SimGs P Fl d sc ts is Ds → ∀ {us : List V} {ys : List Value} {s : Shared} {Q : Loc → Hp → Prop} {X : XS} {loc : Loc} {hp : Hp}, EnvOk P A stk hp env loc s → HeapOk P stk hp s → P.VRs stk hp s.heap us ys → gSeq Ds us Q X loc hp →
    T P (ownI P env is) stk A (assignInOrder (ts.map fun t => assign t env) ys) hp s (QG P A stk env Q) (QX P Fl A stk env X) := by
  intro ts is Ds h
  induction h with
  | nil =>
    intro us ys s Q X loc hp ev ok r hD
    cases us with
    | nil => simp only [VRse] at r; subst r; exact wpAny_pure ⟨hp, .refl .., ok, loc, ev, hD⟩
    | cons u us => exact hD.elim
  | cons h1 _ ih =>
    intro us ys s Q X loc hp ev ok r hD
    cases us with
    | nil => exact hD.elim
    | cons u us =>
      simp only [VRse] at r
      obtain ⟨y, ys, rfl, ry, rys⟩ := r
      refine wpAny_assignInOrder_more (wpAny_mono (h1 A env s _ X loc hp stk u y rm hs ev ok ry hD) (fun _ s1 hq  => ?_) (by rintro _ _ ⟨hp', e, z, z'⟩; exact ⟨hp', e.wider (ownI_mono fun i hi => List.mem_append_left _ hi), z, z'⟩))
      obtain ⟨hp1, e1, ok1, loc1, ev1, q1⟩ := hq
      refine T.nxt (e1.wider (ownI_mono fun i hi => List.mem_append_left _ hi)) (wpAny_mono (ih ev1 ok1 (VRs.keep (e1.keepy fun b z => ev.own b (ownI_E b z)) rys) q1) (by rintro _ _ ⟨hp', e, z, z'⟩; exact ⟨hp', e.wider (ownI_mono fun i hi => List.mem_append_right _ hi), z, z'⟩) (by rintro _ _ ⟨hp', e, z, z'⟩; exact ⟨hp', e.wider (ownI_mono fun i hi => List.mem_append_right _ hi), z, z'⟩))
theorem SimG.tup {ts : List Expr} {k : Nat} {pos : Pos} {Ds : List DA} {is : List Nat} (hd : 0 < d) (h : SimGs P Fl d sc ts is Ds) (he : ∀ env, assignEach ts env = ts.map fun t => (false, assign t env)) (hl : ts.length = Ds.length) (hq : ∀ t ∈ Ds, ∀ v Q X loc hp, t v Q X loc hp → ∃ loc' hp', Q loc' hp') :
    SimG P Fl d sc (.Tuple ts k pos) is (gTup Ds) := by
  rintro A env s Q X loc hp stk v x rm hs ev ok r ⟨us, hv, hD⟩
  subst hv
  simp only [VRe] at r
  obtain ⟨a, xs, rfl, f, ⟨n, g⟩, rx⟩ := r
  have hlen := gSeq_len hD hq
  have hx := rx.length
  refine wpAny_assign_Tuple (rm.hd hd) (items := xs) ⟨_, g, rfl, n, rfl⟩ ?_ ?_ fun h' kp => ?_
  · rw [he env, List.length_map]
    have : xs.size = xs.toList.length := by simp
    lia
  · rw [he env]
    rw [List.findIdx?_eq_none_iff]
    intro x hx
    obtain ⟨t, _, rfl⟩ := List.mem_map.mp hx
    rfl
  · rw [he env, List.map_map]
    have kp' : ∀ b o, s.heap.get? b = some o → h'.get? b = some o := fun b o e => kp b o (Nat.ne_of_lt (Heap.lt_size e)) e
    have e1 : Ext no1 stk hp s hp { s with heap := h' } := Ext.grow (stk := stk) (tk := s.toks) kp'
    exact T.nxt e1.of1 (inOrder rm hs h (ev.step ok e1) (ok.grow (tk := s.toks) kp') (VRs_grow kp' rx) hD)
theorem gVar_hp (i : Nat) : ∀ v Q X loc hp, gVar i v Q X loc hp → gVar i v (fun loc' hp' => hp' = hp ∧ Q loc' hp') X loc hp := fun _ _ _ _ _ h => ⟨rfl, h⟩
theorem gVar_ex (i : Nat) : ∀ v Q X loc hp, gVar i v Q X loc hp → ∃ loc' hp', Q loc' hp' := fun _ _ _ _ _ h => ⟨_, _, h⟩
theorem gVars_ex (is : List Nat) : ∀ t ∈ is.map gVar, ∀ v Q X loc hp, t v Q X loc hp → ∃ loc' hp', Q loc' hp' := by
  intro t ht
  obtain ⟨i, _, rfl⟩ := List.mem_map.mp ht
  exact gVar_ex i
noncomputable def wLoop (t : DT) (b o : DS) (Q : Fw → Loc → Hp → Prop) : Nat → Loc → Hp → Prop
  | 0, _, _ => False
  | n + 1, loc, hp => t (fun c hp1 => if c then b (fun w loc2 hp2 => match w with
      | .next => wLoop t b o Q n loc2 hp2
      | .cont => wLoop t b o Q n loc2 hp2
      | .brk => Q .next loc2 hp2
      | .ret r => Q (.ret r) loc2 hp2) noX loc hp1 else o Q noX loc hp1) (fun k hp' => False) loc hp
theorem wLoopC {t : DT} {b o : DS} {Q : Fw → Loc → Hp → Prop} {n : Nat} {loc : Loc} {hp : Hp} : wLoop t b o Q (n + 1) loc hp = t (fun c hp1 => if c then b (fun w loc2 hp2 => match w with
      | .next => wLoop t b o Q n loc2 hp2
      | .cont => wLoop t b o Q n loc2 hp2
      | .brk => Q .next loc2 hp2
      | .ret r => Q (.ret r) loc2 hp2) noX loc hp1 else o Q noX loc hp1) (fun k hp' => False) loc hp := rfl
noncomputable def sWhile (t : DT) (b o : DS) : DS := fun Q X loc hp => ∃ n, wLoop t b o Q n loc hp
inductive WInv (P : Par) (A : Around) (stk : Addr → Prop) (env : Env) (hp : Hp) (s : Shared) (L : Nat → Loc → Hp → Prop) (n : Nat) (s' : Shared) : Prop
  | intro (loc' : Loc) (hp' : Hp) (e : Ext (ownE env) stk hp s hp' s') (ok : HeapOk P stk hp' s') (ev : EnvOk P A stk hp' env loc' s') (lp : L n loc' hp') : WInv P A stk env hp s L n s'
theorem SimS.while {t : Expr} {body orelse : List Stmt} {pos : Pos} {Dt : DT} {Db Do : DS} (ht : SimT P Fl d sc t Dt) (hb : SimSs P Fl d sc body Db) (ho : SimSs P Fl d sc orelse Do) : SimS P Fl d sc (.While t body orelse pos) (sWhile Dt Db Do) := by
  rintro A env s Q X loc hp stk rm hs ev ok ⟨n, hD⟩
  refine wpAny_While ?_
  suffices key : ∀ R : Result → Shared → Prop, (∀ f s', PostT P (ownE env) stk hp s (QS P A stk env Q) f s' → R (.ok f) s') → codeAny P.M A (.whileLoop t body orelse env) R s from key _ fun _ _ z => z
  intro R hR
  obtain ⟨J, hJ⟩ : ∃ J : Nat → Shared → Prop, J = WInv P A stk env hp s (wLoop Dt Db Do Q) := ⟨_, rfl⟩
  refine codeAny_loop rfl J ?_ n (by rw [hJ]; exact ⟨loc, hp, .refl .., ok, ev, hD⟩)
  intro n s' hj
  rw [hJ] at hj
  obtain ⟨loc', hp', e, ok', ev', lp⟩ := hj
  show wpAny _ _ ((whileTurn t body orelse env).onRaise (fun x => do noteFrame x env; theTreesLotGoes x)) _ _ s'
  rw [show A.under (.whileLoop t body orelse env) = A from Around.under_of_weight rfl]
  refine wpAny_noted ?_
  cases n with
  | zero => exact lp.elim
  | succ n =>
    rw [wLoopC] at lp
    unfold whileTurn
    refine wpAny_bind (wpAny_mono (T2 (X := noX) ht rm hs ev' ok' lp fun c hp1 s1 e1 ev1 ok1 q => ?_) (fun _ _ z => z) (noE _ _ _))
    cases c with
    | true =>
      simp only [if_true] at q ⊢
      refine wpAny_bind (wpAny_mono (hb A env s1 _ noX loc' hp1 stk rm hs ev1 ok1 q) (fun f s2 hq  => ?_) (noE _ _ _))
      obtain ⟨hp2, e2, ok2, w, loc2, ev2, q2, r2⟩ := hq
      have eT := (e.trans e1.of1).trans e2
      revert q2
      refine FwR.inv r2 (fun q2 => ?_) (fun q2 => ?_) (fun q2 => ?_) (fun u y r2 q2 => ?_)
      · exact wpAny_pure ⟨rfl, n, Nat.lt_succ_self _, by rw [hJ]; exact ⟨loc2, hp2, eT, ok2, ev2, q2⟩⟩
      · exact wpAny_pure (hR _ _ ⟨hp2, eT, ok2, .next, loc2, ev2, q2, trivial⟩)
      · exact wpAny_pure ⟨rfl, n, Nat.lt_succ_self _, by rw [hJ]; exact ⟨loc2, hp2, eT, ok2, ev2, q2⟩⟩
      · exact wpAny_pure (hR _ _ ⟨hp2, eT, ok2, .ret _, loc2, ev2, q2, r2⟩)
    | false =>
      simp only [Bool.false_eq_true, if_false] at q ⊢
      refine wpAny_bind (wpAny_mono (ho A env s1 _ noX loc' hp1 stk rm hs ev1 ok1 q) (fun f s2 h2 => ?_) (noE _ _ _))
      exact wpAny_pure (hR _ _ (h2.back P (e.trans e1.of1)))
end Mine
namespace Mine
noncomputable def innerSem (elt : Expr) (gens : List Comprehension) (scope : Scope) (pos : Pos) (k : Nat) (acc : Value) (env : Env) : Sem Unit :=
  match gens[k]? with
  | some g' => do
    let x ← eval g'.iter env
    standAt g'.iter.pos
    let x ← if g'.is_async != 0 then foldedIterable g'.iter x else foldedSetIterable g'.iter env x
    let _ ← runOwn (.compStart (.ListComp elt gens scope pos) k (← holding [x] (if g'.is_async != 0 then asyncIter x else pyIter x)) acc env) env
  | Option.none => do let _ ← call (.builtin "list.append") [acc, ← eval elt env]
theorem compTurn_at (elt : Expr) (gens : List Comprehension) (scope : Scope) (pos : Pos) (k : Nat) (it acc : Value) (env : Env) (t iter : Expr) (ifs : List Expr) (hg : gens[k]? = some ⟨t, iter, ifs, 0⟩)
    (hn : gens[k + 1]? = Option.none ∨ ∃ t' i' f', gens[k + 1]? = some ⟨t', i', f', 0⟩) :
    compTurn (.ListComp elt gens scope pos) k it acc env = (standAt iter.pos >>= fun _ => pyNext it >>= fun r => match r with
      | Option.none => pure (.done .next)
      | some v => letOwnedTupleGo t it v >>= fun _ => assign t env v >>= fun _ =>
        (forIn ifs true fun c r => if r = true then do let ok ← isTrue c env (eval c env); pure (ForInStep.yield ok) else pure (ForInStep.yield r)) >>= fun ok =>
          if ok = true then (innerSem elt gens scope pos (k + 1) acc env >>= fun _ => again (.compLoop (.ListComp elt gens scope pos) k it acc env)) else again (.compLoop (.ListComp elt gens scope pos) k it acc env)) := by
  unfold compTurn innerSem
  simp only [hg]
  rcases hn with hn | ⟨t', i', f', hn⟩
  · rw [hn]; rfl
  · simp only [hn, bind_assoc, bne_self_eq_false, Bool.false_eq_true, if_false, pure_bind]
    refine congrArg _ (funext fun _ => congrArg _ (funext fun r => ?_))
    cases r <;> rfl
theorem compStart_at (elt : Expr) (gens : List Comprehension) (scope : Scope) (pos : Pos) (k : Nat) (it acc : Value) (env : Env) (t iter : Expr) (ifs : List Expr) (hg : gens[k]? = some ⟨t, iter, ifs, 0⟩) :
    compStart (.ListComp elt gens scope pos) k it acc env = (ask >>= fun st => if st.params.followText "comprehension-iter-twice" = true then (again (.compLoop (.ListComp elt gens scope pos) k it acc env)) else
      (rule "comprehension.iter-twice" >>= fun _ => standAt iter.pos >>= fun _ => pyIter it >>= fun it' => again (.compLoop (.ListComp elt gens scope pos) k it' acc env))) := by
  have hc : clausesOf (.ListComp elt gens scope pos) = gens := rfl
  unfold compStart
  simp only [hc, hg]
  rfl
end Mine
namespace Mine
variable {A : Around} {P : Par} {Fl : Fly} {d : Nat} {sc : Scope}
theorem nD_seq {c : Value} {xs : Array Value} {n : Nat} : ¬ isD { cls := c, data := .seq xs n } := by rintro ⟨es, m, e⟩; cases e
theorem stk_none {stk : Addr → Prop} {hp : Hp} {s : Shared} (ok : HeapOk P stk hp s) {a : Addr} (z : stk a) : hp a = Option.none := by
  cases q : hp a with
  | none => rfl
  | some o => exact absurd z (ok.apart a (by rw [q]; intro z; cases z))
theorem okAt {stk : Addr → Prop} {hp : Hp} {s : Shared} (ok : HeapOk P stk hp s) {c : Addr} {h' : Heap} {tk : Nat} (hsc : stk c) (hs : Heap.SameBut c s.heap h') (ht : ∃ o, h'.get? c = some o) (hnd : ∀ o, s.heap.get? c = some o → ¬ isD o) :
    HeapOk P stk hp { s with heap := h', toks := tk } ∧ Keepy (Fz stk hp) (Fz stk hp) s.heap h' ∧ ∀ own : Addr → Prop, own c → Ext own stk hp s hp { s with heap := h', toks := tk } := by
  have ky : Keepy (Fz stk hp) (Fz stk hp) s.heap h' := by
    rintro a o f g
    exact ⟨f, (hs.2 a (fun z => f.2 (z ▸ hsc))).trans g⟩
  refine ⟨⟨fun a o e => (ok.obj a o e).keep ky fun o g => (hs.2 a ?_).trans g, ok.apart, fun b o e => (hs.2 b ?_).trans (ok.base b o e), ok.new, ok.stkn, fun a z => ?_, ok.gens⟩, ky, fun own hc => .exact (fun b o e n g => (hs.2 b (fun z => n (z ▸ hc))).trans g) (fun b o g => ?_) (fun b o st g d => ⟨o, (hs.2 b (by rintro rfl; exact hnd o g d)).trans g, d⟩) (fun _ a b => absurd a b) rfl rfl⟩
  · rintro rfl; rw [stk_none ok hsc] at e; cases e
  · rintro rfl; rw [ok.stkn _ hsc] at e; cases e
  · by_cases q : a = c
    · subst q; exact ht
    · obtain ⟨o, e⟩ := ok.stkl a z; exact ⟨o, (hs.2 a q).trans e⟩
  · by_cases q : b = c
    · subst q; exact ht
    · exact ⟨o, (hs.2 b q).trans g⟩
theorem evAt {stk : Addr → Prop} {hp : Hp} {env : Env} {loc : Loc} {s : Shared} (ev : EnvOk P A stk hp env loc s) {c : Addr} {h' : Heap} {tk : Nat} (hs : Heap.SameBut c s.heap h') (ky : Keepy (Fz stk hp) (Fz stk hp) s.heap h') (hL : c ≠ env.locals) (hC : ∀ n, env.cells.lookup n ≠ some c) (hnd : ∀ o, s.heap.get? c = some o → ¬ isD o) : EnvOk P A stk hp env loc { s with heap := h', toks := tk } := by
  refine ⟨ev.kind, ev.glob, ev.blt, ?_, fun j u g kk => ?_, ev.stkL, ev.stkC, fun n kk => ?_, ev.apart, ev.apartL, ev.frs.up (fun _ z => z) fun b o st g d => ⟨o, (hs.2 b (by rintro rfl; exact hnd o g d)).trans g, d⟩, ev.top⟩
  · obtain ⟨m, n, hm⟩ := ev.ns
    exact ⟨m, n.sameBut hs (Ne.symm hL), fun j u a b => (by obtain ⟨z, p, q⟩ := hm j u a b; exact ⟨z, p, q.keep ky⟩)⟩
  · obtain ⟨c2, z, p, g, q⟩ := ev.cell j u g kk
    exact ⟨c2, z, p, g.sameBut hs (fun z => hC _ (z ▸ p)), q.keep ky⟩
  · obtain ⟨c2, z, p, g⟩ := ev.cells n kk
    exact ⟨c2, z, p, g.sameBut hs (fun z => hC _ (z ▸ p))⟩
theorem EnvOk.weaken {stk : Addr → Prop} {hp : Hp} {env : Env} {loc loc' : Loc} {s : Shared} (ev : EnvOk P A stk hp env loc' s) (h : ∀ i v, loc i = some v → loc' i = some v) : EnvOk P A stk hp env loc s :=
  ⟨ev.kind, ev.glob, ev.blt, (by obtain ⟨m, n, hm⟩ := ev.ns; exact ⟨m, n, fun i v a b => hm i v (h i v a) b⟩), fun i v a b => ev.cell i v (h i v a) b, ev.stkL, ev.stkC, ev.cells, ev.apart, ev.apartL, ev.frs, ev.top⟩
noncomputable abbrev CD := (List V → Hp → Prop) → List V → Loc → Hp → Prop
noncomputable def noXA : XA := fun _ _ => False
noncomputable def cElt (e : DE) : CD := fun K acc loc hp => acc.length ≤ lim ∧ e (fun v hp1 => K (acc ++ [v]) hp1) noXA loc hp
noncomputable def cLp (v : V) (hp0 : Hp) (t : DA) (f : DT) (inner : CD) (K : List V → Hp → Prop) : List V → List V → Loc → Hp → Prop
  | [], acc, _, hp => K acc hp
  | u :: us, acc, loc, hp => t u (fun loc1 hp1 => f (fun b hp2 => if b then inner (fun acc' hp3 => same v hp0 hp3 ∧ cLp v hp0 t f inner K us acc' loc hp3) acc loc1 hp2 else same v hp0 hp2 ∧ cLp v hp0 t f inner K us acc loc hp2) noXA loc1 hp1) noX loc hp
theorem cLpN {v : V} {hp0 : Hp} {t : DA} {f : DT} {inner : CD} {K : List V → Hp → Prop} {acc : List V} {loc : Loc} {hp : Hp} : cLp v hp0 t f inner K [] acc loc hp = K acc hp := rfl
theorem cLpC {v : V} {hp0 : Hp} {t : DA} {f : DT} {inner : CD} {K : List V → Hp → Prop} {acc : List V} {loc : Loc} {hp : Hp} {u : V} {us : List V} : cLp v hp0 t f inner K (u :: us) acc loc hp = t u (fun loc1 hp1 => f (fun b hp2 => if b then inner (fun acc' hp3 => same v hp0 hp3 ∧ cLp v hp0 t f inner K us acc' loc hp3) acc loc1 hp2 else same v hp0 hp2 ∧ cLp v hp0 t f inner K us acc loc hp2) noXA loc1 hp1) noX loc hp := rfl
structure CSt (P : Par) (A : Around) (stk : Addr → Prop) (hp : Hp) (env : Env) (loc : Loc) (s : Shared) (D : Addr) (acc : List V) : Prop where
  ev : EnvOk P A stk hp env loc s
  ok : HeapOk P stk hp s
  stkD : stk D
  neL : D ≠ env.locals
  neC : ∀ n, env.cells.lookup n ≠ some D
  lst : ∃ ys, s.heap.PlainList D ys ∧ P.VRs stk hp s.heap acc ys.toList
noncomputable def ownC (P : Par) (env : Env) (ids : List Nat) (D : Addr) : Addr → Prop := fun b => ownI P env ids b ∨ b = D
theorem CSt.own {stk : Addr → Prop} {hp : Hp} {env : Env} {loc : Loc} {s : Shared} {D : Addr} {acc : List V} (c : CSt P A stk hp env loc s D acc) {ids : List Nat} : ∀ b, ownC P env ids D b → stk b := by
  rintro b (z | rfl)
  · exact c.ev.own b (ownI_E b z)
  · exact c.stkD
theorem CSt.step {stk : Addr → Prop} {hp hp' : Hp} {env : Env} {loc : Loc} {s s' : Shared} {D : Addr} {acc : List V} (c : CSt P A stk hp env loc s D acc) (e : Ext no1 stk hp s hp' s') (ok' : HeapOk P stk hp' s') : CSt P A stk hp' env loc s' D acc := by
  refine ⟨c.ev.step c.ok e, ok', c.stkD, c.neL, c.neC, ?_⟩
  obtain ⟨ys, ⟨n, g⟩, r⟩ := c.lst
  exact ⟨ys, ⟨n, e.same (stk_none c.ok c.stkD) (fun z => z) (.inr nD_seq) g⟩, VRs_step e r⟩
theorem CSt.weaken {stk : Addr → Prop} {hp : Hp} {env : Env} {loc loc' : Loc} {s : Shared} {D : Addr} {acc : List V} (c : CSt P A stk hp env loc' s D acc) (h : ∀ i v, loc i = some v → loc' i = some v) : CSt P A stk hp env loc s D acc := ⟨c.ev.weaken h, c.ok, c.stkD, c.neL, c.neC, c.lst⟩
noncomputable def SimI (P : Par) (Fl : Fly) (d : Nat) (sc : Scope) (elt : Expr) (gens : List Comprehension) (scope : Scope) (pos : Pos) (k : Nat) (ids : List Nat) (Dk : CD) : Prop :=
  ∀ (A : Around) (env : Env) (s : Shared) (K : List V → Hp → Prop) (acc : List V) (loc : Loc) (hp : Hp) (stk : Addr → Prop) (D : Addr),
    Room d A → env.scope = sc → CSt P A stk hp env loc s D acc → (∀ i ∈ ids, loc i = Option.none) → Dk K acc loc hp →
    wpAny P.M A (innerSem elt gens scope pos k (.ref D) env) (fun _ s' => ∃ hp' acc', Ext (ownC P env ids D) stk hp s hp' s' ∧ CSt P A stk hp' env loc s' D acc' ∧ K acc' hp') (fun _ _ => False) s
theorem noXA_post {own stk : Addr → Prop} {hp : Hp} {s : Shared} {E : Value → Shared → Prop} : ∀ e s'', PostT P own stk hp s (lX Fl noXA) e s'' → E e s'' := by
  rintro e s'' ⟨_, _, _, k, hx, _⟩
  exact hx.elim
theorem SimI.elt {elt : Expr} {gens : List Comprehension} {scope : Scope} {pos : Pos} {k : Nat} {De : DE} (hg : gens[k]? = Option.none) (h : SimE P Fl d sc elt De) : SimI P Fl d sc elt gens scope pos k [] (cElt De) := by
  rintro A env s K acc loc hp stk D rm hs c hf ⟨hl, hD⟩
  unfold innerSem
  rw [hg]
  refine wpAny_bind (wpAny_mono (h A env s _ noXA loc hp stk rm hs c.ev c.ok hD) (fun x s1 hq  => ?_) noXA_post)
  obtain ⟨hp1, e1, ok1, v, q, r⟩ := hq
  have c1 := c.step e1 ok1
  obtain ⟨ys, pl, ry⟩ := c1.lst
  have hz : ys.size ≤ sizeLine := by
    have h1 := ry.length
    have h2 : ys.size = ys.toList.length := by simp
    have := lim_le
    omega
  refine wpAny_bind (wpAny_list_append_plain (hsz := hz) pl fun h' pl' sb => wpAny_pure ?_)
  obtain ⟨ok2, ky, ex⟩ := okAt (tk := s1.toks) ok1 c.stkD sb (by obtain ⟨n, g⟩ := pl'; exact ⟨_, g⟩) (fun o g => by obtain ⟨n, g'⟩ := pl; rw [g] at g'; cases g'; exact nD_seq)
  refine ⟨hp1, acc ++ [v], e1.of1.trans (ex _ (.inr rfl)), ⟨evAt c1.ev sb ky c.neL c.neC (fun o g => by obtain ⟨n, g'⟩ := pl; rw [g] at g'; cases g'; exact nD_seq), ok2, c.stkD, c.neL, c.neC, _, pl', ?_⟩, q⟩
  rw [Array.toList_push]
  exact (ry.keep ky).append (vCons (r.keep ky) vNil)
noncomputable def fNone : DT := fun Q _ _ hp => Q true hp
noncomputable def SimF (P : Par) (Fl : Fly) (d : Nat) (sc : Scope) (ifs : List Expr) (Df : DT) : Prop :=
  ∀ (A : Around) (env : Env) (s : Shared) (Q : Bool → Hp → Prop) (loc : Loc) (hp : Hp) (stk : Addr → Prop),
    Room d A → env.scope = sc → EnvOk P A stk hp env loc s → HeapOk P stk hp s → Df Q noXA loc hp →
    wpAny P.M A (forIn ifs true fun c r => if r = true then do let ok ← isTrue c env (eval c env); pure (ForInStep.yield ok) else pure (ForInStep.yield r)) (PostT P no1 stk hp s (fun b hp' s' => Q b hp')) (fun _ _ => False) s
theorem SimF.nil : SimF P Fl d sc [] fNone := fun A env s Q loc hp stk rm hs ev ok hD => wpAny_tests_nil ⟨hp, .refl .., ok, hD⟩
theorem SimF.one {c : Expr} {D : DT} (h : SimT P Fl d sc c D) : SimF P Fl d sc [c] D := fun A env s Q loc hp stk rm hs ev ok hD => wpAny_tests_one (wpAny_mono (h A env s Q noXA loc hp stk rm hs ev ok hD) (fun _ _ z => z) noXA_post)
noncomputable def Tgt (ids : List Nat) (Dt : DA) : Prop := ∀ v Q X loc hp, (∀ i ∈ ids, loc i = Option.none) → Dt v Q X loc hp → Dt v (fun loc' hp' => hp' = hp ∧ (∀ i v, loc i = some v → loc' i = some v) ∧ (∀ i, i ∉ ids → loc' i = loc i) ∧ Q loc' hp') X loc hp
theorem Tgt.var (i : Nat) : Tgt [i] (gVar i) := fun v Q X loc hp hn h => ⟨rfl, fun j u e => by
  have : j ≠ i := by rintro rfl; rw [hn j (by simp)] at e; cases e
  rw [upd_ne this]; exact e, fun j hj => upd_ne (by simpa using hj), h⟩
theorem gSeq_tgt : ∀ {is : List Nat} {us : List V} {Q : Loc → Hp → Prop} {X : XS} {loc : Loc} {hp : Hp}, is.Nodup → (∀ i ∈ is, loc i = Option.none) → gSeq (is.map gVar) us Q X loc hp → gSeq (is.map gVar) us (fun loc' hp' => hp' = hp ∧ (∀ i v, loc i = some v → loc' i = some v) ∧ (∀ i, i ∉ is → loc' i = loc i) ∧ Q loc' hp') X loc hp
  | [], [], _, _, _, _, _, _, h => ⟨rfl, fun _ _ e => e, fun _ _ => rfl, h⟩
  | [], _ :: _, _, _, _, _, _, _, h => h.elim
  | _ :: _, [], _, _, _, _, _, _, h => h.elim
  | i :: is, u :: us, Q, X, loc, hp, hnd, hn, h => by
    rw [List.nodup_cons] at hnd
    have hn' : ∀ j ∈ is, upd loc i u j = Option.none := fun j hj => by
      rw [upd_ne (by rintro rfl; exact hnd.1 hj)]; exact hn j (List.mem_cons_of_mem _ hj)
    have z := gSeq_tgt (is := is) (us := us) (loc := upd loc i u) (hp := hp) hnd.2 hn' h
    show gSeq (is.map gVar) us _ X (upd loc i u) hp
    have mono : ∀ {is : List Nat} {us : List V} {Q Q' : Loc → Hp → Prop} {loc : Loc} {hp : Hp}, (∀ l p, Q l p → Q' l p) → gSeq (is.map gVar) us Q X loc hp → gSeq (is.map gVar) us Q' X loc hp := by
      intro is
      induction is with
      | nil => intro us Q Q' loc hp k h; cases us with
        | nil => exact k _ _ h
        | cons => exact h.elim
      | cons j is ih => intro us Q Q' loc hp k h; cases us with
        | nil => exact h.elim
        | cons u us => exact ih k h
    refine mono (fun l p ⟨a, b, c, q⟩ => ⟨a, fun j w e => ?_, fun j hj => ?_, q⟩) z
    · have : j ≠ i := by rintro rfl; rw [hn j (by simp)] at e; cases e
      exact b j w (by rw [upd_ne this]; exact e)
    · simp only [List.mem_cons, not_or] at hj
      rw [c j hj.2, upd_ne hj.1]
theorem Tgt.tup {is : List Nat} (hnd : is.Nodup) : Tgt is (gTup (is.map gVar)) := (by rintro v Q X loc hp hn ⟨us, e, h⟩; exact ⟨us, e, gSeq_tgt hnd hn h⟩)
inductive CInv (P : Par) (A : Around) (stk : Addr → Prop) (env : Env) (loc : Loc) (own : Addr → Prop) (D : Addr) (v : V) (x : Value) (I : Addr) (hp1 : Hp) (s1 : Shared) (St : Nat → Heap → Prop) (vs : List V) (L : List V → List V → Hp → Prop) (n : Nat) (s' : Shared) : Prop
  | intro (i : Nat) (acc' : List V) (hp' : Hp) (hn : n = vs.length + 1 - i) (hi : i ≤ vs.length) (st : St i s'.heap) (ee : Ext (plus own I) (plus stk I) hp1 s1 hp' s') (c : CSt P A (plus stk I) hp' env loc s' D acc') (r : P.VR (plus stk I) hp' s'.heap v x) (sm : same v hp1 hp') (lp : L (vs.drop i) acc' hp') : CInv P A stk env loc own D v x I hp1 s1 St vs L n s'
theorem mvC {P : Par} {A : Around} {stk : Addr → Prop} {env : Env} {loc : Loc} {D I : Addr} {hp : Hp} {s' : Shared} {h2 : Heap} {tk : Nat} {acc : List V} {own : Addr → Prop} (c' : CSt P A (plus stk I) hp env loc s' D acc) (e3 : Ext own (plus stk I) hp s' hp { s' with heap := h2, toks := tk }) (hLI : env.locals ≠ I) (hCI : ∀ n c, env.cells.lookup n = some c → c ≠ I) (hDI : D ≠ I) (hal : ∃ o, h2.get? I = some o)
    (ky : Keepy (Fz (plus stk I) hp) (Fz (plus stk I) hp) s'.heap h2) (k2 : ∀ b o, b ≠ I → s'.heap.get? b = some o → h2.get? b = some o) : CSt P A (plus stk I) hp env loc { s' with heap := h2, toks := tk } D acc := by
  refine ⟨mvEv c'.ev e3 hLI hCI ky k2, mvOk c'.ok hal ky k2, c'.stkD, c'.neL, c'.neC, ?_⟩
  obtain ⟨ys, ⟨n, g⟩, r⟩ := c'.lst
  exact ⟨ys, ⟨n, k2 _ _ hDI g⟩, r.keep ky⟩
theorem compLp (hd : 0 < d) {elt : Expr} {gens : List Comprehension} {scope : Scope} {pos : Pos} {k : Nat} {t iter : Expr} {ifs : List Expr} {idt ids : List Nat} {Dt : DA} {Df : DT} {inner : CD} (hg : gens[k]? = some ⟨t, iter, ifs, 0⟩) (hn1 : gens[k + 1]? = Option.none ∨ ∃ t' i' f', gens[k + 1]? = some ⟨t', i', f', 0⟩)
    (ht : SimG P Fl d sc t idt Dt) (htg : Tgt idt Dt) (hf : SimF P Fl d sc ifs Df) (hi : SimI P Fl d sc elt gens scope pos (k + 1) ids inner) (hdis : ∀ i ∈ ids, i ∉ idt)
    {A : Around} {env : Env} {s0 : Shared} {K : List V → Hp → Prop} {acc : List V} {loc : Loc} {hp1 : Hp} {stk : Addr → Prop} {D : Addr} (rm : Room d A) (hs : env.scope = sc) {v : V} {x : Value} {I : Addr} {vs : List V} {St : Nat → Heap → Prop}
    (hfr : ∀ i ∈ idt ++ ids, loc i = Option.none) {s1 : Shared} (hI : ¬ stk I) (e2 : Ext (ownC P env (idt ++ ids) D) stk hp1 s0 hp1 s1) (hn : s0.heap.get? I = Option.none) (cp : CSt P A (plus stk I) hp1 env loc s1 D acc) (hL : stk env.locals) (hC : ∀ n c, env.cells.lookup n = some c → stk c) (hF : Fs A stk s0) (hD : stk D) (W : Wlk P v x I vs (same v hp1) St) (st0 : St 0 s1.heap) (r0 : P.VR (plus stk I) hp1 s1.heap v x) (lp0 : cLp v hp1 Dt Df inner K vs acc loc hp1) :
    codeAny P.M A (.compLoop (.ListComp elt gens scope pos) k (.ref I) (.ref D) env) (fun r s' => match r with | .ok _ => ∃ hp' acc', Ext (ownC P env (idt ++ ids) D) stk hp1 s0 hp' s' ∧ CSt P A stk hp' env loc s' D acc' ∧ K acc' hp' | .error _ => False) s1 := by
  have hLI : I ≠ env.locals := fun z => hI (z ▸ hL)
  have hCI : ∀ n, env.cells.lookup n ≠ some I := fun n p => hI (hC n I p)
  have hDI : D ≠ I := fun z => hI (z ▸ hD)
  have hoI : ∀ l, ¬ ownI P env l I := fun l z => by
    rcases ownI_E I z with z | ⟨n, z⟩
    · exact hLI z
    · exact hCI n z
  suffices key : ∀ R : Result → Shared → Prop, (∀ r s' hp' acc', Ext (ownC P env (idt ++ ids) D) stk hp1 s0 hp' s' → CSt P A stk hp' env loc s' D acc' → K acc' hp' → R (.ok r) s') → codeAny P.M A (.compLoop (.ListComp elt gens scope pos) k (.ref I) (.ref D) env) R s1 from key _ fun _ _ hp' acc' a b c => ⟨hp', acc', a, b, c⟩
  intro R hR
  obtain ⟨J, hJ⟩ : ∃ J : Nat → Shared → Prop, J = CInv P A stk env loc (ownC P env (idt ++ ids) D) D v x I hp1 s1 St vs (fun us acc hp => cLp v hp1 Dt Df inner K us acc loc hp) := ⟨_, rfl⟩
  refine codeAny_loop rfl J ?_ (vs.length + 1) (by rw [hJ]; exact ⟨0, acc, hp1, rfl, Nat.zero_le _, st0, .refl .., cp, r0, same_refl v hp1, lp0⟩)
  intro n s' hj
  rw [hJ] at hj
  obtain ⟨i, acc', hp', hn', hi', st, ee, c', r', sm, lp⟩ := hj
  show wpAny _ A ((compTurn (.ListComp elt gens scope pos) k (.ref I) (.ref D) env).onRaise (fun x => do noteFrame x env; theTreesLotGoes x)) _ _ s'
  refine wpAny_noted ?_
  rw [compTurn_at elt gens scope pos k _ _ env t iter ifs hg hn1]
  refine wpAny_bind (wpAny_standAt (wpAny_bind ?_))
  by_cases hlt : i < vs.length
  · refine wpAny_mono (W.item A t i s' hp' (plus stk I) (fun y => Mv I s' fun h2 => P.VR (plus stk I) hp' h2 vs[i] y ∧ St (i + 1) h2) _ hlt (rm.hd hd) st c'.ok r' sm (.inr rfl) fun y h2 tk ry st2 k2 => ⟨h2, tk, rfl, ⟨ry, st2⟩, k2⟩) (fun rr s2 hh => ?_) fun _ _ z => z
    obtain ⟨y, rfl, hw⟩ := hh
    refine wpAny_bind (wpAny_mono hw (fun _ s3 hq => ?_) fun _ _ z => z)
    obtain ⟨h2, tk, rfl, ⟨ry, st2⟩, k2⟩ := hq
    have ky : Keepy (Fz (plus stk I) hp') (Fz (plus stk I) hp') s'.heap h2 := fun a o f g => ⟨f, k2 a o (fun z => f.2 (.inr z)) g⟩
    have e3 := mvExt (own := ownC P env (idt ++ ids) D) (stk := stk) (hp := hp') (tk := tk) (W.alive _ _ st2) (fun o g => W.nd st g) k2
    have c3 := mvC c' e3 (Ne.symm hLI) (fun n c p z => hCI n (z ▸ p)) hDI (W.alive _ _ st2) ky k2
    have r3 : P.VR (plus stk I) hp' h2 v x := r'.keep ky
    have hdrop : vs.drop i = vs[i] :: vs.drop (i + 1) := List.drop_eq_getElem_cons hlt
    rw [hdrop, cLpC] at lp
    refine wpAny_bind (wpAny_mono (ht A env _ _ noX loc hp' (plus stk I) vs[i] y rm hs c3.ev c3.ok ry (htg _ _ _ _ _ (fun i hi => hfr i (List.mem_append_left _ hi)) lp)) (fun _ s4 hq  => ?_) ?_)
    · obtain ⟨hp4, e4, ok4, loc4, ev4, h4, hle, hoth, q4⟩ := hq
      subst h4
      have e4c : Ext (plus (ownC P env (idt ++ ids) D) I) (plus stk I) hp4 { s' with heap := h2, toks := tk } hp4 s4 := e4.wider fun b z => .inl (.inl (ownI_mono (fun i hi => List.mem_append_left _ hi) b z))
      have ky4 : Keepy (Fz (plus stk I) hp4) (Fz (plus stk I) hp4) h2 s4.heap := e4.keepy fun b z => c3.ev.own b (ownI_E b z)
      have noown : ∀ b, ¬ ownI P env idt b → hp4 b = Option.none → ∀ o, ¬ isD o → h2.get? b = some o → s4.heap.get? b = some o := fun b h1 h3 o nd g => e4.same h3 h1 (.inr nd) g
      have hDno : ¬ ownI P env idt D := by
        rintro ⟨j, _, ⟨_, z⟩ | ⟨_, z⟩⟩
        · exact cp.neL z
        · exact cp.neC _ z
      have c4 : CSt P A (plus stk I) hp4 env loc4 s4 D acc' := ⟨ev4, ok4, c3.stkD, c3.neL, c3.neC, by
        obtain ⟨ys, ⟨n, g⟩, r⟩ := c3.lst
        exact ⟨ys, ⟨n, noown D hDno (stk_none c3.ok c3.stkD) _ nD_seq g⟩, r.keep ky4⟩⟩
      have st4 : St (i + 1) s4.heap := W.frame _ _ _ st2 fun o g => noown I (hoI _) (stk_none c3.ok (.inr rfl)) o (W.nd st2 g) g
      have r4 : P.VR (plus stk I) hp4 s4.heap v x := r3.keep ky4
      refine wpAny_bind (wpAny_mono (hf A env s4 _ loc4 hp4 (plus stk I) rm hs ev4 ok4 q4) (fun b s5 hq  => ?_) fun _ _ z => z.elim)
      obtain ⟨hp5, e5, ok5, q5⟩ := hq
      have c5 := c4.step e5 ok5
      have st5 : St (i + 1) s5.heap := W.frame _ _ _ st4 fun o g => e5.same (stk_none c4.ok (.inr rfl)) (fun z => z) (.inr (W.nd st4 g)) g
      have r5 : P.VR (plus stk I) hp5 s5.heap v x := VR_step e5 r4
      have eT := ((ee.trans e3).trans e4c).trans (e5.of1 (own := plus (ownC P env (idt ++ ids) D) I))
      cases b with
      | false =>
        simp only [Bool.false_eq_true, if_false] at q5 ⊢
        exact wpAny_pure ⟨rfl, vs.length + 1 - (i + 1), hn'.symm ▸ turn_lt hlt, by rw [hJ]; exact ⟨i + 1, acc', hp5, rfl, hlt, st5, eT, c5.weaken hle, r5, q5.1, q5.2⟩⟩
      | true =>
        simp only [if_true] at q5 ⊢
        refine wpAny_bind (wpAny_mono (hi A env s5 _ acc' loc4 hp5 (plus stk I) D rm hs c5 (fun j hj => by rw [hoth j (hdis j hj)]; exact hfr j (List.mem_append_right _ hj)) q5) (fun _ s6 hq  => ?_) fun _ _ z => z.elim)
        obtain ⟨hp6, acc6, e6, c6, q6⟩ := hq
        have e6' : Ext (plus (ownC P env (idt ++ ids) D) I) (plus stk I) hp5 s5 hp6 s6 := e6.wider fun b z => .inl (z.elim (fun z => .inl (ownI_mono (fun i hi => List.mem_append_right _ hi) b z)) .inr)
        have hIno : ¬ ownC P env ids D I := by
          rintro (z | z)
          · exact hoI _ z
          · exact hDI z.symm
        have st6 : St (i + 1) s6.heap := W.frame _ _ _ st5 fun o g => e6.same (stk_none c5.ok (.inr rfl)) hIno (.inr (W.nd st5 g)) g
        have r6 : P.VR (plus stk I) hp6 s6.heap v x := r5.keep (e6.keepy c5.own)
        exact wpAny_pure ⟨rfl, vs.length + 1 - (i + 1), hn'.symm ▸ turn_lt hlt, by rw [hJ]; exact ⟨i + 1, acc6, hp6, rfl, hlt, st6, eT.trans e6', c6.weaken hle, r6, q6.1, q6.2⟩⟩
    · rintro e s'' ⟨_, _, _, k, l, _, hx, _⟩
      exact hx.elim
  · have hin : i = vs.length := Nat.le_antisymm hi' (Nat.le_of_not_lt hlt)
    rw [hin] at st lp
    refine wpAny_mono (W.done A s' hp' (plus stk I) (Mv I s' fun _ => True) _ (rm.hd hd) st c'.ok r' sm (.inr rfl) fun h2 tk k2 => ⟨h2, tk, rfl, trivial, k2⟩) (fun rr s2 hh => ?_) fun _ _ z => z
    obtain ⟨rfl, h2, tk, rfl, _, k2⟩ := hh
    rw [List.drop_length, cLpN] at lp
    obtain ⟨ex, okx, evx⟩ := leaveI (env := env) (loc := loc) (tk := tk) e2 hn ee hI c'.ok k2
    refine wpAny_pure (hR _ _ hp' acc' ex ⟨evx hL hC hF c'.ev, okx, hD, cp.neL, cp.neC, ?_⟩ lp)
    obtain ⟨ys, ⟨n, g⟩, r⟩ := c'.lst
    exact ⟨ys, ⟨n, k2 _ _ hDI g⟩, r.keep fun a o f g => ⟨⟨f.1, fun z => f.2 (.inl z)⟩, k2 a o (fun q => f.2 (.inr q)) g⟩⟩
end Mine
namespace Mine
variable {P : Par} {Fl : Fly} {d : Nat} {sc : Scope}
theorem startOk {elt : Expr} {gens : List Comprehension} {scope : Scope} {pos : Pos} {k : Nat} {t iter : Expr} {ifs : List Expr} (hg : gens[k]? = some ⟨t, iter, ifs, 0⟩) {A : Around} {env : Env} {s : Shared} {I : Addr} {acc : Value} {G : Shared → Prop}
    (hself : ∀ (Q : Value → Shared → Prop) E, Q (.ref I) s → wpAny P.M A (pyIter (.ref I)) Q E s)
    (h : codeAny P.M A (.compLoop (.ListComp elt gens scope pos) k (.ref I) acc env) (fun r s' => match r with | .ok _ => G s' | .error _ => False) s) :
    codeAny P.M A (.compStart (.ListComp elt gens scope pos) k (.ref I) acc env) (fun r s' => match r with | .ok _ => G s' | .error _ => False) s := by
  refine codeAny_of_tree ?_
  show wpAny _ _ ((compStart (.ListComp elt gens scope pos) k (.ref I) acc env).onRaise (fun x => do noteFrame x env; standAt theWindowsPlace)) _ _ s
  refine wpAny_notedAt ?_
  rw [compStart_at elt gens scope pos k _ _ env t iter ifs hg]
  refine wpAny_bind (wpAny_askSetting (wpAny_ite ?_))
  split
  · exact wpAny_pure (And.intro rfl h)
  · exact wpAny_bind (wpAny_rule (wpAny_bind (wpAny_standAt (wpAny_bind (hself _ _ (wpAny_pure (And.intro rfl h)))))))
noncomputable def closL (cells : List (Str × Addr)) : List (Str × NameKind) → List (Str × Addr) → List (Str × Addr)
  | [], cs => cs
  | (n, k) :: r, cs => closL cells r (if k == .free then (match cells.lookup n with | some c => (n, c) :: cs | Option.none => cs) else cs)
theorem closureFor_eq {scope : Scope} {env : Env} (h : ∀ n k, (n, k) ∈ scope.names → k = .free → ∃ c, env.cells.lookup n = some c) : closureFor scope env = pure (closL env.cells scope.names []) := by
  unfold closureFor
  have key : ∀ (l : List (Str × NameKind)) (cs : List (Str × Addr)), (∀ n k, (n, k) ∈ l → k = .free → ∃ c, env.cells.lookup n = some c) →
      (forIn l cs fun x r => (match x with | (name, kind) => if (kind == NameKind.free) = true then do let a ← cellOf env name; pure (ForInStep.yield ((name, a) :: r)) else pure (ForInStep.yield r) : Sem (ForInStep (List (Str × Addr))))) = (pure (closL env.cells l cs) : Sem (List (Str × Addr))) := by
    intro l
    induction l with
    | nil => intro cs _; rfl
    | cons x l ih =>
      obtain ⟨n, k⟩ := x
      intro cs hl
      have ih' := fun cs => ih cs fun n k m => hl n k (List.mem_cons_of_mem _ m)
      rw [List.forIn_cons]
      unfold closL
      cases hk : k == NameKind.free with
      | false =>
        simp only [hk, Bool.false_eq_true, if_false, pure_bind]
        exact ih' cs
      | true =>
        have hk' : k = .free := by simpa using hk
        obtain ⟨c, hc⟩ := hl n k List.mem_cons_self hk'
        simp only [hk, if_true, cellOf, hc, pure_bind]
        exact ih' _
  have := key scope.names [] h
  simp only [this, pure_bind]
theorem lookup_ne {α : Type} {n m : Str} {v : α} {l : List (Str × α)} (h : n ≠ m) : List.lookup n ((m, v) :: l) = List.lookup n l := by
  rw [List.lookup_cons]
  cases q : n == m with
  | false => rfl
  | true => exact absurd (by simpa using q) h
theorem lookup_eq {α : Type} {n : Str} {v : α} {l : List (Str × α)} : List.lookup n ((n, v) :: l) = some v := by simp [List.lookup_cons]
theorem closL_lookup {cells : List (Str × Addr)} : ∀ (l : List (Str × NameKind)) (cs : List (Str × Addr)) (n : Str), (l.map (·.1)).Nodup → (∀ n k, (n, k) ∈ l → k = .free → ∃ c, cells.lookup n = some c) →
    (closL cells l cs).lookup n = (if (n, NameKind.free) ∈ l then cells.lookup n else cs.lookup n)
  | [], cs, n, _, _ => by simp [closL]
  | (m, k) :: l, cs, n, hnd, hc => by
    rw [List.map_cons, List.nodup_cons] at hnd
    unfold closL
    rw [closL_lookup l _ n hnd.2 fun a b c => hc a b (List.mem_cons_of_mem _ c)]
    by_cases h1 : (n, NameKind.free) ∈ l
    · rw [if_pos h1, if_pos (List.mem_cons_of_mem _ h1)]
    · rw [if_neg h1]
      by_cases h2 : m = n ∧ k = NameKind.free
      · obtain ⟨rfl, rfl⟩ := h2
        rw [if_pos List.mem_cons_self]
        obtain ⟨c, e⟩ := hc m .free List.mem_cons_self rfl
        rw [e]
        exact lookup_eq
      · have h3 : ¬ (n, NameKind.free) ∈ (m, k) :: l := by
          intro z
          rcases List.mem_cons.mp z with z | z
          · obtain ⟨z1, z2⟩ := Prod.mk.inj z; exact h2 ⟨z1.symm, z2.symm⟩
          · exact h1 z
        rw [if_neg h3]
        cases hk : k == NameKind.free with
        | false => rfl
        | true =>
          have hk' : k = .free := by simpa using hk
          obtain ⟨c, e⟩ := hc m k List.mem_cons_self hk'
          have : n ≠ m := fun z => h2 ⟨z.symm, hk'⟩
          rw [if_pos rfl, e]
          exact lookup_ne this
theorem cellsFrom_other : ∀ (l : List (Str × NameKind)) (b : Nat) (cl : List (Str × Addr)) (n : Str), (n, NameKind.cell) ∉ l → (cellsFrom b l cl).lookup n = cl.lookup n
  | [], b, cl, n, _ => rfl
  | (m, k) :: l, b, cl, n, h => by
    have h1 : (n, NameKind.cell) ∉ l := fun z => h (List.mem_cons_of_mem _ z)
    unfold cellsFrom
    cases hk : k == NameKind.cell with
    | false => rw [if_neg (by simp)]; exact cellsFrom_other l b cl n h1
    | true =>
      have hk' : k = .cell := by simpa using hk
      rw [if_pos rfl, cellsFrom_other l (b + 1) _ n h1]
      exact lookup_ne fun z => h (by rw [z, hk']; exact List.mem_cons_self)
theorem pushCells_get : ∀ (l : List (Str × NameKind)) (h : Heap) (c : Nat), h.objs.size ≤ c → c < (pushCells h l).objs.size → (pushCells h l).IsCell c Option.none
  | [], h, c, h1, h2 => absurd (Nat.lt_of_le_of_lt h1 h2) (Nat.lt_irrefl _)
  | (m, k) :: l, h, c, h1, h2 => by
    unfold pushCells at h2 ⊢
    cases hk : k == NameKind.cell with
    | false =>
      rw [hk, if_neg (by simp)] at h2
      rw [if_neg (by simp)]
      exact pushCells_get l h c h1 h2
    | true =>
      rw [hk, if_pos rfl] at h2
      rw [if_pos rfl]
      by_cases q : c = h.objs.size
      · subst q
        exact ⟨_, pushCells_keeps _ _ _ _ (Heap.get?_push_size _ rfl), rfl⟩
      · exact pushCells_get l _ c (by rw [Heap.size_push]; exact Nat.lt_of_le_of_ne h1 (Ne.symm q)) h2
noncomputable def nCells (l : List (Str × NameKind)) : Nat := match l with
  | [] => 0
  | (_, k) :: l => (if k == NameKind.cell then 1 else 0) + nCells l
theorem pushCells_size : ∀ (l : List (Str × NameKind)) (h : Heap), (pushCells h l).objs.size = h.objs.size + nCells l
  | [], h => rfl
  | (m, k) :: l, h => by
    unfold pushCells nCells
    cases hk : k == NameKind.cell with
    | false => rw [if_neg (by simp), if_neg (by simp), pushCells_size l h, Nat.zero_add]
    | true => rw [if_pos rfl, if_pos rfl, pushCells_size l _, Heap.size_push, Nat.add_assoc]
theorem cellsFrom_bound : ∀ (l : List (Str × NameKind)) (b : Nat) (cl : List (Str × Addr)) (n : Str), (n, NameKind.cell) ∈ l → ∃ c : Nat, (cellsFrom b l cl).lookup n = some c ∧ b ≤ c ∧ c < b + nCells l
  | [], b, cl, n, h => (nomatch h)
  | (m, k) :: l, b, cl, n, h => by
    unfold cellsFrom nCells
    cases hk : k == NameKind.cell with
    | false =>
      rw [if_neg (by simp), if_neg (by simp), Nat.zero_add]
      have ne : (n, NameKind.cell) ≠ (m, k) := by intro e; obtain ⟨_, z⟩ := Prod.mk.inj e; rw [← z] at hk; simp at hk
      exact cellsFrom_bound l b cl n ((List.mem_cons.mp h).resolve_left ne)
    | true =>
      rw [if_pos rfl, if_pos rfl]
      by_cases h1 : (n, NameKind.cell) ∈ l
      · obtain ⟨c, a, b', c'⟩ := cellsFrom_bound l (b + 1) ((m, b) :: cl) n h1
        exact ⟨c, a, by lia, by lia⟩
      · have e := (List.mem_cons.mp h).resolve_right h1
        obtain ⟨z, _⟩ := Prod.mk.inj e
        refine ⟨b, ?_, Nat.le_refl _, by lia⟩
        rw [cellsFrom_other l (b + 1) _ n h1, z]
        exact lookup_eq
end Mine
namespace Mine
variable {P : Par} {Fl : Fly} {d : Nat} {sc : Scope}
noncomputable def relS (scope sc : Scope) : Scope :=
  { scope with names := scope.names.map fun (n, k) => if (k == .free && sc.kind == .function && sc.names.lookup n == some .cell) then (n, .cell) else (n, k) }
theorem relabel_eq (scope : Scope) (env : Env) : relabel scope env = relS scope env.scope := rfl
noncomputable def relK (sc : Scope) (n : Str) (k : NameKind) : NameKind := if (k == .free && sc.kind == .function && sc.names.lookup n == some .cell) then .cell else k
theorem relS_lookup (scope sc : Scope) (n : Str) : (relS scope sc).names.lookup n = (scope.names.lookup n).map (relK sc n) := by
  unfold relS
  simp only
  induction scope.names with
  | nil => rfl
  | cons x l ih =>
    obtain ⟨m, k⟩ := x
    rw [List.map_cons]
    by_cases h : n = m
    · subst h
      by_cases hc : (k == NameKind.free && sc.kind == .function && sc.names.lookup n == some .cell) = true
      · simp only [hc, if_true, lookup_eq, Option.map_some, relK]
      · simp only [hc, if_false, lookup_eq, Option.map_some, relK]
        simp
    · rw [lookup_ne h]
      by_cases hc : (k == NameKind.free && sc.kind == .function && sc.names.lookup m == some .cell) = true
      · simp only [hc, if_true, lookup_ne h, ih]
      · simp only [hc, if_false, ih]
        rw [← ih]
        exact lookup_ne h
theorem mem_of_lookup' {l : List (Str × NameKind)} {n : Str} {k : NameKind} (h : l.lookup n = some k) : (n, k) ∈ l := mem_of_lookup h
theorem lookup_of_mem : ∀ {l : List (Str × NameKind)} {n : Str} {k : NameKind}, (l.map (·.1)).Nodup → (n, k) ∈ l → l.lookup n = some k
  | [], _, _, _, h => (nomatch h)
  | (m, j) :: l, n, k, hnd, h => by
    rw [List.map_cons, List.nodup_cons] at hnd
    rcases List.mem_cons.mp h with h' | h'
    · obtain ⟨a, b⟩ := Prod.mk.inj h'; subst a b; exact lookup_eq
    · have : n ≠ m := fun z => hnd.1 (List.mem_map.mpr ⟨(n, k), h', z⟩)
      rw [lookup_ne this]; exact lookup_of_mem hnd.2 h'
theorem cellsFrom_inj : ∀ (l : List (Str × NameKind)) (b : Nat) (cl : List (Str × Addr)) (n n' : Str) (c : Addr), (l.map (·.1)).Nodup → (n, NameKind.cell) ∈ l → (n', NameKind.cell) ∈ l → (cellsFrom b l cl).lookup n = some c → (cellsFrom b l cl).lookup n' = some c → n = n'
  | [], _, _, _, _, _, _, h, _, _, _ => (nomatch h)
  | (m, k) :: l, b, cl, n, n', c, hnd, h, h', e, e' => by
    rw [List.map_cons, List.nodup_cons] at hnd
    unfold cellsFrom at e e'
    have nm : ∀ x, (x, NameKind.cell) ∈ l → x ≠ m := fun x hx z => hnd.1 (List.mem_map.mpr ⟨_, hx, z⟩)
    cases hk : k == NameKind.cell with
    | false =>
      rw [hk, if_neg (by simp)] at e e'
      have ne : ∀ x, (x, NameKind.cell) ≠ (m, k) := by intro x z; obtain ⟨_, z⟩ := Prod.mk.inj z; rw [← z] at hk; simp at hk
      exact cellsFrom_inj l b cl n n' c hnd.2 ((List.mem_cons.mp h).resolve_left (ne n)) ((List.mem_cons.mp h').resolve_left (ne n')) e e'
    | true =>
      rw [hk, if_pos rfl] at e e'
      have own : ∀ x, (x, NameKind.cell) ∈ l → (cellsFrom (b + 1) l ((m, b) :: cl)).lookup x = some c → b + 1 ≤ c := fun x hx ex => by
        obtain ⟨c2, e2, h2, _⟩ := cellsFrom_bound l (b + 1) ((m, b) :: cl) x hx
        rw [ex] at e2; cases e2; exact h2
      have top : ∀ x, (x, NameKind.cell) ∉ l → (x, NameKind.cell) ∈ (m, k) :: l → (cellsFrom (b + 1) l ((m, b) :: cl)).lookup x = some c → x = m ∧ c = b := fun x hx hm ex => by
        have z := (Prod.mk.inj ((List.mem_cons.mp hm).resolve_right hx)).1
        subst z
        rw [cellsFrom_other l (b + 1) _ x hx, lookup_eq] at ex
        cases ex; exact ⟨rfl, rfl⟩
      by_cases h1 : (n, NameKind.cell) ∈ l <;> by_cases h2 : (n', NameKind.cell) ∈ l
      · exact cellsFrom_inj l (b + 1) _ n n' c hnd.2 h1 h2 e e'
      · have a1 := own n h1 e; have a2 := (top n' h2 h' e').2; rw [a2] at a1; exact absurd a1 (Nat.not_succ_le_self _)
      · have a1 := own n' h2 e'; have a2 := (top n h1 h e).2; rw [a2] at a1; exact absurd a1 (Nat.not_succ_le_self _)
      · rw [(top n h1 h e).1, (top n' h2 h' e').1]
noncomputable def compEnvN (scope : Scope) (cl : List (Str × Addr)) (L : Addr) (env : Env) : Env :=
  { scope := scope, locals := L, globals := env.globals, cells := cellsFrom (L + 1) scope.names cl, qual := env.qual, func := none, code := env.code, frame := env.frame, builtins := env.builtins }
theorem newCompEnv {A : Around} {env : Env} {s : Shared} {scope : Scope} {cl : List (Str × Addr)} {Q : Env → Shared → Prop} {E : Value → Shared → Prop}
    (h : Q (compEnvN scope cl s.heap.objs.size env) { s with heap := pushCells (s.heap.push { cls := .type "dict", data := .dict #[] }) scope.names }) :
    wpAny P.M A (newFunctionEnv scope env.globals cl [] env.qual none .none (some env)) Q E s := by
  simp only [newFunctionEnv, Option.isSome_some, if_true]
  refine wpAny_bind (wpAny_alloc ?_)
  refine wpAny_bind (wpAny_layCells _ (fun name kind cells => by cases hkc : kind == NameKind.cell <;> simp [hkc]) _ _ _ _ ?_)
  rw [show ({ s with heap := s.heap.push { cls := .type "dict", data := .dict #[] } } : Shared).heap.objs.size = s.heap.objs.size + 1 from Heap.size_push ..]
  exact wpAny_bind (wpAny_pure (wpAny_pure h))
noncomputable def keepL (fr : List Nat) (loc : Loc) : Loc := fun i => if i ∈ fr then loc i else Option.none
theorem compEnvOk {A : Around} {stk stk' : Addr → Prop} {hp : Hp} {env : Env} {loc : Loc} {s : Shared} {scope : Scope} {fr : List Nat} {L : Addr} {H : Heap} (ev : EnvOk P A stk hp env loc s) (hk : scope.kind = .function) (hnd : (scope.names.map (·.1)).Nodup)
    (hfr : ∀ i ∈ fr, scope.names.lookup (P.nm i) = some .free) (hout : ∀ n, (n, NameKind.free) ∈ scope.names → env.kindOf n = some .cell ∨ env.kindOf n = some .free)
    (kp : ∀ b o, s.heap.get? b = some o → H.get? b = some o) (hL0 : ∀ c o, s.heap.get? c = some o → c < L) (hNs : H.Ns L fun _ => Option.none) (hnew : ∀ c, L + 1 ≤ c → c < L + 1 + nCells scope.names → H.IsCell c Option.none ∧ stk' c)
    (ky : Keepy (Fz stk hp) (Fz stk' hp) s.heap H) (hsub : ∀ a, stk a → stk' a) (hLs : stk' L) {tk : Nat} :
    EnvOk P A stk' hp { compEnvN scope (closL env.cells scope.names []) L env with scope := relabel scope env } (keepL fr loc) { s with heap := H, toks := tk } := by
  have hcl : ∀ n k, (n, k) ∈ scope.names → k = .free → ∃ c, env.cells.lookup n = some c := fun n k h1 h2 => by
    subst h2
    obtain ⟨c, _, e, _⟩ := ev.cells n (hout n h1)
    exact ⟨c, e⟩
  have kindE : ∀ n, Env.kindOf { compEnvN scope (closL env.cells scope.names []) L env with scope := relabel scope env } n = (scope.names.lookup n).map (relK env.scope n) := fun n => by
    show (relabel scope env).names.lookup n = _
    rw [relabel_eq, relS_lookup]
  have free_cells : ∀ n, (n, NameKind.free) ∈ scope.names → (cellsFrom (L + 1) scope.names (closL env.cells scope.names [])).lookup n = env.cells.lookup n := fun n h => by
    have h1 : (n, NameKind.cell) ∉ scope.names := fun z => by have a := lookup_of_mem hnd h; rw [lookup_of_mem hnd z] at a; cases a
    rw [cellsFrom_other _ _ _ _ h1, closL_lookup _ _ _ hnd hcl, if_pos h]
  have lookup_cases : ∀ n c, (cellsFrom (L + 1) scope.names (closL env.cells scope.names [])).lookup n = some c → ((n, NameKind.cell) ∈ scope.names ∧ L + 1 ≤ c ∧ c < L + 1 + nCells scope.names) ∨ (env.cells.lookup n = some c ∧ (n, NameKind.free) ∈ scope.names) := fun n c e => by
    by_cases h1 : (n, NameKind.cell) ∈ scope.names
    · obtain ⟨c2, e2, a, b⟩ := cellsFrom_bound scope.names (L + 1) (closL env.cells scope.names []) n h1
      rw [e] at e2; cases e2; exact .inl ⟨h1, a, b⟩
    · rw [cellsFrom_other _ _ _ _ h1, closL_lookup _ _ _ hnd hcl] at e
      by_cases h2 : (n, NameKind.free) ∈ scope.names
      · rw [if_pos h2] at e; exact .inr ⟨e, h2⟩
      · rw [if_neg h2] at e; cases e
  have old_lt : ∀ n c, env.cells.lookup n = some c → (env.kindOf n = some .cell ∨ env.kindOf n = some .free) → c < L := fun n c e k => by
    obtain ⟨c2, x, e2, ⟨o, g, _⟩⟩ := ev.cells n k
    rw [e] at e2; cases e2; exact hL0 _ _ g
  refine ⟨hk, ev.glob, ev.blt, ⟨_, hNs, fun i v h k => ?_⟩, fun i v h k => ?_, hLs, fun n c e => ?_, fun n k => ?_, fun n n' c e e' => ?_, fun n e => ?_, ev.frs.up hsub fun b o _ g d => ⟨o, kp b o g, d⟩, ev.top⟩
  · exfalso
    unfold keepL at h
    split at h
    · rename_i hi
      rw [kindE, hfr i hi] at k
      simp only [Option.map_some, Option.some.injEq, relK] at k
      split at k <;> cases k
    · cases h
  · unfold keepL at h
    split at h
    · rename_i hi
      have hm := mem_of_lookup' (hfr i hi)
      obtain ⟨c, x, e, g, r⟩ := ev.cell i v h (hout _ hm)
      exact ⟨c, x, (free_cells _ hm).trans e, g.keeps kp, r.keep ky⟩
    · cases h
  · rcases lookup_cases n c e with ⟨_, a, b⟩ | ⟨e2, _⟩
    · exact (hnew c a b).2
    · exact hsub c (ev.stkC n c e2)
  · have : (n, NameKind.cell) ∈ scope.names ∨ (n, NameKind.free) ∈ scope.names := by
      rw [kindE] at k
      cases q : scope.names.lookup n with
      | none => rw [q] at k; rcases k with k | k <;> cases k
      | some kk =>
        rw [q] at k
        have hm := mem_of_lookup' q
        cases kk with
        | cell => exact .inl hm
        | free => exact .inr hm
        | _ => rcases k with k | k <;> simp [relK] at k
    rcases this with h1 | h1
    · obtain ⟨c, e, a, b⟩ := cellsFrom_bound scope.names (L + 1) (closL env.cells scope.names []) n h1
      exact ⟨c, _, e, (hnew c a b).1⟩
    · obtain ⟨c, x, e, g⟩ := ev.cells n (hout n h1)
      exact ⟨c, x, (free_cells n h1).trans e, g.keeps kp⟩
  · rcases lookup_cases n c e with ⟨h1, a, b⟩ | ⟨e2, h2⟩ <;> rcases lookup_cases n' c e' with ⟨h1', a', b'⟩ | ⟨e2', h2'⟩
    · exact cellsFrom_inj _ _ _ _ _ _ hnd h1 h1' e e'
    · exact absurd (old_lt n' c e2' (hout n' h2')) (Nat.not_lt.mpr (Nat.le_of_succ_le a))
    · exact absurd (old_lt n c e2 (hout n h2)) (Nat.not_lt.mpr (Nat.le_of_succ_le a'))
    · exact ev.apart n n' c e2 e2'
  · rcases lookup_cases n L e with ⟨_, a, _⟩ | ⟨e2, h2⟩
    · exact absurd a (Nat.not_succ_le_self _)
    · exact absurd (old_lt n L e2 (hout n h2)) (Nat.lt_irrefl _)
theorem Ext.to1 {own stk stk' : Addr → Prop} {hp hp' : Hp} {s s' : Shared} (e : Ext own stk' hp s hp' s') (h : ∀ b, own b → s.heap.get? b = Option.none) (hs : ∀ b, stk' b → stk b ∨ s.heap.get? b = Option.none) (sub : ∀ b, stk b → stk' b) : Ext no1 stk hp s hp' s' := by
  refine ⟨fun b o a _ g => ?_, e.there, fun b o st g d => e.dic b o (sub b st) g d, e.fresh, e.drawn, e.os⟩
  rcases e.keep b o a (fun z => by rw [h b z] at g; cases g) g with q | ⟨z, d, sl, q⟩
  · exact .inl q
  · rcases hs b z with z | z
    · exact .inr ⟨z, d, sl, q⟩
    · rw [z] at g; cases g
theorem Ext.more {own stk stk' : Addr → Prop} {hp hp' : Hp} {s s' : Shared} (e : Ext own stk hp s hp' s') (h : ∀ b, stk b → stk' b) (h2 : ∀ b, stk' b → stk b ∨ s.heap.get? b = Option.none) : Ext own stk' hp s hp' s' := by
  refine ⟨fun b o a n g => (e.keep b o a n g).imp id (by rintro ⟨z, r⟩; exact ⟨h b z, r⟩), e.there, fun b o st g d => ?_, e.fresh, e.drawn, e.os⟩
  rcases h2 b st with z | z
  · exact e.dic b o z g d
  · rw [z] at g; cases g
theorem Ext.dataOf {own stk : Addr → Prop} {hp hp' : Hp} {s s' : Shared} (e : Ext own stk hp s hp' s') {b : Addr} {o : Obj} (a : hp b = Option.none) (n : ¬ own b) (g : s.heap.get? b = some o) : ∃ o', s'.heap.get? b = some o' ∧ o'.data = o.data := by
  rcases e.keep b o a n g with q | ⟨_, _, sl, q⟩
  · exact ⟨o, q, rfl⟩
  · exact ⟨_, q, rfl⟩
theorem HeapOk.sub {stk stk' : Addr → Prop} {hp : Hp} {s : Shared} (ok : HeapOk P stk' hp s) (h : ∀ a, stk a → stk' a) : HeapOk P stk hp s :=
  ⟨fun a o e => (ok.obj a o e).keep (fun a o f g => ⟨⟨f.1, fun z => f.2 (h a z)⟩, g⟩) (fun o g => g), fun a e z => ok.apart a e (h a z), ok.base, ok.new, fun a z => ok.stkn a (h a z), fun a z => ok.stkl a (h a z), ok.gens⟩
theorem okMany {stk : Addr → Prop} {hp : Hp} {s : Shared} (ok : HeapOk P stk hp s) {H : Heap} {tk : Nat} {N : Addr → Prop} (hn : ∀ a, N a → s.heap.get? a = Option.none) (hH : ∀ a, N a → ∃ o, H.get? a = some o) (k : ∀ b o, s.heap.get? b = some o → H.get? b = some o) :
    HeapOk P (fun a => stk a ∨ N a) hp { s with heap := H, toks := tk } ∧ Keepy (Fz stk hp) (Fz (fun a => stk a ∨ N a) hp) s.heap H := by
  have ky : Keepy (Fz stk hp) (Fz (fun a => stk a ∨ N a) hp) s.heap H := by
    rintro a o ⟨e, n⟩ g
    refine ⟨⟨e, ?_⟩, k a o g⟩
    rintro (z | z)
    · exact n z
    · rw [hn a z] at g; cases g
  refine ⟨⟨fun a o e => (ok.obj a o e).keep ky (fun o g => k a o g), fun a e => ?_, fun b o e => k b o (ok.base b o e), ok.new, fun a z => ?_, fun a z => ?_, ok.gens⟩, ky⟩
  · rintro (z | z)
    · exact ok.apart a e z
    · exact e (fz_of_new ok (hn a z)).1
  · rcases z with z | z
    · exact ok.stkn a z
    · cases g : P.H₀.get? a with
      | none => rfl
      | some o => have := ok.base a o g; rw [hn a z] at this; cases this
  · rcases z with z | z
    · obtain ⟨o, e⟩ := ok.stkl a z; exact ⟨o, k a o e⟩
    · exact hH a z
structure CompFacts (P : Par) (scope sc : Scope) (fr ids : List Nat) : Prop where
  kind : scope.kind = .function
  nodup : (scope.names.map (·.1)).Nodup
  free : ∀ i ∈ fr, scope.names.lookup (P.nm i) = some .free
  out : ∀ n, (n, NameKind.free) ∈ scope.names → sc.names.lookup n = some .cell ∨ sc.names.lookup n = some .free
  own : ∀ i ∈ ids, scope.names.lookup (P.nm i) = some .local ∨ scope.names.lookup (P.nm i) = some .cell
structure CompEnd (P : Par) (stk : Addr → Prop) (hp hp' : Hp) (s s' : Shared) (D C : Addr) (acc : List V) : Prop where
  ext : Ext no1 stk hp s hp' s'
  dif : D ≠ C
  fD : s.heap.get? D = Option.none
  all : ∃ stkN : Addr → Prop, (∀ a, stk a → stkN a) ∧ HeapOk P stkN hp' s' ∧ stkN D ∧ stkN C ∧ ¬ stk D ∧ ¬ stk C ∧ s.heap.get? C = Option.none ∧ (∃ m, s'.heap.Ns C m) ∧ ∃ ys, s'.heap.PlainList D ys ∧ P.VRs stkN hp' s'.heap acc ys.toList
theorem compCore (hz : (P.H₀.get? sysModules).isSome = true) (hd : 0 < d) {elt : Expr} {gens : List Comprehension} {scope : Scope} {pos : Pos} {t iter : Expr} {ifs : List Expr} {idt ids fr : List Nat} {De : DE} {Dt : DA} {Df : DT} {inner : CD} (hg : gens[0]? = some ⟨t, iter, ifs, 0⟩) (hn1 : gens[1]? = Option.none ∨ ∃ t' i' f', gens[1]? = some ⟨t', i', f', 0⟩)
    (F : CompFacts P scope sc fr (idt ++ ids))
    (he : SimE P Fl d sc iter De) (ht : SimG P Fl d (relS scope sc) t idt Dt) (htg : Tgt idt Dt) (hf : SimF P Fl d (relS scope sc) ifs Df) (hi : SimI P Fl d (relS scope sc) elt gens scope pos 1 ids inner) (hdis : ∀ i ∈ ids, i ∉ idt)
    {A : Around} {env : Env} {s : Shared} {K : List V → Hp → Prop} {X : XA} {loc : Loc} {hp : Hp} {stk : Addr → Prop} {RR : Value → Addr → Result → Shared → Prop} {E : Value → Shared → Prop} (rm : Room d A) (hs : env.scope = sc) (ev : EnvOk P A stk hp env loc s) (ok : HeapOk P stk hp s)
    (hD : De (fun v hp1 => ∃ vs, iterOf hp1 v = some vs ∧ cLp v hp1 Dt Df inner K vs [] (keepL fr loc) hp1) X loc hp)
    (hX : ∀ e s', PostT P no1 stk hp s (lX Fl X) e s' → E e s')
    (hRR : ∀ D C hp' acc f s', CompEnd P stk hp hp' s s' D C acc → K acc hp' → RR (.ref D) C (.ok f) s') :
    wpAny P.M A (eval iter env) (fun x s₁ => wpAny P.M A (pyIter x) (fun it s₂ => wpAny P.M A (newList []) (fun acc s₃ => wpAny P.M A (newFunctionEnv scope env.globals (closL env.cells scope.names []) [] env.qual none .none (some env)) (fun cenv s₄ =>
      codeAny P.M A (.compStart (.ListComp elt gens scope pos) 0 it acc { cenv with scope := relabel scope env }) (RR acc cenv.locals) s₄) E s₃) E s₂) E s₁) E s := by
  refine wpAny_mono (he A env s _ X loc hp stk rm hs ev ok hD) (fun x s1 hq  => ?_) hX
  obtain ⟨hp1, e1, ok1, v, ⟨vs, hv, lp⟩, r⟩ := hq
  have ev1 := ev.step ok e1
  refine its_of hz hv A s1 stk x _ _ (rm.hd hd) ok1 r fun I St h2 hn kp W st0 => ?_
  refine wpAny_newObj_type (newCompEnv ?_)
  dsimp only
  generalize hH3 : h2.push { cls := .type "list", dict := none, data := .seq ([] : List Value).toArray } = H3
  have sz3 : H3.objs.size = h2.objs.size + 1 := by rw [← hH3, Heap.size_push]
  have hsz1 : ∀ c o, s1.heap.get? c = some o → c < h2.objs.size := fun c o g => Heap.lt_size (kp c o g)
  generalize hH4 : H3.push { cls := .type "dict", dict := none, data := .dict #[] } = H4
  have sz4 : H4.objs.size = H3.objs.size + 1 := by rw [← hH4, Heap.size_push]
  generalize hH5 : pushCells H4 scope.names = H5
  have sz5 : H5.objs.size = H4.objs.size + nCells scope.names := by rw [← hH5, pushCells_size]
  have k34 : ∀ b o, H3.get? b = some o → H4.get? b = some o := fun b o e => by rw [← hH4]; exact Heap.get?_push_of_some _ e
  have k45 : ∀ b o, H4.get? b = some o → H5.get? b = some o := fun b o e => by rw [← hH5]; exact pushCells_keeps _ _ _ _ e
  have k23 : ∀ b o, h2.get? b = some o → H3.get? b = some o := fun b o e => by rw [← hH3]; exact Heap.get?_push_of_some _ e
  have k25 : ∀ b o, h2.get? b = some o → H5.get? b = some o := fun b o e => k45 b o (k34 b o (k23 b o e))
  have k15 : ∀ b o, s1.heap.get? b = some o → H5.get? b = some o := fun b o e => k25 b o (kp b o e)
  have gD : H5.get? h2.objs.size = some { cls := .type "list", dict := none, data := .seq ([] : List Value).toArray } := k45 _ _ (k34 _ _ (by rw [← hH3]; exact Heap.get?_push_size _ rfl))
  have gL : H5.get? H3.objs.size = some { cls := .type "dict", dict := none, data := .dict #[] } := k45 _ _ (by rw [← hH4]; exact Heap.get?_push_size _ rfl)
  have hI : ¬ stk I := fun z => by obtain ⟨o, g⟩ := ok1.stkl I z; rw [hn] at g; cases g
  obtain ⟨oI, gI⟩ := W.alive 0 _ st0
  have ltI : I < h2.objs.size := Heap.lt_size gI
  let N : Addr → Prop := fun a => h2.objs.size ≤ a ∧ a < H5.objs.size ∧ ∃ o, H5.get? a = some o
  have hNn : ∀ a, N a → s1.heap.get? a = Option.none := fun a z => by
    cases g : s1.heap.get? a with
    | none => rfl
    | some o => exact absurd (hsz1 a o g) (Nat.not_lt.mpr z.1)
  have ND : N h2.objs.size := ⟨Nat.le_refl _, Heap.lt_size gD, _, gD⟩
  have NL : N H3.objs.size := ⟨by rw [sz3]; exact Nat.le_succ _, Heap.lt_size gL, _, gL⟩
  have NI : ¬ N I := fun z => Nat.not_lt.mpr z.1 ltI
  have Nc : ∀ c, H3.objs.size + 1 ≤ c → c < H3.objs.size + 1 + nCells scope.names → H5.IsCell c Option.none ∧ N c := fun c a b => by
    have : H5.IsCell c Option.none := by rw [← hH5]; exact pushCells_get _ _ c (by rw [sz4]; exact a) (by rw [hH5, sz5, sz4]; exact b)
    obtain ⟨o, g, z⟩ := id this
    exact ⟨this, by lia, Heap.lt_size g, o, g⟩
  obtain ⟨okA, kyA⟩ := okMany (tk := s1.toks) (H := H5) ok1 (N := fun a => N a ∨ a = I) (fun a z => z.elim (hNn a) (fun q => q ▸ hn)) (fun a z => z.elim (fun z => z.2.2) (fun q => q ▸ ⟨oI, k25 _ _ gI⟩)) k15
  have stEq : (fun a => stk a ∨ (N a ∨ a = I)) = plus (fun a => stk a ∨ N a) I := by
    funext a; simp only [plus, or_assoc]
  rw [stEq] at okA kyA
  have evA : EnvOk P A (plus (fun a => stk a ∨ N a) I) hp1 { compEnvN scope (closL env.cells scope.names []) H3.objs.size env with scope := relabel scope env } (keepL fr loc) { s1 with heap := H5 } :=
    compEnvOk (tk := s1.toks) ev1 F.kind F.nodup F.free (fun n h => by have := F.out n h; rw [← hs] at this; exact this) k15 (fun c o g => by rw [sz3]; exact Nat.lt_succ_of_lt (hsz1 c o g)) ⟨_, _, _, gL, rfl, (by intro e he; simp at he), fun _ => rfl⟩ (fun c a b => ⟨(Nc c a b).1, .inl (.inr (Nc c a b).2)⟩) kyA (fun a z => .inl (.inl z)) (.inl (.inr NL))
  have neDL : h2.objs.size ≠ H3.objs.size := by rw [sz3]; exact Nat.ne_of_lt (Nat.lt_succ_self _)
  have cellN : ∀ n c, (cellsFrom (H3.objs.size + 1) scope.names (closL env.cells scope.names [])).lookup n = some c → (stk c ∨ N c) ∧ c ≠ h2.objs.size := fun n c e => by
    by_cases h1 : (n, NameKind.cell) ∈ scope.names
    · obtain ⟨c2, e2, a, b⟩ := cellsFrom_bound scope.names (H3.objs.size + 1) (closL env.cells scope.names []) n h1
      rw [e] at e2; cases e2
      exact ⟨.inr (Nc c a b).2, Nat.ne_of_gt (by rw [sz3] at a; exact Nat.lt_of_lt_of_le (Nat.lt_succ_of_lt (Nat.lt_succ_self _)) a)⟩
    · have hcl : ∀ n k, (n, k) ∈ scope.names → k = .free → ∃ c, env.cells.lookup n = some c := fun n k h1 h2 => by
        subst h2
        obtain ⟨c, _, e, _⟩ := ev1.cells n (by have := F.out n h1; rw [← hs] at this; exact this)
        exact ⟨c, e⟩
      rw [cellsFrom_other _ _ _ _ h1, closL_lookup _ _ _ F.nodup hcl] at e
      by_cases h2 : (n, NameKind.free) ∈ scope.names
      · rw [if_pos h2] at e
        have sc' := ev1.stkC n c e
        obtain ⟨o, g⟩ := ok1.stkl c sc'
        exact ⟨.inl sc', Nat.ne_of_lt (hsz1 c o g)⟩
      · rw [if_neg h2] at e; cases e
  have cA : CSt P A (plus (fun a => stk a ∨ N a) I) hp1 { compEnvN scope (closL env.cells scope.names []) H3.objs.size env with scope := relabel scope env } (keepL fr loc) { s1 with heap := H5 } h2.objs.size [] :=
    ⟨evA, okA, .inl (.inr ND), neDL, fun n e => (cellN n _ e).2 rfl, #[], ⟨0, gD⟩, vNil⟩
  have ownF : ∀ b, ownC P { compEnvN scope (closL env.cells scope.names []) H3.objs.size env with scope := relabel scope env } (idt ++ ids) h2.objs.size b → N b := by
    rintro b (⟨i, hi, ⟨_, z⟩ | ⟨_, z⟩⟩ | z)
    · subst z; exact NL
    · rcases F.own i hi with q | q
      · exfalso
        rename_i hk
        have : Env.kindOf { compEnvN scope (closL env.cells scope.names []) H3.objs.size env with scope := relabel scope env } (P.nm i) = (scope.names.lookup (P.nm i)).map (relK env.scope (P.nm i)) := by
          show (relabel scope env).names.lookup (P.nm i) = _
          rw [relabel_eq, relS_lookup]
        rw [this, q] at hk
        simp [relK] at hk
      · obtain ⟨c2, e2, a, b'⟩ := cellsFrom_bound scope.names (H3.objs.size + 1) (closL env.cells scope.names []) (P.nm i) (mem_of_lookup' q)
        have : (cellsFrom (H3.objs.size + 1) scope.names (closL env.cells scope.names [])).lookup (P.nm i) = some b := z
        rw [this] at e2; cases e2
        exact (Nc b a b').2
    · subst z; exact ND
  have st5 : St 0 H5 := W.frame _ _ _ st0 fun o g => k25 _ _ g
  have e15 : Ext (ownC P { compEnvN scope (closL env.cells scope.names []) H3.objs.size env with scope := relabel scope env } (idt ++ ids) h2.objs.size) (fun a => stk a ∨ N a) hp1 s1 hp1 { s1 with heap := H5 } := Ext.grow (stk := fun a => stk a ∨ N a) (tk := s1.toks) k15
  have fresh : ∀ i ∈ idt ++ ids, keepL fr loc i = Option.none := fun i hi => by
    unfold keepL
    split
    · rename_i hm
      have := F.free i hm
      rcases F.own i hi with q | q <;> rw [q] at this <;> cases this
    · rfl
  have run := compLp (P := P) (Fl := Fl) (K := K) hd hg hn1 ht htg hf hi hdis rm (env := { compEnvN scope (closL env.cells scope.names []) H3.objs.size env with scope := relabel scope env }) (by show relabel scope env = _; rw [relabel_eq, hs]) (stk := fun a => stk a ∨ N a) fresh (fun z => z.elim hI NI) e15 hn cA (.inr NL) (fun n c e => (cellN n c e).1) (ev1.frs.up (fun _ z => .inl z) fun b o _ g d => ⟨o, g, d⟩) (.inr ND) W st5 (r.keep kyA) lp
  refine codeAny_mono (startOk (P := P) hg (fun Q E q => W.self A 0 _ Q E st5 q) run) fun rr s' hr => ?_
  cases rr with
  | error e => exact hr.elim
  | ok f =>
    obtain ⟨hp', acc', ex, cc, q⟩ := hr
    refine hRR _ _ hp' acc' f s' ⟨e1.trans (ex.to1 (fun b z => hNn b (ownF b z)) (fun b z => z.imp id (hNn b)) fun b z => .inl z), neDL, (by
      cases g : s.heap.get? h2.objs.size with
      | none => rfl
      | some o => obtain ⟨o', g'⟩ := e1.there _ _ g; rw [hNn _ ND] at g'; cases g'), _, fun a z => .inl z, cc.ok, .inr ND, .inr NL, ?_, ?_, ?_, ?_, cc.lst⟩ q
    · intro z; obtain ⟨o, g⟩ := ok1.stkl _ z; rw [hNn _ ND] at g; cases g
    · intro z; obtain ⟨o, g⟩ := ok1.stkl _ z; exact nomatch (hNn _ NL).symm.trans g
    · show s.heap.get? H3.objs.size = Option.none
      cases g : s.heap.get? H3.objs.size with
      | none => rfl
      | some o => obtain ⟨o', g'⟩ := e1.there _ _ g; rw [hNn _ NL] at g'; cases g'
    · obtain ⟨m, n, _⟩ := cc.ev.ns; exact ⟨m, n⟩
end Mine
namespace Mine
variable {A : Around} {P : Par} {Fl : Fly} {d : Nat} {sc : Scope}
noncomputable def dComp (fr : List Nat) (src : DE) (t : DA) (f : DT) (inner : CD) : DE := fun Q X loc hp => src (fun v hp1 => ∃ vs, iterOf hp1 v = some vs ∧ cLp v hp1 t f inner (fun acc hp' => Q (.lst acc) hp') vs [] (keepL fr loc) hp1) X loc hp
theorem CompEnd.fin {stk : Addr → Prop} {hp hp' : Hp} {s s' : Shared} {D C : Addr} {acc : List V} (c : CompEnd P stk hp hp' s s' D C acc) {h' : Heap} (hs : Heap.SameBut C s'.heap h') : Ext no1 stk hp s hp' { s' with heap := h' } ∧ HeapOk P stk hp' { s' with heap := h' } ∧ P.VR stk hp' h' (.lst acc) (.ref D) := by
  obtain ⟨stkN, sub, ok, sD, sC, nD, nC, fC, _, ys, ⟨n, g⟩, r⟩ := c.all
  have ky : Keepy (Fz stkN hp') (Fz stk hp') s'.heap h' := fun a o f g => ⟨⟨f.1, fun z => f.2 (sub a z)⟩, (hs.2 a (fun z => f.2 (z ▸ sC))).trans g⟩
  have nI : ∀ b o, s.heap.get? b = some o → b ≠ C := by rintro b o g rfl; rw [fC] at g; cases g
  refine ⟨⟨fun b o a n g => ?_, fun b o g => ?_, fun b o st g d => ?_, c.ext.fresh, c.ext.drawn, c.ext.os⟩, ⟨fun a o e => (ok.obj a o e).keep ky fun o g => (hs.2 a ?_).trans g, fun a e z => ok.apart a e (sub a z), fun b o e => (hs.2 b ?_).trans (ok.base b o e), ok.new, fun a z => ok.stkn a (sub a z), fun a z => ?_, ok.gens⟩, ?_⟩
  · rcases c.ext.keep b o a n g with q | ⟨z, d, sl, q⟩
    · exact .inl ((hs.2 b (nI b o g)).trans q)
    · exact .inr ⟨z, d, sl, (hs.2 b (nI b o g)).trans q⟩
  · obtain ⟨o', g'⟩ := c.ext.there b o g
    exact ⟨o', (hs.2 b (nI b o g)).trans g'⟩
  · obtain ⟨o', g', d'⟩ := c.ext.dic b o st g d
    exact ⟨o', (hs.2 b (nI b o g)).trans g', d'⟩
  · rintro rfl; rw [stk_none ok sC] at e; cases e
  · rintro rfl; rw [ok.stkn b sC] at e; cases e
  · obtain ⟨o, g⟩ := ok.stkl a (sub a z); exact ⟨o, (hs.2 a (by rintro rfl; exact nC z)).trans g⟩
  · simp only [VRe]
    exact ⟨D, ys, rfl, ⟨stk_none ok sD, nD⟩, ⟨n, (hs.2 D c.dif).trans g⟩, r.keep ky⟩
theorem EnvOk.move {stk stk' : Addr → Prop} {hp hp' : Hp} {env : Env} {loc : Loc} {s s' : Shared} (ev : EnvOk P A stk hp env loc s) (ky : Keepy (Fz stk hp) (Fz stk' hp') s.heap s'.heap) (kp : ∀ a o, stk a → s.heap.get? a = some o → ∃ o', s'.heap.get? a = some o' ∧ o'.data = o.data) (sub : ∀ a, stk a → stk' a) : EnvOk P A stk' hp' env loc s' := by
  refine ⟨ev.kind, ev.glob, ev.blt, ?_, fun j u g kk => ?_, sub _ ev.stkL, fun n c z => sub _ (ev.stkC n c z), fun n kk => ?_, ev.apart, ev.apartL, ev.frs.up sub fun b o z g ⟨es, n, d⟩ => (by obtain ⟨o', g', d'⟩ := kp b o z g; exact ⟨o', g', es, n, d'.trans d⟩), ev.top⟩
  · obtain ⟨m, ⟨o, es, ep, g, rr, r3⟩, hm⟩ := ev.ns
    obtain ⟨o', g', d'⟩ := kp _ _ ev.stkL g
    exact ⟨m, ⟨o', es, ep, g', d'.trans rr, r3⟩, fun j u a b => (by obtain ⟨z, p, q⟩ := hm j u a b; exact ⟨z, p, q.keep ky⟩)⟩
  · obtain ⟨c, z, p, ⟨o, g, rr⟩, q⟩ := ev.cell j u g kk
    obtain ⟨o', g', d'⟩ := kp _ _ (ev.stkC _ _ p) g
    exact ⟨c, z, p, ⟨o', g', d'.trans rr⟩, q.keep ky⟩
  · obtain ⟨c, z, p, ⟨o, g, rr⟩⟩ := ev.cells n kk
    obtain ⟨o', g', d'⟩ := kp _ _ (ev.stkC _ _ p) g
    exact ⟨c, z, p, ⟨o', g', d'.trans rr⟩⟩
theorem hnames_of {scope : Scope} (hnd : (scope.names.map (·.1)).Nodup) : ∀ x ∈ scope.names, x.2 = .local → scope.names.lookup x.1 = some .local := fun x hx h => lookup_of_mem hnd (by rw [← h]; exact hx)
theorem Sim.comp (hz : (P.H₀.get? sysModules).isSome = true) (hd : 0 < d) {elt : Expr} {rest : List Comprehension} {scope : Scope} {pos : Pos} {t iter : Expr} {ifs : List Expr} {idt ids fr : List Nat} {De : DE} {Dt : DA} {Df : DT} {inner : CD} (hn1 : rest[0]? = Option.none ∨ ∃ t' i' f', rest[0]? = some ⟨t', i', f', 0⟩)
    (F : CompFacts P scope sc fr (idt ++ ids))
    (he : SimE P Fl d sc iter De) (ht : SimG P Fl d (relS scope sc) t idt Dt) (htg : Tgt idt Dt) (hf : SimF P Fl d (relS scope sc) ifs Df) (hi : SimI P Fl d (relS scope sc) elt (⟨t, iter, ifs, 0⟩ :: rest) scope pos 1 ids inner) (hdis : ∀ i ∈ ids, i ∉ idt) (hfs : ∀ env x, foldedSetIterable iter env x = pure x) :
    SimE P Fl d sc (.ListComp elt (⟨t, iter, ifs, 0⟩ :: rest) scope pos) (dComp fr De Dt Df inner) := by
  intro A env s Q X loc hp stk rm hs ev ok hD
  rw [T, eval_ListComp]
  refine wpAny_comprehension_free (use := none) rfl (hfs env) (closureFor_eq fun n k h1 h2 => ?_) F.kind (hnames_of F.nodup) ?_
  · subst h2
    obtain ⟨c, _, e, _⟩ := ev.cells n (by have := F.out n h1; rw [← hs] at this; exact this)
    exact ⟨c, e⟩
  · refine compCore (K := fun acc hp' => Q (.lst acc) hp') hz hd rfl hn1 F he ht htg hf hi hdis rm hs ev ok hD (fun _ _ z => z) fun D C hp' acc f s' ce q => ?_
    obtain ⟨_, _, _, _, _, _, _, _, ⟨m, hn⟩, _⟩ := ce.all
    refine ⟨m, hn, fun h' hs' => ?_⟩
    obtain ⟨e, ok', r⟩ := ce.fin hs'
    exact ⟨hp', e, ok', _, q, r⟩
theorem SimS.asgComp (inj : ∀ i j, P.nm i = P.nm j → i = j) (hz : (P.H₀.get? sysModules).isSome = true) (hd : 0 < d) {i : Nat} {x : Str} {px spos : Pos} {elt : Expr} {rest : List Comprehension} {scope : Scope} {pos : Pos} {t iter : Expr} {ifs : List Expr} {idt ids fr : List Nat} {De : DE} {Dt : DA} {Df : DT} {inner : CD} (hn1 : rest[0]? = Option.none ∨ ∃ t' i' f', rest[0]? = some ⟨t', i', f', 0⟩)
    (hx : P.nm i = x) (hk : sc.names.lookup x = some .local)
    (F : CompFacts P scope sc fr (idt ++ ids))
    (he : SimE P Fl d sc iter De) (ht : SimG P Fl d (relS scope sc) t idt Dt) (htg : Tgt idt Dt) (hf : SimF P Fl d (relS scope sc) ifs Df) (hi : SimI P Fl d (relS scope sc) elt (⟨t, iter, ifs, 0⟩ :: rest) scope pos 1 ids inner) (hdis : ∀ i ∈ ids, i ∉ idt) (hfs : ∀ env x, foldedSetIterable iter env x = pure x)
    (hsw : ∀ env : Env, env.scope = sc → swapsWith (.ListComp elt (⟨t, iter, ifs, 0⟩ :: rest) scope pos) (some (.Name x px)) spos.line env = pure true) :
    SimS P Fl d sc (.Assign [.Name x px] (.ListComp elt (⟨t, iter, ifs, 0⟩ :: rest) scope pos) spos) (sAsg (dComp fr De Dt Df inner) (gVar i)) := by
  subst hx
  intro A env s Q X loc hp stk rm hs ev ok hD
  rw [T, exec_Assign_Name_used _ _ _ _ (hsw env hs)]
  refine wpAny_bind (wpAny_standAt (wpAny_bind ?_))
  show wpAny _ A (do let _ ← comprehension (.ListComp elt (⟨t, iter, ifs, 0⟩ :: rest) scope pos) scope env _ (newList []) false (eval iter env) (some (assign (.Name (P.nm i) px) env))) _ _ s
  refine wpAny_bind (wpAny_mono (wpAny_comprehension_free (use := some (assign (.Name (P.nm i) px) env)) (Q := fun _ s' => PostT P (ownE env) stk hp s (QS P A stk env Q) .next s') rfl (hfs env) (closureFor_eq fun n k h1 h2 => ?_) F.kind (hnames_of F.nodup) ?_) (fun _ s' hq => wpAny_pure (wpAny_pure hq)) fun _ _ e => e)
  · subst h2
    obtain ⟨c, _, e, _⟩ := ev.cells n (by have := F.out n h1; rw [← hs] at this; exact this)
    exact ⟨c, e⟩
  · refine compCore (K := fun acc hp' => Q .next (upd loc i (.lst acc)) hp') (X := fun k hp' => X k loc hp') hz hd rfl hn1 F he ht htg hf hi hdis rm hs ev ok hD (fun e s' => ?_) fun D C hp' acc f s' ce q => ?_
    · rintro ⟨hp1, e1, ok1, k, hx, hf⟩
      exact ⟨hp1, e1.of1, ok1, k, loc, ev.step ok e1, hx, hf⟩
    · obtain ⟨stkN, sub, okN, sD, sC, nD, nC, fC, ⟨m, hn⟩, ys, ⟨n, pl⟩, r⟩ := ce.all
      have okP : HeapOk P (plus stk C) hp' s' := okN.sub fun a z => z.elim (sub a) (fun q => q ▸ sC)
      have kyP : Keepy (Fz stk hp) (Fz (plus stk C) hp') s.heap s'.heap := fun a o f g => by
        obtain ⟨f2, g2⟩ := ce.ext.keepy (stk := stk) (fun _ z => z.elim) a o f g
        exact ⟨⟨f2.1, fun z => z.elim f2.2 (by rintro rfl; rw [fC] at g; cases g)⟩, g2⟩
      have evP : EnvOk P A (plus stk C) hp' env loc s' := ev.move kyP (fun a o z g => ce.ext.dataOf (stk_none ok z) (fun z => z) g) fun a z => .inl z
      have rP : P.VR (plus stk C) hp' s'.heap (.lst acc) (.ref D) := by
        simp only [VRe]
        exact ⟨D, ys, rfl, ⟨stk_none okN sD, fun z => z.elim nD ce.dif⟩, ⟨n, pl⟩, r.keep fun a o f g => ⟨⟨f.1, fun z => f.2 (z.elim (sub a) (fun q => q ▸ sC))⟩, g⟩⟩
      show wpAny _ A (assign (.Name (P.nm i) px) env (.ref D)) _ _ s'
      refine wpAny_assign_Name (storeVar inj (by rw [hs, hk]) evP okP rP fun s2 e2 ev2 ok2 => ?_)
      have hCown : ¬ ownI P env [i] C := fun z => nC (ev.own C (ownI_E C z))
      refine ⟨m, let ⟨o, es, ep, g, d, r⟩ := hn; (by obtain ⟨o', g', d'⟩ := e2.dataOf (stk_none okN sC) hCown g; exact ⟨o', es, ep, g', d'.trans d, r⟩), fun h' hs' => ?_⟩
      obtain ⟨ex, okx, evx⟩ := leaveI (own := ownE env) (stk := stk) (env := env) (loc := upd loc i (.lst acc)) (tk := s2.toks) (Ext.refl _ _ hp s) fC (((ce.ext.of1.more (stk' := plus stk C) (fun b z => .inl z) fun b (z : stk b ∨ b = C) => z.elim .inl fun q => .inr (q ▸ fC)).trans (e2.wider ownI_E)).wider fun b z => .inl z) nC ok2 fun b o n g => (hs'.2 b n).trans g
      exact ⟨hp', ex, okx, .next, _, evx ev.stkL ev.stkC ev.frs ev2, q, trivial⟩
end Mine
namespace Mine
variable {P : Par} {d : Nat} {sc : Scope}
noncomputable def hide (h : Heap) (S : List Addr) : Heap := ⟨h.objs.mapIdx fun i o => if i ∈ S then { o with data := .freed } else o, h.life⟩
theorem hide_in {h : Heap} {S : List Addr} {b : Addr} (hb : b ∈ S) : (hide h S).get? b = Option.none := by
  unfold hide Heap.get?
  rw [Array.getElem?_mapIdx]
  cases q : h.objs[b]? with
  | none => rfl
  | some o => rw [Option.map_some, if_pos hb]
theorem hide_out {h : Heap} {S : List Addr} {b : Addr} (hb : b ∉ S) : (hide h S).get? b = h.get? b := by
  unfold hide Heap.get?
  rw [Array.getElem?_mapIdx]
  cases q : h.objs[b]? with
  | none => rfl
  | some o => rw [Option.map_some, if_neg hb]
theorem hide_stays {h : Heap} {S : List Addr} : (hide h S).StaysIn h := fun b o e => by
  by_cases hb : b ∈ S
  · rw [hide_in hb] at e; cases e
  · rwa [hide_out hb] at e
noncomputable def ExcAt (cls : Value) (ea : Addr) (tr : Option Addr) (fl : Value) (h : Heap) : Prop :=
  ∃ oe vs a0, h.get? ea = some oe ∧ oe.cls = cls ∧ oe.data = .fields vs ∧ vs[0]? = some a0 ∧ 1 < vs.size ∧ (match tr with
    | Option.none => vs[1]? = some .none
    | some T => vs[1]? = some (.ref T) ∧ T ≠ ea ∧ ∃ oT ts, h.get? T = some oT ∧ oT.data = .fields ts ∧ ts[3]? = some fl)
noncomputable def hpE (hp : Hp) (ea : Addr) : Option Addr → Hp
  | Option.none => upd hp ea .fld
  | some T => upd (upd hp ea .fld) T .fld
noncomputable def flyK (ex : Nat → Value) : Fly := fun k e hp' s => ∃ ea tr, e = .ref ea ∧ k.2 ea = Option.none ∧ (∀ T, tr = some T → k.2 T = Option.none) ∧ hp' = hpE k.2 ea tr ∧ ExcAt (ex k.1) ea tr .none s.heap
theorem upd_self {hp : Hp} {a : Addr} {o : O} (h : hp a = some o) : upd hp a o = hp := by
  funext b
  by_cases q : b = a
  · subst q; rw [upd_same, h]
  · rw [upd_ne q]
theorem del_upd {hp : Hp} {a : Addr} {o : O} (h : hp a = Option.none) : del (upd hp a o) a = hp := by
  funext b
  by_cases q : b = a
  · subst q; rw [del_same, h]
  · rw [del_ne q, upd_ne q]
theorem fldStep {own stk : Addr → Prop} {hp : Hp} {s : Shared} {a : Addr} {o : Obj} {vs : Array Value} {f : Array Value → Array Value} (ok : HeapOk P stk hp s) (ha : hp a = some .fld) (g : s.heap.get? a = some o) (hd : o.data = .fields vs) :
    HeapOk P stk hp { s with heap := s.heap.update a (Obj.mapFields f) } ∧ Ext own stk hp s hp { s with heap := s.heap.update a (Obj.mapFields f) } ∧ (s.heap.update a (Obj.mapFields f)).get? a = some (o.mapFields f) := by
  have sb : Heap.SameBut a s.heap (s.heap.update a (Obj.mapFields f)) := Heap.SameBut.update ..
  have hd' := Obj.data_mapFields hd f
  have g' := Heap.get?_update_self (Obj.mapFields f) g (Obj.isFreed_of_fields hd')
  have ok' := HeapOk.change (tk := s.toks) (o := .fld) ok ha sb ⟨_, _, g', hd'⟩
  have e' := Ext.change (own := own) (tk := s.toks) (o := .fld) ok ha sb ⟨_, g'⟩
  rw [upd_self ha] at ok' e'
  exact ⟨ok', e', g'⟩
theorem fs_frames {A : Around} {stk : Addr → Prop} {s : Shared} {l : List Env} (fs : Fs A stk s) (hl : A.frames = some l) : ∀ b ∈ l.filterMap (·.frame), stk b ∧ ∃ o, s.heap.get? b = some o ∧ isD o := by
  obtain ⟨l', hl', h⟩ := fs
  rw [hl] at hl'; cases hl'
  intro b hb
  obtain ⟨e, he, q⟩ := List.mem_filterMap.mp hb
  obtain ⟨_, L, o, hf, st, g, d⟩ := h e he
  rw [hf] at q; cases q
  exact ⟨st, o, g, d⟩
theorem funFrames {h base : Heap} : ∀ {l : List Env}, (∀ e ∈ l, e.scope.kind = .function ∧ ∃ L o, e.frame = some L ∧ base.get? L = Option.none ∧ h.get? L = some o ∧ isD o) → h.FunFrames base l
  | [], _ => trivial
  | e :: l, k => by
    obtain ⟨hk, L, o, hf, hn, g, es, n, hd⟩ := k e List.mem_cons_self
    refine ⟨(by rw [hk]; intro z; cases z), ⟨L, o, hf, hn, g, fun vs z => (by rw [hd] at z; cases z)⟩, funFrames fun e he => k e (List.mem_cons_of_mem _ he)⟩
theorem entryStep {A : Around} {own stk : Addr → Prop} {hp : Hp} {s : Shared} {env0 : Env} {outer : List Env} {L ea : Addr} {oe : Obj} {vs : Array Value} {head a0 : Value} {hn : Bool} {Q : Unit → Shared → Prop} {E : Value → Shared → Prop} (fs : Fs A stk s) (hfr : A.frames = some (env0 :: outer)) (hf : env0.frame = some L)
    (ok : HeapOk P stk (upd hp ea .fld) s) (hea : hp ea = Option.none) (g : s.heap.get? ea = some oe) (hd : oe.data = .fields vs) (h0 : vs[0]? = some a0) (hz : 1 < vs.size)
    (k : ∀ T h', hp T = Option.none → Ext own stk (upd hp ea .fld) s (hpE hp ea (some T)) { s with heap := h' } → HeapOk P stk (hpE hp ea (some T)) { s with heap := h' } → ExcAt oe.cls ea (some T) (rawInt L) h' → Q () { s with heap := h' }) :
    wpAny P.M A (do let a ← PySem.frameOf env0; let pl ← entryPlaceOf L hn; let b ← EntryCells.newEntry head a .none (rawInt L) .none pl; setField (.ref ea) 1 b) Q E s := by
  let S : List Addr := ea :: (env0 :: outer).filterMap (·.frame)
  have inS := fs_frames fs hfr
  have nstk : ¬ stk ea := ok.apart ea (by rw [upd_same]; intro z; cases z)
  have fr : s.heap.FunFrames (hide s.heap S) (env0 :: outer) := by
    obtain ⟨l', hl', h⟩ := id fs
    rw [hfr] at hl'; cases hl'
    exact funFrames fun e he => by
      obtain ⟨hk, L, o, hf, st, g, d⟩ := h e he
      exact ⟨hk, L, o, hf, hide_in (List.mem_cons_of_mem _ (List.mem_filterMap.mpr ⟨e, he, hf⟩)), g, d⟩
  refine wpAny_entryW (base := hide s.heap S) hfr fr hf g hide_stays (hide_in List.mem_cons_self) hd hz h0 fun h' hN => ?_
  obtain ⟨st, _, ⟨oe', vs', T, oT, ts, ge, ⟨hc, h0'⟩, hd', h1, bT, hTe, gT, hdT, h3⟩, up⟩ := hN
  have out : ∀ b o, b ∉ S → s.heap.get? b = some o → h'.get? b = some o := fun b o hb g => st b o (by rw [hide_out hb]; exact g)
  have TS : T ∉ S := fun z => by
    rcases List.mem_cons.mp z with z | z
    · exact hTe z
    · obtain ⟨_, o, g, es, n, hdd⟩ := inS T z
      obtain ⟨sl, g'⟩ := up T o g fun vs z => by rw [hdd] at z; cases z
      rw [gT] at g'; cases g'
      rw [show ({ o with slots := sl } : Obj).data = o.data from rfl, hdd] at hdT; cases hdT
  have nT : s.heap.get? T = Option.none := by rw [← hide_out TS]; exact bT
  have fT := fz_of_new ok nT
  have hpT : hp T = Option.none := by have := fT.1; rwa [upd_ne hTe] at this
  have notS : ∀ b, ¬ stk b → b ≠ ea → b ∉ S := fun b h1 h2 z => by
    rcases List.mem_cons.mp z with z | z
    · exact h2 z
    · exact h1 (inS b z).1
  have hE' : ∀ b, b ≠ ea → b ≠ T → hpE hp ea (some T) b = hp b := fun b h1 h2 => by simp only [hpE]; rw [upd_ne h2, upd_ne h1]
  have ky : Keepy (Fz stk (upd hp ea .fld)) (Fz stk (hpE hp ea (some T))) s.heap h' := by
    rintro a o ⟨f1, f2⟩ g
    have n1 : a ≠ ea := by rintro rfl; rw [upd_same] at f1; cases f1
    have n2 : a ≠ T := by rintro rfl; rw [nT] at g; cases g
    refine ⟨⟨?_, f2⟩, out a o (notS a f2 n1) g⟩
    rw [hE' a n1 n2]; rwa [upd_ne n1] at f1
  refine k T h' hpT ⟨fun b o e n g => ?_, fun b o g => ?_, fun b o z g dd => ?_, fun b e n => ?_, rfl, rfl⟩ ⟨fun b o e => ?_, fun b e z => ?_, fun b o e => ?_, fun b e => ?_, ok.stkn, fun a z => ?_, ok.gens⟩ ⟨oe', vs', a0, ge, hc, hd', h0', (Array.getElem?_eq_some_iff.mp h1).1, h1, hTe, oT, ts, gT, hdT, h3⟩
  · have n1 : b ≠ ea := by rintro rfl; rw [upd_same] at e; cases e
    by_cases z : b ∈ S
    · rcases List.mem_cons.mp z with z | z
      · exact absurd z n1
      · obtain ⟨q1, o', g', d'⟩ := inS b z
        rw [g] at g'; cases g'
        obtain ⟨sl, g2⟩ := up b o g fun vs z => by obtain ⟨es, n, hdd⟩ := d'; rw [hdd] at z; cases z
        exact .inr ⟨q1, d', sl, g2⟩
    · exact .inl (out b o z g)
  · by_cases n1 : b = ea
    · subst n1; exact ⟨_, ge⟩
    · by_cases z : b ∈ S
      · rcases List.mem_cons.mp z with z | z
        · exact absurd z n1
        · obtain ⟨q1, o', g', d'⟩ := inS b z
          rw [g] at g'; cases g'
          obtain ⟨sl, g2⟩ := up b o g fun vs z => by obtain ⟨es, n, hdd⟩ := d'; rw [hdd] at z; cases z
          exact ⟨_, g2⟩
      · exact ⟨o, out b o z g⟩
  · obtain ⟨sl, g2⟩ := up b o g fun vs z => by obtain ⟨es, n, hdd⟩ := dd; rw [hdd] at z; cases z
    obtain ⟨es, n, hdd⟩ := dd
    exact ⟨_, g2, es, n, hdd⟩
  · have n1 : b ≠ ea := by rintro rfl; rw [upd_same] at e; cases e
    by_cases n2 : b = T
    · subst n2; exact nT
    · rw [hE' b n1 n2] at n; rw [upd_ne n1] at e; exact absurd e n
  · by_cases n2 : b = T
    · subst n2; simp only [hpE, upd_same] at e; cases e; exact ⟨oT, ts, gT, hdT⟩
    · by_cases n1 : b = ea
      · subst n1; simp only [hpE] at e; rw [upd_ne n2, upd_same] at e; cases e; exact ⟨oe', vs', ge, hd'⟩
      · rw [hE' b n1 n2] at e
        have e2 : upd hp ea O.fld b = some o := by rw [upd_ne n1]; exact e
        exact (ok.obj b o e2).keep ky fun o' g => out b o' (notS b (ok.apart b (by rw [e2]; intro z; cases z)) n1) g
  · by_cases n2 : b = T
    · subst n2; exact fT.2 z
    · by_cases n1 : b = ea
      · subst n1; exact nstk z
      · rw [hE' b n1 n2] at e
        exact ok.apart b (by rw [upd_ne n1]; exact e) z
  · have n1 : b ≠ ea := by rintro rfl; rw [ok.new b (by rw [upd_same]; intro z; cases z)] at e; cases e
    exact out b o (notS b (fun z => by rw [ok.stkn b z] at e; cases e) n1) (ok.base b o e)
  · by_cases n2 : b = T
    · subst n2
      cases q : P.H₀.get? b with
      | none => rfl
      | some o => have := ok.base b o q; rw [nT] at this; cases this
    · by_cases n1 : b = ea
      · subst n1; exact ok.new b (by rw [upd_same]; intro z; cases z)
      · rw [hE' b n1 n2] at e
        exact ok.new b (by rw [upd_ne n1]; exact e)
  · obtain ⟨o, g⟩ := ok.stkl a z
    by_cases q : a ∈ S
    · rcases List.mem_cons.mp q with q | q
      · subst q; exact ⟨_, ge⟩
      · obtain ⟨q1, o', g', d'⟩ := inS a q
        rw [g] at g'; cases g'
        obtain ⟨sl, g2⟩ := up a o g fun vs z => by obtain ⟨es, n, hdd⟩ := d'; rw [hdd] at z; cases z
        exact ⟨_, g2⟩
    · exact ⟨o, out a o q g⟩
theorem frameOf_congr {env env0 : Env} (h : env0.frame = env.frame) : PySem.frameOf env = PySem.frameOf env0 := by unfold PySem.frameOf; rw [h]
theorem noteStep {A : Around} {own stk : Addr → Prop} {hp : Hp} {s : Shared} {env env0 : Env} {outer : List Env} {ea : Addr} {tr : Option Addr} {cls : Value} {Q : Unit → Shared → Prop} {E : Value → Shared → Prop} (fs : Fs A stk s) (hfr : A.frames = some (env0 :: outer)) (hf0 : env0.frame = env.frame)
    (ok : HeapOk P stk (hpE hp ea tr) s) (hea : hp ea = Option.none) (hT : ∀ T, tr = some T → hp T = Option.none) (x : ExcAt cls ea tr .none s.heap)
    (k : ∀ T L h', hp T = Option.none → Ext own stk (hpE hp ea tr) s (hpE hp ea (some T)) { s with heap := h' } → HeapOk P stk (hpE hp ea (some T)) { s with heap := h' } → ExcAt cls ea (some T) (rawInt L) h' → Q () { s with heap := h' }) :
    wpAny P.M A (noteFrame (.ref ea) env) Q E s := by
  obtain ⟨L, hfL⟩ : ∃ L, env0.frame = some L := by
    obtain ⟨l', hl', h⟩ := id fs
    rw [hfr] at hl'; cases hl'
    obtain ⟨_, L, o, hf, _⟩ := h env0 List.mem_cons_self
    exact ⟨L, hf⟩
  have hfe : env.frame = some L := hf0 ▸ hfL
  obtain ⟨oe, vs, a0, g, hc, hd, h0, hz, x⟩ := x
  subst hc
  unfold noteFrame
  simp only [hfe]
  rw [frameOf_congr hf0]
  cases tr with
  | none =>
    refine wpAny_bind (wpAny_field g hd x ?_)
    rw [if_neg (by decide)]
    exact entryStep fs hfr hfL ok hea g hd h0 hz fun T h' q1 q2 q3 q4 => k T L h' q1 q2 q3 q4
  | some T =>
    obtain ⟨h1, hTe, oT, ts, gT, hdT, h3⟩ := x
    have hpT := hT T rfl
    refine wpAny_bind (wpAny_field g hd h1 ?_)
    rw [if_pos (show (Value.ref T != Value.none) = true from by simp)]
    refine wpAny_bind (wpAny_field gT hdT h3 ?_)
    rw [if_neg (show ¬ ((Value.none == rawInt L) = true) from by simp [rawInt])]
    refine wpAny_bind (wpAny_setField gT hdT (Array.getElem?_eq_some_iff.mp h3).1 ?_)
    obtain ⟨ok1, e1, _⟩ := fldStep (own := own) (f := (·.setIfInBounds 3 Value.none)) ok (a := T) (by simp [hpE]) gT hdT
    have g1 : (s.heap.update T (Obj.mapFields (·.setIfInBounds 3 Value.none))).get? ea = some oe := (Heap.get?_update_other _ _ hTe).trans g
    have ok2 := ok1.drop T
    have e2 := e1.trans (Ext.drop (own := own) (stk := stk) T)
    have hdel : del (hpE hp ea (some T)) T = upd hp ea .fld := by
      simp only [hpE]; exact del_upd (by rw [upd_ne hTe]; exact hpT)
    rw [hdel] at ok2 e2
    exact entryStep (fs.step e1) hfr hfL ok2 hea g1 hd h0 hz fun T' h' q1 q2 q3 q4 => k T' L h' q1 (e2.trans q2) q3 q4
theorem flightStep {A : Around} {own stk : Addr → Prop} {hp : Hp} {s : Shared} {ea T : Addr} {cls fl : Value} {Q : Unit → Shared → Prop} {E : Value → Shared → Prop} (ok : HeapOk P stk (hpE hp ea (some T)) s) (x : ExcAt cls ea (some T) fl s.heap)
    (k : ∀ h', Ext own stk (hpE hp ea (some T)) s (hpE hp ea (some T)) { s with heap := h' } → HeapOk P stk (hpE hp ea (some T)) { s with heap := h' } → ExcAt cls ea (some T) .none h' → Q () { s with heap := h' }) :
    wpAny P.M A (setFlight (.ref ea) Option.none) Q E s := by
  obtain ⟨oe, vs, a0, g, hc, hd, h0, hz, h1, hTe, oT, ts, gT, hdT, h3⟩ := x
  have hz3 := (Array.getElem?_eq_some_iff.mp h3).1
  unfold setFlight
  refine wpAny_bind (wpAny_field g hd h1 ?_)
  rw [if_pos (show (Value.ref T != Value.none) = true from by simp)]
  refine wpAny_setField gT hdT hz3 ?_
  obtain ⟨ok1, e1, g1⟩ := fldStep (own := own) (f := (·.setIfInBounds 3 Value.none)) ok (a := T) (by simp [hpE]) gT hdT
  exact k _ e1 ok1 ⟨oe, vs, a0, (Heap.get?_update_other _ _ hTe).trans g, hc, hd, h0, hz, h1, hTe, _, _, g1, Obj.data_mapFields hdT _, by simp [hz3]⟩
theorem leaveStep {A : Around} {own stk : Addr → Prop} {ex : Nat → Value} {k : Nat × Hp} {hp : Hp} {s : Shared} {env env0 : Env} {outer : List Env} {e : Value} {Q : Unit → Shared → Prop} {E : Value → Shared → Prop} (fs : Fs A stk s) (hfr : A.frames = some (env0 :: outer)) (hf0 : env0.frame = env.frame)
    (ok : HeapOk P stk hp s) (x : flyK ex k e hp s) (q : ∀ hp' s', Ext own stk hp s hp' s' → HeapOk P stk hp' s' → flyK ex k e hp' s' → Q () s') : wpAny P.M A (leaving env e) Q E s := by
  obtain ⟨ea, tr, rfl, hea, hT, rfl, x⟩ := x
  unfold leaving
  refine wpAny_bind (noteStep (own := own) fs hfr hf0 ok hea hT x fun T L h' q1 q2 q3 q4 => ?_)
  refine flightStep (own := own) q3 q4 fun h2 p2 p3 p4 => ?_
  exact q _ _ (q2.trans p2) p3 ⟨ea, some T, rfl, hea, fun T' e => by cases e; exact q1, rfl, p4⟩
end Mine
namespace Mine
variable {P : Par} {Fl : Fly} {d : Nat} {sc : Scope}
theorem bindL_mem {kd : Str → Option NameKind} : ∀ {bs : List (Str × Value)} {m : Str → Option Value} {n : Str} {v : Value}, (bs.map (·.1)).Nodup → (n, v) ∈ bs → kd n = some .local → bindL kd bs m n = some v
  | [], _, _, _, _, h, _ => (nomatch h)
  | (a, b) :: bs, m, n, v, hnd, h, hk => by
    rw [List.map_cons, List.nodup_cons] at hnd
    unfold bindL
    rcases List.mem_cons.mp h with h' | h'
    · obtain ⟨q1, q2⟩ := Prod.mk.inj h'
      subst q1 q2
      rw [if_pos hk]
      have : ∀ (bs : List (Str × Value)) (m : Str → Option Value), n ∉ bs.map (·.1) → bindL kd bs m n = m n := by
        intro bs
        induction bs with
        | nil => intro m _; rfl
        | cons x bs ih =>
          obtain ⟨c, e⟩ := x
          intro m hm
          simp only [List.map_cons, List.mem_cons, not_or] at hm
          unfold bindL
          rw [ih _ hm.2]
          split
          · exact if_neg hm.1
          · rfl
      rw [this bs _ hnd.1, if_pos rfl]
    · exact bindL_mem hnd.2 h' hk
theorem bindC_mem {kd : Str → Option NameKind} : ∀ {bs : List (Str × Value)} {m : Str → Option Value} {n : Str} {v : Value}, (bs.map (·.1)).Nodup → (n, v) ∈ bs → kd n ≠ some .local → bindC kd bs m n = some v
  | [], _, _, _, _, h, _ => (nomatch h)
  | (a, b) :: bs, m, n, v, hnd, h, hk => by
    rw [List.map_cons, List.nodup_cons] at hnd
    unfold bindC
    rcases List.mem_cons.mp h with h' | h'
    · obtain ⟨q1, q2⟩ := Prod.mk.inj h'
      subst q1 q2
      rw [if_neg hk]
      have : ∀ (bs : List (Str × Value)) (m : Str → Option Value), n ∉ bs.map (·.1) → bindC kd bs m n = m n := by
        intro bs
        induction bs with
        | nil => intro m _; rfl
        | cons x bs ih =>
          obtain ⟨c, e⟩ := x
          intro m hm
          simp only [List.map_cons, List.mem_cons, not_or] at hm
          unfold bindC
          rw [ih _ hm.2]
          split
          · rfl
          · exact if_neg hm.1
      rw [this bs _ hnd.1, if_pos rfl]
    · exact bindC_mem hnd.2 h' hk
noncomputable def BR (P : Par) (F : Addr → Prop) (h : Heap) : List (Nat × V) → List (Str × Value) → Prop
  | [], bs => bs = []
  | (i, v) :: ps, bs => ∃ x r, bs = (P.nm i, x) :: r ∧ Mine.VR P.nm F h v x ∧ BR P F h ps r
theorem BRe : (∀ (P : Par) F h bs, BR P F h [] bs = (bs = [])) ∧ ∀ (P : Par) F h i v ps bs, BR P F h ((i, v) :: ps) bs = ∃ x r, bs = (P.nm i, x) :: r ∧ Mine.VR P.nm F h v x ∧ BR P F h ps r := ⟨fun _ _ _ _ => rfl, fun _ _ _ _ _ _ _ => rfl⟩
theorem BR.names {F : Addr → Prop} {h : Heap} : ∀ {ps : List (Nat × V)} {bs : List (Str × Value)}, BR P F h ps bs → bs.map (·.1) = ps.map fun p => P.nm p.1
  | [], bs, r => by simp only [BRe] at r; subst r; rfl
  | (i, v) :: ps, bs, r => by
    simp only [BRe] at r
    obtain ⟨x, rr, rfl, _, q⟩ := r
    simp [BR.names q]
theorem BR.mem {F : Addr → Prop} {h : Heap} : ∀ {ps : List (Nat × V)} {bs : List (Str × Value)} {i : Nat} {v : V}, BR P F h ps bs → (i, v) ∈ ps → ∃ x, (P.nm i, x) ∈ bs ∧ Mine.VR P.nm F h v x
  | [], bs, i, v, r, h => (nomatch h)
  | (j, u) :: ps, bs, i, v, r, h => by
    simp only [BRe] at r
    obtain ⟨x, rr, rfl, p, q⟩ := r
    rcases List.mem_cons.mp h with h' | h'
    · obtain ⟨q1, q2⟩ := Prod.mk.inj h'; subst q1 q2; exact ⟨x, List.mem_cons_self, p⟩
    · obtain ⟨y, a, b⟩ := BR.mem q h'; exact ⟨y, List.mem_cons_of_mem _ a, b⟩
theorem BR.keep {F F' : Addr → Prop} {h h' : Heap} (k : Keepy F F' h h') : ∀ {ps : List (Nat × V)} {bs : List (Str × Value)}, BR P F h ps bs → BR P F' h' ps bs
  | [], bs, r => r
  | (i, v) :: ps, bs, r => by
    simp only [BRe] at r ⊢
    obtain ⟨x, rr, e, p, q⟩ := r
    exact ⟨x, rr, e, p.keep k, BR.keep k q⟩
noncomputable def locOf (ps : List (Nat × V)) : Loc := fun i => ps.lookup i
theorem mem_of_lookupN {α : Type} : ∀ {ps : List (Nat × α)} {i : Nat} {v : α}, ps.lookup i = some v → (i, v) ∈ ps
  | (j, u) :: ps, i, v, h => by
    rw [List.lookup_cons] at h
    cases q : i == j with
    | true => rw [q] at h; cases h; rw [show i = j by simpa using q]; exact List.mem_cons_self
    | false => rw [q] at h; exact List.mem_cons_of_mem _ (mem_of_lookupN h)
noncomputable def BindOk (P : Par) (fd : FuncData) (bd : List V → Hp → Option (List (Nat × V))) : Prop :=
  ∀ (A : Around) (s : Shared) (hp : Hp) (stk : Addr → Prop) (vs : List V) (xs : List Value) (ps : List (Nat × V)) (Q : List (Str × Value) → Shared → Prop) (E : Value → Shared → Prop), HeapOk P stk hp s → P.VRs stk hp s.heap vs xs → bd vs hp = some ps →
    (∀ bs h', (∀ b o, s.heap.get? b = some o → h'.get? b = some o) → BR P (Fz stk hp) h' ps bs → Q bs { s with heap := h' }) → wpAny P.M A (bindArgs fd ⟨xs, []⟩) Q E s
structure FunFacts (P : Par) (a : Addr) (fd : FuncData) (body : List Stmt) : Prop where
  obj : ∃ o, P.H₀.get? a = some o ∧ o.data = .func fd
  code : P.H₀.CodeRec fd.code fd.qualname
  body : fd.body = .stmts body
  clo : fd.closure = []
  glob : fd.globals = mainGlobals
  blt : fd.builtins = builtinsNs
  kind : fd.scope.kind = .function
  gen : fd.scope.isGenerator = false
  cor : fd.scope.isCoroutine = false
  nodup : (fd.scope.names.map (·.1)).Nodup
  nofree : ∀ n, (n, NameKind.free) ∉ fd.scope.names
noncomputable def dFun (bd : List V → Hp → Option (List (Nat × V))) (D : DS) : DC := fun vs Q X hp => ∃ ps, bd vs hp = some ps ∧ D (fun w _ hp' => match w with | .ret v => Q v hp' | .next => Q .none hp' | _ => False) (fun k _ hp' => X k hp') (locOf ps) hp
theorem frameOk {A : Around} {stk : Addr → Prop} {hp : Hp} {s s₁ : Shared} {fd : FuncData} {a : Addr} {ps : List (Nat × V)} {bs : List (Str × Value)} {body : List Stmt} (F : FunFacts P a fd body) (fs : Fs A stk s) (ok : HeapOk P stk hp s) (br : BR P (Fz stk hp) s.heap ps bs) (hids : ∀ p ∈ ps, fd.scope.names.lookup (P.nm p.1) = some .local ∨ fd.scope.names.lookup (P.nm p.1) = some .cell) (hpn : (ps.map fun p => P.nm p.1).Nodup)
    (x : InCallC s (callEnvC fd s.heap.objs.size a).locals (bindL (callEnvC fd s.heap.objs.size a).kindOf bs fun _ => none) (callEnvC fd s.heap.objs.size a).cells (bindC (callEnvC fd s.heap.objs.size a).kindOf bs fun _ => none) s₁) :
    ∃ stk' : Addr → Prop, (∀ a, stk a → stk' a) ∧ (∀ b, ownE (callEnvC fd s.heap.objs.size a) b → s.heap.get? b = Option.none) ∧ Ext no1 stk hp s hp s₁ ∧ HeapOk P stk' hp s₁ ∧ EnvOk P (A.deeper (callEnvC fd s.heap.objs.size a)) stk' hp (callEnvC fd s.heap.objs.size a) (locOf ps) s₁ ∧ ∀ b, stk' b → stk b ∨ s.heap.get? b = Option.none := by
  obtain ⟨h', tk, hs⟩ := x.toInCall.same
  subst hs
  have keep : ∀ b o, s.heap.get? b = some o → h'.get? b = some o := x.toInCall.keep
  let L := s.heap.objs.size
  let cs := cellsFrom (L + 1) fd.scope.names []
  let N : Addr → Prop := fun b => b = L ∨ ∃ n, cs.lookup n = some b
  have hlt : ∀ b, N b → L ≤ b := by
    rintro b (rfl | ⟨n, e⟩)
    · exact Nat.le_refl _
    · exact Nat.le_of_lt (x.above n b (mem_of_lookup e))
  have hn : ∀ b, N b → s.heap.get? b = Option.none := fun b z => by
    cases g : s.heap.get? b with
    | none => rfl
    | some o => exact absurd (Heap.lt_size g) (Nat.not_lt.mpr (hlt b z))
  have hH : ∀ b, N b → ∃ o, h'.get? b = some o := by
    rintro b (rfl | ⟨n, e⟩)
    · obtain ⟨o, _, _, g, _⟩ := x.toInCall.ns; exact ⟨o, g⟩
    · obtain ⟨o, g, _⟩ := x.cell n b e; exact ⟨o, g⟩
  obtain ⟨okN, ky⟩ := okMany (tk := tk) ok hn hH keep
  refine ⟨_, fun a z => .inl z, fun b z => hn b z, Ext.grow (stk := stk) keep, okN, ?_, fun b z => z.imp id (hn b)⟩
  have br' := br.keep ky
  have hnd : (bs.map (·.1)).Nodup := by rw [br.names]; exact hpn
  have kd : ∀ n, (callEnvC fd s.heap.objs.size a).kindOf n = fd.scope.names.lookup n := fun n => rfl
  refine ⟨F.kind, F.glob, F.blt, ⟨_, x.toInCall.ns, fun i v h k => ?_⟩, fun i v h k => ?_, .inr (.inl rfl), fun n c e => .inr (.inr ⟨n, e⟩), fun n k => ?_, fun n n' c e e' => ?_, fun n e => ?_, ?_, ?_⟩
  · obtain ⟨y, hm, r⟩ := br'.mem (mem_of_lookupN h)
    exact ⟨y, bindL_mem hnd hm k, r⟩
  · obtain ⟨y, hm, r⟩ := br'.mem (mem_of_lookupN h)
    have hk : fd.scope.names.lookup (P.nm i) = some .cell := by
      rcases k with k | k
      · exact k
      · exact absurd (mem_of_lookup' k) (F.nofree _)
    obtain ⟨c, e, _, _⟩ := cellsFrom_bound fd.scope.names (L + 1) [] (P.nm i) (mem_of_lookup' hk)
    have := x.cell (P.nm i) c e
    rw [bindC_mem hnd hm (by rw [kd, hk]; intro z; cases z)] at this
    exact ⟨c, y, e, this, r⟩
  · have hk : fd.scope.names.lookup n = some .cell := by
      rcases k with k | k
      · exact k
      · exact absurd (mem_of_lookup' k) (F.nofree _)
    obtain ⟨c, e, _, _⟩ := cellsFrom_bound fd.scope.names (L + 1) [] n (mem_of_lookup' hk)
    exact ⟨c, _, e, x.cell n c e⟩
  · exact name_of_addr x.apart (mem_of_lookup e) (mem_of_lookup e')
  · exact absurd (x.above n _ (mem_of_lookup e)) (Nat.lt_irrefl _)
  · obtain ⟨l, hl, h⟩ := fs
    refine ⟨callEnvC fd s.heap.objs.size a :: l, by show A.frames.map _ = _; rw [hl]; rfl, fun e he => ?_⟩
    rcases List.mem_cons.mp he with rfl | he
    · obtain ⟨o, es, ep, g, dd, _⟩ := x.toInCall.ns
      exact ⟨F.kind, L, o, rfl, .inr (.inl rfl), g, es, ep, dd⟩
    · obtain ⟨hk, L', o, hf, st, g, dd⟩ := h e he
      exact ⟨hk, L', o, hf, .inl st, keep _ _ g, dd⟩
  · obtain ⟨l, hl, h⟩ := fs
    exact ⟨_, l, by show A.frames.map _ = _; rw [hl]; rfl, rfl⟩
theorem Room.deep {A : Around} {env : Env} (r : Room (d + 1) A) : Room d (A.deeper env) := ⟨by have := r.depth; show A.depth + 1 + d < _; lia, by have := r.units; show A.units + 3 + 8 * d + 128 < _; lia, fun _ => r.hd (Nat.succ_pos _)⟩
theorem Room.in1 {A : Around} (r : Room d A) : A.depth < recursionLimit := by have := r.depth; lia
noncomputable def OkK (P : Par) (Fl : Fly) (d : Nat) (f : Value) (Dc : DC) : Prop :=
  ∀ (A : Around) (s : Shared) (Q : V → Hp → Prop) (X : XA) (hp : Hp) (stk : Addr → Prop) (vs : List V) (xs : List Value), Room d A → Fs A stk s → HeapOk P stk hp s → P.VRs stk hp s.heap vs xs → Dc vs Q X hp →
    codeAny P.M A (.call f ⟨xs, []⟩) (fun r s' => match r with | .ok (.ret y) => PostT P no1 stk hp s (PV P stk Q) y s' | .ok _ => False | .error e => PostT P no1 stk hp s (lX Fl X) e s') s
theorem OkK.c {f : Value} {Dc : DC} (h : OkK P Fl d f Dc) : OkC P Fl d f Dc := fun A s Q X hp stk vs xs rm fs ok r hD => wpAny_call (h A s Q X hp stk vs xs rm fs ok r hD)
theorem OkK.up {f : Value} {Dc : DC} {d' : Nat} (h : OkK P Fl d f Dc) (hd : d ≤ d') : OkK P Fl d' f Dc := fun A s Q X hp stk vs xs rm => h A s Q X hp stk vs xs (rm.less hd)
theorem OkK.fun {mg mb : Str → Option Value} (tp : TopOk P mg mb) {a : Addr} {fd : FuncData} {body : List Stmt} {bd : List V → Hp → Option (List (Nat × V))} {D : DS} (F : FunFacts P a fd body) (hb : BindOk P fd bd)
    (hids : ∀ vs hp ps, bd vs hp = some ps → (∀ p ∈ ps, fd.scope.names.lookup (P.nm p.1) = some .local ∨ fd.scope.names.lookup (P.nm p.1) = some .cell) ∧ (ps.map fun p => P.nm p.1).Nodup)
    {ex : Nat → Value} (h : SimSs P (flyK ex) d fd.scope body D) : OkK P (flyK ex) (d + 1) (.ref a) (dFun bd D) := by
  rintro A s Q X hp stk vs xs rm fs ok r ⟨ps, hps, hD⟩
  obtain ⟨o, ho, hdat⟩ := F.obj
  refine (codeAny_call_function rm.in1 (ok.base _ _ ho) hdat F.cor F.gen F.body (F.code.keeps ok.base) ?_)
  refine hb _ s hp stk vs xs ps _ _ ok r hps fun bs h1 kp br => ?_
  have ok1 : HeapOk P stk hp { s with heap := h1 } := ok.grow (tk := s.toks) kp
  have e1 : Ext no1 stk hp s hp { s with heap := h1 } := Ext.grow (stk := stk) (tk := s.toks) kp
  obtain ⟨hi, hpn⟩ := hids vs hp ps hps
  rw [F.clo]
  refine wpAny_newFunctionEnv_cells F.kind (fun y hy => ?_) fun env he s' x => ?_
  · have : y.1 ∈ bs.map (·.1) := List.mem_map.mpr ⟨y, hy, rfl⟩
    rw [br.names] at this
    obtain ⟨p, hp', e⟩ := List.mem_map.mp this
    rw [← e]
    rcases hi p hp' with q | q
    · exact .inl q
    · obtain ⟨c, e2, _, _⟩ := cellsFrom_bound fd.scope.names (h1.objs.size + 1) [] (P.nm p.1) (mem_of_lookup' q)
      exact .inr ⟨q, by rw [show ({ s with heap := h1 } : Shared).heap.objs.size = h1.objs.size from rfl, e2]; rfl⟩
  · subst he
    have x' : InCallC { s with heap := h1 } (callEnvC fd h1.objs.size a).locals (bindL (callEnvC fd h1.objs.size a).kindOf bs fun _ => none) (callEnvC fd h1.objs.size a).cells (bindC (callEnvC fd h1.objs.size a).kindOf bs fun _ => none) s' := x
    obtain ⟨stk', sub, fresh, e2, ok2, ev2, hst⟩ := frameOk F (fs.step e1) ok1 br hi hpn x'
    refine ⟨(tp.lim.keeps ok2.base), codeAny_func ?_⟩
    have e2' : Ext (ownE (callEnvC fd h1.objs.size a)) stk' hp { s with heap := h1 } hp s' := e2.of1.more sub hst
    refine wpAny_mono (h _ (callEnvC fd h1.objs.size a) s' _ _ (locOf ps) hp stk' rm.deep rfl ev2 ok2 hD) (fun f s3 ⟨hp3, e3, ok3, w, loc3, ev3, q3, r3⟩ => ?_) fun e s3 ⟨hp3, e3, ok3, k, l, ev3, hx, hf⟩ => ?_
    rotate_left
    · obtain ⟨e0, r0, hfr, hf0⟩ := ev3.top
      refine leaveStep (own := ownE (callEnvC fd h1.objs.size a)) ev3.frs hfr hf0 ok3 hf fun hp4 s4 e4 ok4 hf4 => ?_
      exact ⟨hp4, e1.trans (Ext.to1 ((e2'.trans e3).trans e4) fresh hst sub), ok4.sub sub, k, hx, hf4⟩
    have eF : Ext no1 stk hp s hp3 s3 := e1.trans (Ext.to1 (e2'.trans e3) fresh hst sub)
    have okF := ok3.sub sub
    have back : ∀ v y, P.VR stk' hp3 s3.heap v y → P.VR stk hp3 s3.heap v y := fun v y r => r.keep fun a o f g => ⟨⟨f.1, fun z => f.2 (sub a z)⟩, g⟩
    cases w <;> cases f <;> first | exact r3.elim | exact q3.elim | skip
    · exact ⟨hp3, eF, okF, .none, q3, vNone⟩
    · exact ⟨hp3, eF, okF, _, q3, back _ _ r3⟩
noncomputable def bdPos (ids : List Nat) : List V → Hp → Option (List (Nat × V)) := fun vs _ => if vs.length = ids.length then some (ids.zip vs) else Option.none
theorem BindOk.pos {fd : FuncData} {ids : List Nat} (hb : ∀ xs : List Value, xs.length = ids.length → bindArgs fd ⟨xs, []⟩ = pure ((ids.map P.nm).zip xs)) : BindOk P fd (bdPos ids) := by
  intro A s hp stk vs xs ps Q E ok r h q
  unfold bdPos at h
  split at h
  · rename_i hl
    cases h
    have hx := r.length
    rw [hb xs (by lia)]
    refine wpAny_pure (q _ s.heap (fun _ _ e => e) ?_)
    clear hb q
    induction ids generalizing vs xs with
    | nil => simp [BRe]
    | cons i ids ih =>
      cases vs with
      | nil => simp at hl
      | cons v vs =>
        simp only [VRse] at r
        obtain ⟨y, ys, rfl, p, q⟩ := r
        simp only [List.zip_cons_cons, List.map_cons, BRe]
        exact ⟨y, _, rfl, p, ih vs ys q (by simpa using hl) (by simpa using hx)⟩
  · cases h
end Mine
namespace Mine
variable {P : Par} {Fl : Fly} {d : Nat} {sc : Scope}
noncomputable def itemAt (vs : List V) (k : Int) : Option V := if 0 ≤ k then vs[k.toNat]? else if -(vs.length : Int) ≤ k then vs[(k + vs.length).toNat]? else Option.none
noncomputable def eAt (es : List (Int × V)) (k : Int) : Option V := (es.find? fun e => e.1 = k).map (·.2)
noncomputable def eSet (es : List (Int × V)) (k : Int) (v : V) : List (Int × V) := if es.any (fun e => decide (e.1 = k)) then es.map (fun e => if e.1 = k then (e.1, v) else e) else es ++ [(k, v)]
noncomputable def eDel (es : List (Int × V)) (k : Int) : List (Int × V) := es.filter fun e => decide (e.1 ≠ k)
theorem ER.at {F : Addr → Prop} {h : Heap} {k : Int} : ∀ {es : List (Int × V)} {kvs : List (Int × Value)} {v : V}, ER P.nm F h es kvs → eAt es k = some v → ∃ y, valueAt kvs k = some y ∧ Mine.VR P.nm F h v y
  | [], kvs, v, r, e => by cases e
  | (i, u) :: es, kvs, v, r, e => by
    simp only [ERe] at r
    obtain ⟨y, ys, rfl, p, q⟩ := r
    unfold eAt at e
    unfold valueAt
    by_cases hk : i = k
    · simp only [List.find?_cons, hk, decide_true, Option.map_some] at e ⊢
      cases e
      exact ⟨y, rfl, p⟩
    · simp only [List.find?_cons, hk, decide_false] at e ⊢
      exact ER.at q e
theorem ER.none {F : Addr → Prop} {h : Heap} {k : Int} : ∀ {es : List (Int × V)} {kvs : List (Int × Value)}, ER P.nm F h es kvs → eAt es k = Option.none → valueAt kvs k = Option.none
  | [], kvs, r, e => by simp only [ERe] at r; subst r; rfl
  | (i, u) :: es, kvs, r, e => by
    simp only [ERe] at r
    obtain ⟨y, ys, rfl, p, q⟩ := r
    unfold eAt at e
    unfold valueAt
    by_cases hk : i = k
    · simp [List.find?_cons, hk] at e
    · simp only [List.find?_cons, hk, decide_false] at e ⊢
      exact ER.none q e
theorem ER.length {F : Addr → Prop} {h : Heap} : ∀ {es : List (Int × V)} {kvs : List (Int × Value)}, ER P.nm F h es kvs → kvs.length = es.length
  | [], kvs, r => by simp only [ERe] at r; subst r; rfl
  | (i, u) :: es, kvs, r => by
    simp only [ERe] at r
    obtain ⟨y, ys, rfl, p, q⟩ := r
    simp [ER.length q]
theorem ER.any {F : Addr → Prop} {h : Heap} {k : Int} : ∀ {es : List (Int × V)} {kvs : List (Int × Value)}, ER P.nm F h es kvs → kvs.any (fun kv => kv.1 = k) = es.any (fun e => decide (e.1 = k))
  | [], kvs, r => by simp only [ERe] at r; subst r; rfl
  | (i, u) :: es, kvs, r => by
    simp only [ERe] at r
    obtain ⟨y, ys, rfl, p, q⟩ := r
    simp [ER.any q]
theorem ER.append {F : Addr → Prop} {h : Heap} {k : Int} {v : V} {y : Value} (hv : Mine.VR P.nm F h v y) : ∀ {es : List (Int × V)} {kvs : List (Int × Value)}, ER P.nm F h es kvs → ER P.nm F h (es ++ [(k, v)]) (kvs ++ [(k, y)])
  | [], kvs, r => by simp only [ERe] at r; subst r; simp only [List.nil_append, ERe]; exact ⟨y, [], rfl, hv, rfl⟩
  | (i, u) :: es, kvs, r => by
    simp only [ERe] at r
    obtain ⟨z, ys, rfl, p, q⟩ := r
    simp only [List.cons_append, ERe]
    exact ⟨z, _, rfl, p, ER.append hv q⟩
theorem ER.map {F : Addr → Prop} {h : Heap} {k : Int} {v : V} {y : Value} (hv : Mine.VR P.nm F h v y) : ∀ {es : List (Int × V)} {kvs : List (Int × Value)}, ER P.nm F h es kvs → ER P.nm F h (es.map (fun e => if e.1 = k then (e.1, v) else e)) (kvs.map (fun kv => if kv.1 = k then (kv.1, y) else kv))
  | [], kvs, r => by simp only [ERe] at r; subst r; simp only [List.map_nil, ERe]
  | (i, u) :: es, kvs, r => by
    simp only [ERe] at r
    obtain ⟨z, ys, rfl, p, q⟩ := r
    simp only [List.map_cons]
    by_cases hk : i = k
    · simp only [hk, if_true, ERe]
      exact ⟨y, _, rfl, hv, ER.map hv q⟩
    · simp only [hk, if_false, ERe]
      exact ⟨z, _, rfl, p, ER.map hv q⟩
theorem ER.set {F : Addr → Prop} {h : Heap} {k : Int} {v : V} {y : Value} (hv : Mine.VR P.nm F h v y) {es : List (Int × V)} {kvs : List (Int × Value)} (r : ER P.nm F h es kvs) : ER P.nm F h (eSet es k v) (stored kvs k y) := by
  unfold eSet stored
  rw [r.any]
  split
  · exact r.map hv
  · exact r.append hv
theorem ER.del {F : Addr → Prop} {h : Heap} {k : Int} : ∀ {es : List (Int × V)} {kvs : List (Int × Value)}, ER P.nm F h es kvs → ER P.nm F h (eDel es k) (without kvs k)
  | [], kvs, r => by simp only [ERe] at r; subst r; simp only [eDel, without, List.filter_nil, ERe]
  | (i, u) :: es, kvs, r => by
    simp only [ERe] at r
    obtain ⟨z, ys, rfl, p, q⟩ := r
    have ih := ER.del (k := k) q
    unfold eDel without at ih ⊢
    by_cases hk : i = k
    · simp only [List.filter_cons, hk, ne_eq, not_true_eq_false, decide_false]
      simpa using ih
    · simp only [List.filter_cons, hk, ne_eq, not_false_eq_true, decide_true, if_true, ERe]
      exact ⟨z, _, rfl, p, ih⟩
noncomputable def bItem : B2 := fun o i Q hp => ∃ k, i = .int k ∧ match o with
  | .tup vs => vs.length ≤ lim ∧ ∃ v, itemAt vs k = some v ∧ Q v hp
  | .ref a => match hp a with
    | some (.dict es _) => ∃ v, eAt es k = some v ∧ Q v hp
    | some (.lst vs) => vs.length ≤ lim ∧ ∃ v, itemAt vs k = some v ∧ Q v hp
    | _ => False
  | .lst vs => vs.length ≤ lim ∧ ∃ v, itemAt vs k = some v ∧ Q v hp
  | _ => False
theorem VRs.item {F : Addr → Prop} {h : Heap} {vs : List V} {xs : Array Value} {k : Int} {v : V} (r : VRs P.nm F h vs xs.toList) (e : itemAt vs k = some v) :
    ∃ y, Mine.VR P.nm F h v y ∧ ((0 ≤ k ∧ k < vs.length ∧ xs[k.toNat]? = some y) ∨ (k < 0 ∧ -(xs.size : Int) ≤ k ∧ xs[(k + xs.size).toNat]? = some y)) := by
  have hl := r.length
  have hz : xs.size = vs.length := by rw [← hl]; simp
  unfold itemAt at e
  split at e
  · rename_i h0
    obtain ⟨y, e', p⟩ := r.get e
    have := (List.getElem?_eq_some_iff.mp e).1
    exact ⟨y, p, .inl ⟨h0, by omega, by simpa using e'⟩⟩
  · split at e
    · rename_i h0 h1
      obtain ⟨y, e', p⟩ := r.get e
      exact ⟨y, p, .inr ⟨by omega, by rw [hz]; exact h1, by rw [hz]; simpa using e'⟩⟩
    · cases e
theorem getItem_listI {A : Around} {s : Shared} {a : Addr} {xs : Array Value} {k : Int} {t : Tok} {y : Value} {n : Nat} {Q : Value → Shared → Prop} {E : Value → Shared → Prop} (hl : s.heap.PlainList a xs) (hn : xs.size ≤ lim)
    (h : (0 ≤ k ∧ k < n ∧ xs[k.toNat]? = some y) ∨ (k < 0 ∧ -(xs.size : Int) ≤ k ∧ xs[(k + xs.size).toNat]? = some y)) (hq : Q y s) : wpAny P.M A (getItem (.ref a) (.int k t)) Q E s := by
  unfold lim at hn
  rcases h with ⟨h0, _, h1⟩ | ⟨h0, h1, h2⟩
  · have : k.toNat < xs.size := (Array.getElem?_eq_some_iff.mp h1).1
    exact wpAny_getItem_list hl.isList h0 (by omega) h1 hq
  · exact wpAny_getItem_list_neg hl.isList h0 h1 (by omega) h2 hq
theorem getItem_tupI {A : Around} {s : Shared} {a : Addr} {xs : Array Value} {k : Int} {t : Tok} {y : Value} {n : Nat} {Q : Value → Shared → Prop} {E : Value → Shared → Prop} (hl : TupP s.heap a xs) (hn : xs.size ≤ lim)
    (h : (0 ≤ k ∧ k < n ∧ xs[k.toNat]? = some y) ∨ (k < 0 ∧ -(xs.size : Int) ≤ k ∧ xs[(k + xs.size).toNat]? = some y)) (hq : Q y s) : wpAny P.M A (getItem (.ref a) (.int k t)) Q E s := by
  unfold lim at hn
  obtain ⟨n, g⟩ := hl
  rcases h with ⟨h0, _, h1⟩ | ⟨h0, h1, h2⟩
  · have : k.toNat < xs.size := (Array.getElem?_eq_some_iff.mp h1).1
    exact getItem_tuple ⟨_, g, rfl, _, rfl⟩ (by omega) (by omega) (seqIndex_of h0 (by omega)) h1 hq
  · exact getItem_tuple ⟨_, g, rfl, _, rfl⟩ (by omega) (by omega) (seqIndex_neg h0 h1) h2 hq
theorem item_core {A : Around} {s : Shared} {hp : Hp} {stk : Addr → Prop} {v u : V} {x y : Value} {Q : V → Hp → Prop} {X : XA} {value slice : Expr} (ok : HeapOk P stk hp s) (rv : P.VR stk hp s.heap v x) (ru : P.VR stk hp s.heap u y) (h : bItem v u Q hp)
    (hs : ∀ o i, ∃ ops, subscripted slice false o i = operate ops (getItem o i)) : T P no1 stk A (subscriptTail value slice x y) hp s (PV P stk Q) (lX Fl X) := by
  obtain ⟨k, rfl, h⟩ := h
  simp only [VRe] at ru
  obtain ⟨t, rfl⟩ := ru
  have lists : ∀ vs, listOf hp v = some vs → (vs.length ≤ lim ∧ ∃ v, itemAt vs k = some v ∧ Q v hp) → T P no1 stk A (subscriptTail value slice x (.int k t)) hp s (PV P stk Q) (lX Fl X) := by
    rintro vs hv ⟨hl, u, hu, q⟩
    obtain ⟨a, xs, rfl, p, r⟩ := listOf_plain ok rv hv
    obtain ⟨y, ry, hy⟩ := r.item hu
    obtain ⟨ops, hs⟩ := hs (.ref a) (.int k t)
    refine tail_any p.isList.typeIs slot_list_getitem.lookup (getItem_listI p ?_ hy (here ok q ry)) hs
    have := r.length; have h2 : xs.size = xs.toList.length := by simp
    omega
  cases v with
  | lst vs => exact lists vs rfl h
  | tup vs =>
    obtain ⟨hl, u, hu, q⟩ := h
    simp only [VRe] at rv
    obtain ⟨a, xs, rfl, _, p, r⟩ := rv
    obtain ⟨y, ry, hy⟩ := r.item hu
    obtain ⟨ops, hs⟩ := hs (.ref a) (.int k t)
    obtain ⟨n, g⟩ := id p
    refine tail_any (T := "tuple") ⟨_, g, rfl⟩ slot_tuple_getitem.lookup (getItem_tupI p ?_ hy (here ok q ry)) hs
    have := r.length; have h2 : xs.size = xs.toList.length := by simp
    omega
  | ref a =>
    change (match hp a with | some (.dict es _) => ∃ v, eAt es k = some v ∧ Q v hp | some (.lst vs) => vs.length ≤ lim ∧ ∃ v, itemAt vs k = some v ∧ Q v hp | _ => False) at h
    cases o : hp a with
    | none => rw [o] at h; exact h.elim
    | some ob =>
      rw [o] at h
      cases ob with
      | lst vs => exact lists vs (listOf_ref o) h
      | dict es ep =>
        obtain ⟨u, hu, q⟩ := h
        simp only [VRe] at rv
        subst rv
        obtain ⟨kvs, hd, er⟩ := ok.obj a _ o
        replace hd := hd.dictOf
        obtain ⟨y, hy, ry⟩ := er.at hu
        obtain ⟨ops, hs⟩ := hs (.ref a) (.int k t)
        exact tail_any hd.mapOf.typeIs slot_dict_getitem.lookup (wpAny_getItem_of (intKind_is _ _ _ _) hd.mapOf hy (hereT ok q ry)) hs
      | _ => exact h.elim
  | _ => exact h.elim
theorem Sim.item {value slice : Expr} {pos : Pos} {dv di : DE} (hv : SimE P Fl d sc value dv) (hi : SimE P Fl d sc slice di) (hs : ∀ o i, ∃ ops, subscripted slice false o i = operate ops (getItem o i)) : SimE P Fl d sc (.Subscript value slice pos) (dBin bItem dv di) := by
  intro A env s Q X loc hp stk rm hs' ev ok h
  refine Subscript_ ?_
  refine (hv A env s _ X loc hp stk rm hs' ev ok h).thn fun a hp1 s1 e1 ok1 hq  => ?_
  obtain ⟨v, q1, r1⟩ := hq
  refine wpAny_mono (hi A env s1 _ X loc hp1 stk rm hs' (ev.step ok e1) ok1 q1) (fun y s2 hq  => ?_) fun _ _ z => z.back P e1
  obtain ⟨hp2, e2, ok2, u, q2, r2⟩ := hq
  exact T.nxt (e1.trans e2) (item_core ok2 (VR_step e2 r1) r2 q2 hs)
noncomputable def SimO (P : Par) (Fl : Fly) (d : Nat) (sc : Scope) (e : Option Expr) (D : DE) : Prop :=
  ∀ (A : Around) (env : Env) (s : Shared) (Q : V → Hp → Prop) (X : XA) (loc : Loc) (hp : Hp) (stk : Addr → Prop),
    Room d A → env.scope = sc → EnvOk P A stk hp env loc s → HeapOk P stk hp s → D Q X loc hp →
    T P no1 stk A (evalPart e env) hp s (PV P stk Q) (lX Fl X)
theorem SimO.some {e : Expr} {D : DE} (h : SimE P Fl d sc e D) : SimO P Fl d sc (some e) D := h
theorem SimO.none : SimO P Fl d sc Option.none (dCon .none) := fun A env s Q X loc hp stk rm hs ev ok hD => wpAny_pure (here ok hD vNone)
noncomputable def partOf : V → Option (Option Int)
  | .none => some Option.none
  | .int i => some (some i)
  | _ => Option.none
noncomputable def cutV (vs : List V) (lo hi st : Option Int) : List V := let (a, b, c) := sliceBounds lo hi st vs.length; (sliceRange a b c).filterMap (vs[·]?)
theorem VRs.cut {F : Addr → Prop} {h : Heap} {vs : List V} {xs : Array Value} {lo hi st : Option Int} (r : VRs P.nm F h vs xs.toList) : VRs P.nm F h (cutV vs lo hi st) (slicePick xs lo hi st).toList := by
  have hl := r.length
  have hz : xs.size = vs.length := by rw [← hl]; simp
  unfold cutV slicePick
  rw [hz]
  simp only []
  generalize sliceRange _ _ _ = is
  induction is with
  | nil => simp [VRse]
  | cons i is ih =>
    cases hv : vs[i]? with
    | none =>
      have : xs[i]? = Option.none := by
        rw [Array.getElem?_eq_none_iff, hz]; exact List.getElem?_eq_none_iff.mp hv
      simp only [List.filterMap_cons, hv, this]
      exact ih
    | some v =>
      obtain ⟨y, e, p⟩ := r.get hv
      have e' : xs[i]? = some y := by simpa using e
      simp only [List.filterMap_cons, hv, e', VRse]
      exact ⟨y, _, rfl, p, ih⟩
noncomputable def bCut (o l u st : V) (Q : V → Hp → Prop) (hp : Hp) : Prop := ∃ vs lo hi k, listOf hp o = some vs ∧ vs.length ≤ lim ∧ partOf l = some lo ∧ partOf u = some hi ∧ partOf st = some k ∧ k ≠ some 0 ∧ Q (.lst (cutV vs lo hi k)) hp
noncomputable def dCut (o l u st : DE) : DE := fun Q X loc hp => o (fun ov hp1 => l (fun lv hp2 => u (fun uv hp3 => st (fun kv hp4 => bCut ov lv uv kv Q hp4) X loc hp3) X loc hp2) X loc hp1) X loc hp
theorem isPart_of {F : Addr → Prop} {h : Heap} {v : V} {x : Value} {o : Option Int} (r : Mine.VR P.nm F h v x) (e : partOf v = some o) : IsPart x o := by
  cases v <;> first | (cases e; done) | skip
  · simp only [VRe] at r; subst r; cases e; exact .none
  · simp only [VRe] at r; obtain ⟨t, rfl⟩ := r; cases e; exact .int _ _
theorem Sim.cut {value : Expr} {lo hi st : Option Expr} {p pos : Pos} {dv dl du dk : DE} (hv : SimE P Fl d sc value dv) (hl : SimO P Fl d sc lo dl) (hu : SimO P Fl d sc hi du) (hk : SimO P Fl d sc st dk)
    (hs : ∀ o i, ∃ ops, subscripted (.Slice lo hi st p) false o i = operate ops (getItem o i)) : SimE P Fl d sc (.Subscript value (.Slice lo hi st p) pos) (dCut dv dl du dk) := by
  intro A env s Q X loc hp stk rm hs' ev ok h
  refine Subscript_ ?_
  refine (hv A env s _ X loc hp stk rm hs' ev ok h).thn fun x hp1 s1 e1 ok1 hq  => ?_
  obtain ⟨v, q1, r1⟩ := hq
  refine wpAny_Slice ?_
  refine wpAny_mono (hl A env s1 _ X loc hp1 stk rm hs' (ev.step ok e1) ok1 q1) (fun yl s2 hq  => ?_) fun _ _ z => z.back P e1
  obtain ⟨hp2, e2, ok2, vl, q2, r2⟩ := hq
  have e12 := e1.trans e2
  refine wpAny_mono (hu A env s2 _ X loc hp2 stk rm hs' (ev.step ok e12) ok2 q2) (fun yu s3 hq  => ?_) fun _ _ z => z.back P e12
  obtain ⟨hp3, e3, ok3, vu, q3, r3⟩ := hq
  have e13 := e12.trans e3
  refine wpAny_mono (hk A env s3 _ X loc hp3 stk rm hs' (ev.step ok e13) ok3 q3) (fun yk s4 hq  => ?_) fun _ _ z => z.back P e13
  obtain ⟨hp4, e4, ok4, vk, ⟨vs, lo', hi', k', h1, hn, h2, h3, h4, h0, q4⟩, r4⟩ := hq
  have e14 := e13.trans e4
  have pl := isPart_of r2 h2
  have pu := isPart_of r3 h3
  have pk := isPart_of r4 h4
  obtain ⟨a, xs, rfl, pp, rr⟩ := listOf_plain ok4 (VR_step (e2.trans (e3.trans e4)) r1) h1
  let sl : Obj := { cls := .type "slice", data := .fields #[yl, yu, yk] }
  have g5 : ∀ b o, s4.heap.get? b = some o → (s4.heap.push sl).get? b = some o := fun b o e => Heap.get?_push_of_some _ e
  have ok5 : HeapOk P stk hp4 { s4 with heap := s4.heap.push sl } := ok4.grow (tk := s4.toks) g5
  have e5 : Ext no1 stk hp4 s4 hp4 { s4 with heap := s4.heap.push sl } := Ext.grow (stk := stk) (tk := s4.toks) g5
  obtain ⟨ops, hs⟩ := hs (.ref a) (.ref s4.heap.objs.size)
  have pp' := pp.at (h' := s4.heap.push sl) fun o g => g5 _ _ g
  refine tail_any (Heap.IsList.typeIs (s := { s4 with heap := s4.heap.push sl }) pp'.isList) slot_list_getitem.lookup (wpAny_getItem_list_slice pp'.isList (Heap.IsSliceOf.new ..) pl pu pk h0 ?_ ?_) hs
  · exact (newFrozen (tk := s4.toks) ok5 (VRs_grow g5 rr.cut) q4).back P (e14.trans e5)
  · have := rr.length; have h2 : xs.size = xs.toList.length := by simp
    have := lim_le
    omega
end Mine
namespace Mine
variable {P : Par} {Fl : Fly} {d : Nat} {sc : Scope} {ex : Nat → Value}
theorem EnvOk.around {A A' : Around} {stk : Addr → Prop} {hp : Hp} {env : Env} {loc : Loc} {s : Shared} (ev : EnvOk P A stk hp env loc s) (h : A'.frames = A.frames) : EnvOk P A' stk hp env loc s :=
  ⟨ev.kind, ev.glob, ev.blt, ev.ns, ev.cell, ev.stkL, ev.stkC, ev.cells, ev.apart, ev.apartL, ev.frs.around h, (by obtain ⟨e0, r, a, b⟩ := ev.top; exact ⟨e0, r, h.trans a, b⟩)⟩
noncomputable def NameIs (P : Par) (sc : Scope) (e : Expr) (c : Value) : Prop :=
  ∀ (A : Around) (env : Env) (s : Shared) (loc : Loc) (hp : Hp) (stk : Addr → Prop) (Q : Value → Shared → Prop) (E : Value → Shared → Prop), env.scope = sc → EnvOk P A stk hp env loc s → HeapOk P stk hp s → Q c s → wpAny P.M A (eval e env) Q E s
theorem NameIs.glob {mg mb : Str → Option Value} (tp : TopOk P mg mb) {x : Str} {pos : Pos} {v : Value} (hk : sc.names.lookup x = some .globalImplicit) (hd : (x == ("__debug__" : Str)) = false) (hv : mg x = some v) : NameIs P sc (.Name x pos) v := by
  intro A env s loc hp stk Q E hs ev ok hq
  refine wpAny_Name ?_ hd
  have hkind : env.kindOf x = some .globalImplicit := by rw [← hk, ← hs]; rfl
  rw [loadName_read ev.kind hkind]
  refine loadGlobal_global (mg := mg) ?_ hv hq
  rw [ev.glob]; exact tp.g.keeps ok.base
theorem NameIs.built {mg mb : Str → Option Value} (tp : TopOk P mg mb) {x : Str} {pos : Pos} {v : Value} (hk : sc.names.lookup x = some .globalImplicit) (hd : (x == ("__debug__" : Str)) = false) (hm : mg x = Option.none) (hv : mb x = some v) : NameIs P sc (.Name x pos) v := by
  intro A env s loc hp stk Q E hs ev ok hq
  refine wpAny_Name ?_ hd
  have hkind : env.kindOf x = some .globalImplicit := by rw [← hk, ← hs]; rfl
  rw [loadName_read ev.kind hkind]
  refine loadGlobal_builtin (mg := mg) (mb := mb) ?_ hm ?_ hv hq
  · rw [ev.glob]; exact tp.g.keeps ok.base
  · rw [ev.blt]; exact tp.b.keeps ok.base
noncomputable def Mat (P : Par) (cls c : Value) : Prop :=
  ∀ (A : Around) (s : Shared) (ea : Addr) (tr : Option Addr) (fl : Value) (Q : Bool → Shared → Prop) (E : Value → Shared → Prop), (∀ b o, P.H₀.get? b = some o → s.heap.get? b = some o) → ExcAt cls ea tr fl s.heap → Q true s → wpAny P.M A (excMatches (.ref ea) c) Q E s
theorem Mat.built {X T : String} (hexc : isSubtype (.type T) (.type "BaseException") = pure true) (hnt : isSubtype (.type ((Manifest.find? T).elim "type" fun x => x.metatype)) (.type "tuple") = pure false) (hsub : isSubtype (.type X) (.type T) = pure true) : Mat P (.type X) (.type T) := by
  intro A s ea tr fl Q E hb x q
  obtain ⟨oe, vs, a0, g, hc, _⟩ := x
  exact wpAny_excMatches_type ⟨oe, g, hc⟩ hexc hnt hsub q
theorem Mat.own {x : Str} {C : Addr} {bm : List Value} {newId : String} {mg : Str → Option Value} (O : OwnCls x C bm newId mg P.H₀) (hb : bm.contains (.type "BaseException") = true) : Mat P (.ref C) (.ref C) := by
  intro A s ea tr fl Q E hk z q
  obtain ⟨oe, vs, a0, g, hc, _⟩ := z
  obtain ⟨tl, N, nm, qn, bs, hdct, sn, sub, ab, col, dd, k0, k1, k2, k3, k5, mN, hC, hN, hni, TL⟩ := (O.keeps hk).obj
  obtain ⟨hh, gg, dr, t, os⟩ := s
  exact wpAny_excMatches_sub_self hC g hc (TL.hasType hb) q
theorem Room.zero {A : Around} (r : Room d A) (h : Option Value) : Room 0 (A.mark h) := ⟨by have := r.depth; show A.depth + 0 < _; lia, by have := r.units; show A.units + 8 * 0 + 128 < _; lia, fun z => absurd z (Nat.lt_irrefl _)⟩
noncomputable def sTry (k0 : Nat) (b h : DS) : DS := fun Q X loc hp => b Q (fun k loc' hp' => k = k0 ∧ h Q noX loc' hp') loc hp
theorem SimS.try {body suite : List Stmt} {b₀ : Stmt} {x : Expr} {hpos pos : Pos} {k0 : Nat} {c : Value} {Db Dh : DS} (hb : SimSs P (flyK ex) d sc body Db) (hn : NameIs P sc x c) (hm : Mat P (ex k0) c) (hh : SimSs P (flyK ex) 0 sc (b₀ :: suite) Dh) :
    SimS P (flyK ex) d sc (.Try body [.ExceptHandler (some x) Option.none (b₀ :: suite) hpos] [] [] pos) (sTry k0 Db Dh) := by
  intro A env s Q X loc hp stk rm hs ev ok hD
  suffices key : ∀ (R : Flow → Shared → Prop) (E : Value → Shared → Prop), (∀ f s', PostT P (ownE env) stk hp s (QS P A stk env Q) f s' → R f s') → wpAny P.M A (exec (.Try body [.ExceptHandler (some x) Option.none (b₀ :: suite) hpos] [] [] pos) env) R E s from key _ _ fun _ _ z => z
  intro R E hR
  refine wpAny_Try_except (wpAny_mono (hb A env s _ _ loc hp stk rm hs ev ok hD) (fun f s1 hq => ?_) fun e s1 hq  => ?_)
  · obtain ⟨hp1, e1, ok1, w, loc1, ev1, q1, r1⟩ := hq
    revert q1
    refine FwR.inv r1 (fun q1 => ?_) (fun q1 => ?_) (fun q1 => ?_) (fun u y r1 q1 => ?_)
    · exact wpAny_execs_nil (hR _ _ ⟨hp1, e1, ok1, .next, loc1, ev1, q1, trivial⟩)
    · exact hR _ _ ⟨hp1, e1, ok1, .brk, loc1, ev1, q1, trivial⟩
    · exact hR _ _ ⟨hp1, e1, ok1, .cont, loc1, ev1, q1, trivial⟩
    · exact hR _ _ ⟨hp1, e1, ok1, .ret _, loc1, ev1, q1, r1⟩
  · obtain ⟨hp1, e1, ok1, k, loc1, ev1, ⟨hk, hx⟩, hf⟩ := hq
    obtain ⟨kk, hpk⟩ := k
    subst hk
    obtain ⟨ea, tr, rfl, hea, hT, rfl, xa⟩ := hf
    obtain ⟨e0, r0, hfr, hf0⟩ := ev1.top
    refine noteStep (own := no1) ev1.frs hfr hf0 ok1 hea hT xa fun T L h2 hpT e2 ok2 x2 => ?_
    refine flightStep (own := no1) ok2 x2 fun h3 e3 ok3 x3 => ?_
    have e13 := e2.trans e3
    have ev3 := ev1.step ok1 e13
    have evm : EnvOk P (A.mark (some (.ref ea))) stk _ env loc1 { s1 with heap := h3 } := ev3.around rfl
    refine wpAny_handleBy_cons (codeAny_handlers_test (hn _ env _ loc1 _ stk _ _ hs evm ok3 ?_)) (by intro q; cases q)
    refine hm _ _ ea (some T) .none _ _ ok3.base x3 (codeAny_handlers_suite ?_)
    refine flightStep (own := no1) (s := { s1 with heap := h3 }) ok3 x3 fun h4 e4 ok4 x4 => ?_
    obtain ⟨_, _, _, _, _, _, _, _, _, hTe, _⟩ := x4
    have ok5 := (ok4.drop T).drop ea
    have e5 : Ext no1 stk _ { s1 with heap := h4 } (del (del (hpE hpk ea (some T)) T) ea) { s1 with heap := h4 } := (Ext.drop (own := no1) (stk := stk) T).trans (Ext.drop (own := no1) (stk := stk) ea)
    have hdel : del (del (hpE hpk ea (some T)) T) ea = hpk := by
      simp only [hpE]
      rw [del_upd (by rw [upd_ne hTe]; exact hpT), del_upd hea]
    rw [hdel] at ok5 e5
    have eT := (e13.trans e4).trans e5
    have ev5 : EnvOk P (A.mark (some (.ref ea))) stk hpk env loc1 { s1 with heap := h4 } := (ev1.step ok1 eT).around rfl
    refine wpAny_mono (hh _ env _ _ noX loc1 hpk stk (rm.zero _) hs ev5 ok5 hx) (fun f s6 hq  => ?_) (by rintro _ _ ⟨_, _, _, _, _, _, z, _⟩; exact z.elim)
    obtain ⟨hp6, e6, ok6, w, loc6, ev6, q6, r6⟩ := hq
    exact hR _ _ ⟨hp6, (e1.trans eT.of1).trans e6, ok6, w, loc6, ev6.around rfl, q6, r6⟩
noncomputable def sRaise (k : Nat) (a : DEs) : DS := fun Q X loc hp => a (fun vs hp1 => vs.length ≤ lim ∧ X k loc hp1) (fun k hp' => X k loc hp') loc hp
theorem madeFly {own stk : Addr → Prop} {hp : Hp} {s : Shared} {h' : Heap} {e : Addr} {cls : Value} {args : List Value} {k : Nat} (ok : HeapOk P stk hp s) (hm : Heap.MadeExcOf s.heap h' e cls args) (hex : ex k = cls) :
    ∃ hp', Ext own stk hp s hp' { s with heap := h' } ∧ HeapOk P stk hp' { s with heap := h' } ∧ flyK ex (k, hp) (.ref e) hp' { s with heap := h' } := by
  obtain ⟨t, g, gt, g2⟩ := hm.there
  refine ⟨upd hp e .fld, Ext.track (tk := s.toks) hm.keeps hm.new, ok.track (tk := s.toks) hm.keeps hm.new ⟨_, _, g, rfl⟩, e, Option.none, rfl, (fz_of_new ok hm.new).1, fun T z => (nomatch z), rfl, _, _, .ref t, g, hex.symm, rfl, rfl, by simp, rfl⟩
theorem SimS.raise {x : Str} {np cpos pos : Pos} {es : List Expr} {k : Nat} {C : Addr} {B newId initId : String} {bm : List Value} {mg : Str → Option Value} {D : DEs} (hd : 0 < d) (hn : NameIs P sc (.Name x np) (.ref C)) (O : OwnCls x C bm newId mg P.H₀) (FB : ExcBaseFacts B newId initId bm) (hex : ex k = .ref C)
    (hr : SimR P (flyK ex) d sc cpos es D) (hplain : ∀ env, (backTo cpos (starEach es env)).any (·.1) = false) : SimS P (flyK ex) d sc (.Raise (some (.Call (.Name x np) es [] cpos)) Option.none pos) (sRaise k D) := by
  intro A env s Q X loc hp stk rm hs ev ok hD
  obtain ⟨tl, N, nm, q, bs, hdct, sn, sub, ab, col, dd, k0, k1, k2, k3, k5, mN, hC, hN, hni, TL⟩ := O.obj
  refine wpAny_Raise_call_subT (C := C) (nm := nm) (q := q) (N := N) (bs := bs) (bm := tl) (hdct := hdct) (sn := sn) (sub := sub) (ab := ab) (col := col) (dd := dd) (k0 := k0) (k1 := k1) (k2 := k2) (k3 := k3) (k5 := k5)
    FB (mN := mN) (TL.hasType FB.hasBase) (rm.hd hd) (hplain env) hni (hn A env s loc hp stk _ _ hs ev ok ⟨rfl, ?_⟩)
  refine wpAny_mono (hr (.ref C) A env s _ _ loc hp stk rm hs ev ok hD) (fun a s2 hq  => ?_) (by rintro e s1 ⟨hp1, e1, ok1, kk, hx, hf⟩; exact ⟨hp1, e1.of1, ok1, kk, loc, ev.step ok e1, hx, hf⟩)
  obtain ⟨hp2, e2, ok2, hkw, vs, ⟨hl, hx⟩, r⟩ := hq
  refine ⟨hkw, ?_, ok2.base _ _ hC, hN.keeps ok2.base, TL.keeps ok2.base, fun h' e hm => ?_⟩
  · have := r.length; have := lim_le; lia
  · obtain ⟨hp3, e3, ok3, f3⟩ := madeFly (own := no1) (k := k) ok2 hm hex
    exact ⟨hp3, (e2.trans e3).of1, ok3, (k, hp2), loc, ev.step ok (e2.trans e3), hx, f3⟩
theorem SimS.never {st : Stmt} : SimS P Fl d sc st (fun _ _ _ _ => False) := fun A env s Q X loc hp stk rm hs ev ok hD => hD.elim
end Mine
set_option maxRecDepth 4000
namespace Mine
variable {P : Par} {Fl : Fly} {d : Nat} {sc : Scope} {ex : Nat → Value}
noncomputable def notFn : V → Bool
  | .fn _ => false
  | _ => true
theorem handed {F : Addr → Prop} {h : Heap} {v : V} {y : Value} (r : Mine.VR P.nm F h v y) (n : notFn v = true) : handedIn y = true := by
  cases v <;> simp only [VRe] at r
  · subst r; rfl
  · subst r; rfl
  · obtain ⟨t, rfl⟩ := r; rfl
  · obtain ⟨t, rfl⟩ := r; rfl
  · obtain ⟨a, xs, rfl, _⟩ := r; rfl
  · obtain ⟨a, xs, rfl, _⟩ := r; rfl
  · obtain ⟨a, _, _, rfl, _⟩ := r; rfl
  · subst r; rfl
  · cases n
  · obtain ⟨a, _, _, _, rfl, _⟩ := r; rfl
  · obtain ⟨a, rfl, _⟩ := r; rfl
  · obtain ⟨a, rfl, _⟩ := r; rfl
theorem VRf.at {F : Addr → Prop} {h : Heap} : ∀ {fs : List (Nat × V)} {m : Str → Option Value} {i : Nat} {v : V}, VRf P.nm F h fs m → fs.lookup i = some v → ∃ y, m (P.nm i) = some y ∧ Mine.VR P.nm F h v y
  | (j, u) :: fs, m, i, v, r, e => by
    simp only [VRfe] at r
    rw [List.lookup_cons] at e
    cases q : i == j with
    | true => rw [q] at e; cases e; have : i = j := by simpa using q
              subst this; exact r.1
    | false => rw [q] at e; exact VRf.at r.2 e
structure ClsP (K : Frag) (C : Addr) : Prop where
  ga : findIn K (.ref C) "__getattribute__" = some (some (.builtin "object.__getattribute__"))
  sa : findIn K (.ref C) "__setattr__" = some (some (.builtin "object.__setattr__"))
  ov : plainOver K C = true
  gt : findIn K (.ref C) "__getattr__" = some Option.none
structure AtD (K : Frag) (C : Addr) (n : Str) : Prop extends ClsP K C where
  free : findIn K (.ref C) n = some Option.none
  hd : (clsIn K C).any (·.hasDict) = true
theorem lookIn_of {es : Array DictEntry} {m : Nat} {n : Str} {y : Value} {c : Value} (h : nsFind es n = some y) : lookIn n { cls := c, data := .dict es m } = some (some y) := by
  unfold nsFind findBy at h
  unfold lookIn
  dsimp only
  rw [Array.find?_toList]
  cases q : Array.find? (fun e => e.key.isStr n) es with
  | none => rw [q] at h; cases h
  | some e => rw [q] at h; cases h; rfl
theorem findObj_own {K : Frag} {C : Addr} {n : Str} (c : AtD K C n) {od : Obj} {y : Value} (h : lookIn n od = some (some y)) : findObj K C (some od) n = some (.value y) := by
  obtain ⟨cd, hc, hh⟩ := any_some c.hd
  unfold findObj
  rw [hc, Option.bind_some, c.free, Option.bind_some]
  simp only [Option.bind_some, W.ownOf, hh, if_true, h]
theorem getD {A : Around} {s : Shared} {a dd C : Addr} {m : Str → Option Value} {cc : Nat} {n : Str} {y : Value} {b : Bool} {Q : Value → Shared → Prop} {E : Value → Shared → Prop} (X : P.K.In s.heap) (c : AtD P.K C n) (ha : s.heap.get? a = some { cls := .ref C, dict := some dd }) (hn : NsP s.heap dd m cc) (hy : m n = some y) (hh : handedIn y = true)
    (q : Q y { s with toks := s.toks + 1 }) : wpAny P.M A (getAttr (.ref a) n b) Q E s := by
  obtain ⟨es, k, g, _, _, hf⟩ := hn
  exact get_value X ⟨ha, rfl, rfl, g⟩ c.ga (findObj_own c (lookIn_of ((hf n).trans hy))) hh q
noncomputable def bAttr (C : Addr) (i : Nat) : V → (V → Hp → Prop) → Hp → Prop := fun o Q hp => match o with
  | .ref a => ∃ dd fs v, hp a = some (.inst C dd) ∧ hp dd = some (.ns fs) ∧ fs.lookup i = some v ∧ notFn v = true ∧ Q v hp
  | .obj C' fs => C' = C ∧ ∃ v, fs.lookup i = some v ∧ notFn v = true ∧ Q v hp
  | _ => False
theorem attr_core {mg mb : Str → Option Value} (tp : TopOk P mg mb) {C : Addr} {i : Nat} (c : AtD P.K C (P.nm i)) {A : Around} {s : Shared} {hp : Hp} {stk : Addr → Prop} {v : V} {x : Value} {b : Bool} {Q : V → Hp → Prop} {X : XP} (ok : HeapOk P stk hp s) (r : P.VR stk hp s.heap v x) (h : bAttr C i v Q hp) :
    T P no1 stk A (getAttr x (P.nm i) b) hp s (PV P stk Q) X := by
  have X := tp.kin.keeps ok.base
  cases v <;> first | exact h.elim | skip
  · obtain ⟨rfl, u, hu, hn, q⟩ := h
    simp only [VRe] at r
    obtain ⟨a, dd, m, rfl, _, _, g, ns, rf, _⟩ := r
    obtain ⟨y, hy, ry⟩ := rf.at hu
    exact getD X c g ns hy (handed ry hn) (hereT ok q ry)
  · obtain ⟨dd, fs, u, h1, h2, hu, hn, q⟩ := h
    simp only [VRe] at r
    subst r
    have g := ok.obj _ _ h1
    obtain ⟨m, ns, rf, _⟩ := ok.obj _ _ h2
    obtain ⟨y, hy, ry⟩ := rf.at hu
    exact getD X c g ns hy (handed ry hn) (hereT ok q ry)
noncomputable def dAttr (f : V → (V → Hp → Prop) → Hp → Prop) (o : DE) : DE := fun Q X loc hp => o (fun v hp1 => f v Q hp1) X loc hp
theorem Sim.attr {mg mb : Str → Option Value} (tp : TopOk P mg mb) {C : Addr} {i : Nat} {n : Str} (hi : P.nm i = n) (c : AtD P.K C n) {o : Expr} {pos : Pos} {D : DE} (h : SimE P Fl d sc o D) (hb : ∀ env, attributeBase o n env (eval o env) = eval o env) : SimE P Fl d sc (.Attribute o n pos) (dAttr (bAttr C i) D) := by
  subst hi
  intro A env s Q X loc hp stk rm hs ev ok hD
  rw [T, arm_eval_Attribute, hb env]
  refine wpAny_bind ((h A env s _ X loc hp stk rm hs ev ok hD).thn fun x hp1 s1 e1 ok1 hq  => ?_)
  obtain ⟨v, q, r⟩ := hq
  refine wpAny_bind (wpAny_standAt (wpAny_bind (wpAny_holding (wpAny_mono (attr_core tp c (X := lX Fl X) ok1 r q) (fun y s2 z => ?_) fun _ _ z => z.back P e1))))
  exact wpAny_bind (wpAny_letTemporaryGo (wpAny_pure (z.back P e1)))
structure AtS (K : Frag) (C : Addr) (n : Str) (k : Nat) : Prop extends ClsP K C where
  p : ∃ p, (∀ od, findObj K C od n = some (.bind (.builtin "member_descriptor.__get__") (.ref p))) ∧ slotIn K p C = some k ∧ takerIn K C n = some (some (.ref p)) ∧ typeIn K (.ref p) = some (.type "member_descriptor")
  lt : k < 1000
theorem SR.at {F : Addr → Prop} {h : Heap} : ∀ {vs : List (Option V)} {xs : List (Option Value)} {k : Nat} {v : V}, SR P.nm F h vs xs → vs[k]? = some (some v) → ∃ y, xs[k]? = some (some y) ∧ Mine.VR P.nm F h v y
  | u :: vs, xs, 0, v, r, e => by
    simp only [SRe] at r
    obtain ⟨y, ys, rfl, p, q⟩ := r
    simp only [List.getElem?_cons_zero, Option.some.injEq] at e
    subst e
    cases y with
    | none => exact p.elim
    | some y => exact ⟨y, rfl, p⟩
  | u :: vs, xs, k + 1, v, r, e => by
    simp only [SRe] at r
    obtain ⟨y, ys, rfl, p, q⟩ := r
    simpa using SR.at q (by simpa using e)
noncomputable def bSlot (C : Addr) (k : Nat) : V → (V → Hp → Prop) → Hp → Prop := fun o Q hp => match o with
  | .ref a => ∃ vs v, hp a = some (.sl C vs) ∧ vs[k]? = some (some v) ∧ notFn v = true ∧ Q v hp
  | _ => False
theorem slot_core {mg mb : Str → Option Value} (tp : TopOk P mg mb) {C : Addr} {n : Str} {k : Nat} (c : AtS P.K C n k) {A : Around} {s : Shared} {hp : Hp} {stk : Addr → Prop} {v : V} {x : Value} {b : Bool} {Q : V → Hp → Prop} {X : XP} (ok : HeapOk P stk hp s) (r : P.VR stk hp s.heap v x) (h : bSlot C k v Q hp) :
    T P no1 stk A (getAttr x n b) hp s (PV P stk Q) X := by
  have X' := tp.kin.keeps ok.base
  obtain ⟨p, hf, hsl, _, _⟩ := c.p
  cases v <;> first | exact h.elim | skip
  obtain ⟨vs, u, h1, hu, hn, q⟩ := h
  simp only [VRe] at r
  subst r
  obtain ⟨xs, dd, od, g, fd, gd, sr⟩ := ok.obj _ _ h1
  obtain ⟨y, hy, ry⟩ := sr.at hu
  have I : InstAt s.heap _ _ C (some od) := ⟨g, rfl, rfl, gd⟩
  refine get_bind X' I c.ga (hf _) c.gt ?_
  refine wpAny_call (slot_get (s := { s with toks := s.toks + 1 }) X' I hsl (v := y) ?_ ?_)
  · show (xs[k]?).join = some y
    rw [← Array.getElem?_toList, hy]; rfl
  · show wpAny _ _ (handedOut y) _ _ _
    rw [handedOut_of (handed ry hn)]
    exact wpAny_pure (hereT ok q ry)
theorem Sim.slot {mg mb : Str → Option Value} (tp : TopOk P mg mb) {C : Addr} {n : Str} {k : Nat} (c : AtS P.K C n k) {o : Expr} {pos : Pos} {D : DE} (h : SimE P Fl d sc o D) (hb : ∀ env, attributeBase o n env (eval o env) = eval o env) : SimE P Fl d sc (.Attribute o n pos) (dAttr (bSlot C k) D) := by
  intro A env s Q X loc hp stk rm hs ev ok hD
  rw [T, arm_eval_Attribute, hb env]
  refine wpAny_bind ((h A env s _ X loc hp stk rm hs ev ok hD).thn fun x hp1 s1 e1 ok1 hq  => ?_)
  obtain ⟨v, q, r⟩ := hq
  refine wpAny_bind (wpAny_standAt (wpAny_bind (wpAny_holding (wpAny_mono (slot_core tp c (X := lX Fl X) ok1 r q) (fun y s2 z => ?_) fun _ _ z => z.back P e1))))
  exact wpAny_bind (wpAny_letTemporaryGo (wpAny_pure (z.back P e1)))
theorem setNs {M : Model} {A : Around} {s : Shared} {dd : Addr} {m : Str → Option Value} {c : Nat} {n : Str} {v : Value} {Q : Unit → Shared → Prop} {E : Value → Shared → Prop} (hn : NsP s.heap dd m c)
    (q : ∀ h', NsP h' dd (fun x => if x = n then some v else m x) (if (m n).isSome then c else c + 1) → Heap.SameBut dd s.heap h' → Q () { s with heap := h', toks := s.toks + 1 }) : wpAny M A (nsSet dd n v) Q E s := by
  obtain ⟨es, k, g, hz, hk, hf⟩ := hn
  have hany : es.any (·.refKey) = false := by
    rw [Array.any_eq_false']; intro e he; obtain ⟨n, t, h⟩ := hk e he; simp [DictEntry.refKey, h]
  unfold nsSet
  refine wpAny_bind (wpAny_bind (wpAny_askSetting (wpAny_pure (wpAny_bind (wpAny_mkText (wpAny_bind (wpAny_loadPart g ?_)))))))
  dsimp only
  rw [aRefKeyMayBeTheName_at, hany, Bool.and_false, if_neg (by decide)]
  refine wpAny_updatePart g (q _ ?_ (Heap.SameBut.update ..))
  have fi := findBy_of_findIdx? (fun (n : Str) v => v.isStr n) es n
  cases hi : es.findIdx? (·.key.isStr n) with
  | some i =>
    have hs : (m n).isSome = true := by
      rw [← hf n]
      show (findBy (fun (n : Str) v => v.isStr n) es n).isSome = true
      rw [fi, hi]
      have := (Array.findIdx?_eq_some_iff_getElem.mp hi).1
      simp [this]
    rw [if_pos hs]
    refine ⟨_, k, Heap.get?_update_self _ g (by simp only [Obj.putName_eq, Obj.putNameByArray, hi]; rfl) |>.trans (by simp only [Obj.putName_eq, Obj.putNameByArray, hi]; rfl), by rw [Array.size_modify]; exact hz, hk.modify _ _, fun x => ?_⟩
    show _ = if x = n then some v else m x
    rw [← hf]; exact findBy_modify (fun n v => v.isStr n) Value.isStr_inj es n x v i hi
  | none =>
    have hs : (m n).isSome = false := by
      rw [← hf n]
      show (findBy (fun (n : Str) v => v.isStr n) es n).isSome = false
      rw [fi, hi]; rfl
    rw [hs]
    refine ⟨_, k + 1, Heap.get?_update_self _ g (by simp only [Obj.putName_eq, Obj.putNameByArray, hi]; rfl) |>.trans (by simp only [Obj.putName_eq, Obj.putNameByArray, hi]; rfl), by rw [Array.size_push]; simpa using hz, hk.push _ _ _ _, fun x => ?_⟩
    show _ = if x = n then some v else m x
    rw [← hf]
    exact findBy_push (fun n v => v.isStr n) es n x _ _ v (fun y => by
      show (n == y) = decide (y = n)
      by_cases h : y = n
      · subst h; simp
      · have : ¬ n = y := fun e => h e.symm
        simp [h, this]) hi
noncomputable def fSet (fs : List (Nat × V)) (i : Nat) (v : V) : List (Nat × V) := if fs.any (fun p => decide (p.1 = i)) then fs.map (fun p => if p.1 = i then (p.1, v) else p) else fs ++ [(i, v)]
theorem VRf.set (inj : ∀ i j, P.nm i = P.nm j → i = j) {F : Addr → Prop} {h : Heap} {i : Nat} {v : V} {y : Value} (hv : Mine.VR P.nm F h v y) : ∀ {fs : List (Nat × V)} {m : Str → Option Value}, VRf P.nm F h fs m → VRf P.nm F h (fs.map (fun p => if p.1 = i then (p.1, v) else p)) (fun x => if x = P.nm i then some y else m x)
  | [], m, _ => by simp only [List.map_nil, VRfe]
  | (j, u) :: fs, m, r => by
    simp only [VRfe] at r
    simp only [List.map_cons]
    by_cases hj : j = i
    · simp only [hj, if_true, VRfe]
      exact ⟨⟨y, rfl, hv⟩, VRf.set inj hv r.2⟩
    · simp only [hj, if_false, VRfe]
      refine ⟨?_, VRf.set inj hv r.2⟩
      obtain ⟨z, e, q⟩ := r.1
      exact ⟨z, by rw [if_neg (fun e => hj (inj _ _ e))]; exact e, q⟩
theorem VRf.add (inj : ∀ i j, P.nm i = P.nm j → i = j) {F : Addr → Prop} {h : Heap} {i : Nat} {v : V} {y : Value} (hv : Mine.VR P.nm F h v y) : ∀ {fs : List (Nat × V)} {m : Str → Option Value}, VRf P.nm F h fs m → fs.any (fun p => decide (p.1 = i)) = false → VRf P.nm F h (fs ++ [(i, v)]) (fun x => if x = P.nm i then some y else m x)
  | [], m, _, _ => by simp only [List.nil_append, VRfe]; exact ⟨⟨y, by simp, hv⟩, trivial⟩
  | (j, u) :: fs, m, r, a => by
    simp only [VRfe] at r
    simp only [List.any_cons, Bool.or_eq_false_iff, decide_eq_false_iff_not] at a
    simp only [List.cons_append, VRfe]
    refine ⟨?_, VRf.add inj hv r.2 a.2⟩
    obtain ⟨z, e, q⟩ := r.1
    exact ⟨z, by rw [if_neg (fun e => a.1 (inj _ _ e))]; exact e, q⟩
theorem nsR_set (inj : ∀ i j, P.nm i = P.nm j → i = j) {F : Addr → Prop} {h h' : Heap} {dd : Addr} {i : Nat} {v : V} {y : Value} {fs : List (Nat × V)} {m : Str → Option Value} (hv : Mine.VR P.nm F h' v y) (rf : VRf P.nm F h' fs m) (cov : ∀ n z, m n = some z → ∃ p ∈ fs, P.nm p.1 = n)
    (hn : NsP h' dd (fun x => if x = P.nm i then some y else m x) (if (m (P.nm i)).isSome then fs.length else fs.length + 1)) : OR P.nm P.prog P.w F h' dd (.ns (fSet fs i v)) := by
  refine ⟨fun x => if x = P.nm i then some y else m x, ?_, ?_, ?_⟩
  · have hl : (fSet fs i v).length = if (m (P.nm i)).isSome then fs.length else fs.length + 1 := by
      unfold fSet
      cases a : fs.any (fun p => decide (p.1 = i)) with
      | true =>
        obtain ⟨p, hp, e⟩ := List.any_eq_true.mp a
        have e' : p.1 = i := by simpa using e
        have : (m (P.nm i)).isSome = true := by
          clear hn cov hv
          induction fs with
          | nil => cases hp
          | cons q fs ih =>
            obtain ⟨j, u⟩ := q
            simp only [VRfe] at rf
            rcases List.mem_cons.mp hp with z | z
            · subst z; obtain ⟨y', e2, _⟩ := rf.1; simp only at e'; subst e'; rw [e2]; rfl
            · exact ih rf.2 (List.any_eq_true.mpr ⟨p, z, e⟩) z
        simp [this]
      | false =>
        have : (m (P.nm i)).isSome = false := by
          cases q : m (P.nm i) with
          | none => rfl
          | some z =>
            obtain ⟨p, hp, e⟩ := cov _ _ q
            have := List.any_eq_false.mp a p hp
            simp only [decide_eq_true_eq] at this
            exact absurd (inj _ _ e) this
        simp [this]
    rw [hl]; exact hn
  · unfold fSet
    cases a : fs.any (fun p => decide (p.1 = i)) with
    | true => simpa using rf.set inj hv
    | false => simpa using rf.add inj hv a
  · intro n z hz
    by_cases q : n = P.nm i
    · subst q
      unfold fSet
      cases a : fs.any (fun p => decide (p.1 = i)) with
      | true =>
        obtain ⟨p, hp, e⟩ := List.any_eq_true.mp a
        have e' : p.1 = i := by simpa using e
        exact ⟨(p.1, v), by simp only [if_true]; exact List.mem_map.mpr ⟨p, hp, by simp [e']⟩, by rw [e']⟩
      | false => exact ⟨(i, v), by simp, rfl⟩
    · have hz : m n = some z := by rw [← hz]; exact (if_neg q).symm
      obtain ⟨p, hp, e⟩ := cov _ _ hz
      have ne : p.1 ≠ i := fun z => q (by rw [← e, z])
      unfold fSet
      cases a : fs.any (fun p => decide (p.1 = i)) with
      | true => exact ⟨p, by simp only [if_true]; exact List.mem_map.mpr ⟨p, hp, by simp [ne]⟩, e⟩
      | false => exact ⟨p, by simp [hp], e⟩
theorem setD {A : Around} {s : Shared} {a dd C : Addr} {m : Str → Option Value} {cc : Nat} {n : Str} {y : Value} {Q : Unit → Shared → Prop} {E : Value → Shared → Prop} (X : P.K.In s.heap) (c : AtD P.K C n) (ha : s.heap.get? a = some { cls := .ref C, dict := some dd }) (hn : NsP s.heap dd m cc) (hc : cc ≤ 1000)
    (q : ∀ h' tk, NsP h' dd (fun x => if x = n then some y else m x) (if (m n).isSome then cc else cc + 1) → Heap.SameBut dd s.heap h' → Q () { s with heap := h', toks := tk }) : wpAny P.M A (setAttr (.ref a) n y) Q E s := by
  obtain ⟨es, k, g, hz, hk, hf⟩ := id hn
  have I : InstAt s.heap a _ C (some _) := ⟨ha, rfl, rfl, g⟩
  obtain ⟨cd, hcd, hh⟩ := any_some c.hd
  refine set_plain X I c.sa ?_
  have ht : takerIn P.K C n = some Option.none := by unfold takerIn; rw [c.free]; rfl
  refine osa_open (s := { s with toks := s.toks + 1 }) X I c.ov ht fun b => ?_
  refine wpAny_bind (wpAny_pure (wpAny_bind (wpAny_bind (wpAny_loadPart ha (wpAny_bind ((looks_clsIn (M := P.M) (h := ({ s with toks := s.toks + 1 } : Shared).heap) X hcd).here ?_))))))
  rw [hh]
  refine wpAny_pure (a := some dd) (wpAny_bind (wpAny_pure (wpAny_bind ?_)))
  refine setNs (s := { s with toks := s.toks + 1 }) hn fun h' hn' hs' => ?_
  obtain ⟨es', k', g', hz', _⟩ := id hn'
  refine wpAny_bind (wpAny_lookBehind g' (pastItsLine_dict ?_) (wpAny_pure (q h' _ hn' hs')))
  rw [sizeLine_eq]
  split at hz' <;> lia
noncomputable def bSetA (C : Addr) (i : Nat) : V → V → (Hp → Prop) → Hp → Prop := fun o v Q hp => match o with
  | .ref a => ∃ dd fs, hp a = some (.inst C dd) ∧ hp dd = some (.ns fs) ∧ fs.length ≤ 1000 ∧ Q (upd hp dd (.ns (fSet fs i v)))
  | _ => False
theorem setA_core (inj : ∀ i j, P.nm i = P.nm j → i = j) {mg mb : Str → Option Value} (tp : TopOk P mg mb) {C : Addr} {i : Nat} (c : AtD P.K C (P.nm i)) {A : Around} {s : Shared} {hp : Hp} {stk : Addr → Prop} {o v : V} {x y : Value} {Q : Hp → Prop} {X : XP} (ok : HeapOk P stk hp s) (ro : P.VR stk hp s.heap o x) (rv : P.VR stk hp s.heap v y) (h : bSetA C i o v Q hp) :
    T P no1 stk A (setAttr x (P.nm i) y) hp s (fun _ hp' s' => Q hp') X := by
  have X' := tp.kin.keeps ok.base
  cases o <;> first | exact h.elim | skip
  obtain ⟨dd, fs, h1, h2, hl, q⟩ := h
  simp only [VRe] at ro
  subst ro
  have g := ok.obj _ _ h1
  obtain ⟨m, ns, rf, cov⟩ := ok.obj _ _ h2
  refine setD X' c g ns hl fun h' tk hn' hs' => ?_
  have hdd : hp dd ≠ Option.none := by rw [h2]; intro z; cases z
  have ky : Keepy (Fz stk hp) (Fz stk (upd hp dd (.ns (fSet fs i v)))) s.heap h' := by
    rintro b ob ⟨e, n⟩ g
    have : b ≠ dd := by rintro rfl; exact hdd e
    exact ⟨⟨by rw [upd_ne this]; exact e, n⟩, (hs'.2 b this).trans g⟩
  refine ⟨upd hp dd (.ns (fSet fs i v)), Ext.change ok h2 hs' (by obtain ⟨es, k, g, _⟩ := hn'; exact ⟨_, g⟩), ok.change h2 hs' ?_, q⟩
  exact nsR_set inj (h := s.heap) (rv.keep ky) (rf.keep ky) cov hn'
end Mine
namespace Mine
open PySem PySem.W PySem.Calls PyProof.Rows PySem.Builtin PySem.Builtin.ObjectAttr PySem.Builtin.Getset_descriptor
variable {P : Par} {Fl : Fly} {d : Nat} {sc : Scope} {ex : Nat → Value}
noncomputable def putSl (i : Nat) (v : Value) (o : Obj) : Obj := { o with slots := (o.slots ++ Array.replicate (i + 1 - o.slots.size) none).setIfInBounds i (some v) }
theorem slotPut {A : Around} {K : Frag} {prog : Program} {w : World} {s : Shared} {x p C : Addr} {i : Nat} {ox : Obj} {od : Option Obj} {v : Value} {R : Result → Shared → Prop} (X : K.In s.heap) (I : InstAt s.heap x ox C od) (hp : slotIn K p C = some i) (hi : i < 1000)
    (h : R (.ok (.ret .none)) { s with heap := s.heap.update x (putSl i v) }) : codeAny (model prog w) A (.call (.builtin "member_descriptor.__set__") ⟨[.ref p, .ref x, v], []⟩) R s := by
  obtain ⟨n, tn, owner, behind, tb, dd, sl, cd, ho, hc, hm, hb, rfl⟩ := slot_of X hp
  obtain ⟨hh, g, dr, t, os⟩ := s
  have L0 := I.type (M := model prog w)
  have L1 := looks_mroIn (M := model prog w) X hm
  have L2 : Looks (model prog w) hh (Slots.slotNamesOf (.ref C)) cd.slotNames := (looks_clsIn X hc).andThen .now
  have hx := I.at_
  dsimp only at ho hx L0 L1
  have f0 := looks_field (M := model prog w) ho 0 (v := .str n tn) rfl
  have f1 := looks_field (M := model prog w) ho 1 (v := owner) rfl
  have f3 := looks_field (M := model prog w) ho 3 (v := .builtin "proto.slot#set") rfl
  have f4 := looks_field (M := model prog w) ho 4 (v := .int behind tb) rfl
  refine codeAny_call_builtin KF.slot_mset.plain KF.entry_mset (KF.slot_mset.check _ _ _ _ _ _ _ _ ⟨_, ho, rfl⟩ (KF.args_mset _ _ _) ?_)
  unfold Builtin.«member_descriptor.__set__» descrSet descrStoreThrough descrCheckInstance descrNameAndClass isInstance
  have f5 : Looks (model prog w) hh (descrItself (.ref p)) [.ref p] := ((Looks.ld (part := none) ho).andThen .now).andThen (Looks.of_pure (by kernel_rfl))
  repeat lk
  refine ⟨Code.quiet_builtin _ (by decide +kernel), codeAny_builtin KF.entry_slotset ?_⟩
  unfold Builtin.«proto.slot#set» Slots.target
  repeat lk
  rw [if_neg hb]
  refine wpAny_pure (wpAny_bind ?_)
  unfold setSlotAt
  dsimp only
  rw [if_neg (by rw [sizeLine_eq]; lia)]
  exact wpAny_updatePart hx (wpAny_pure h)
noncomputable def slSet (vs : List (Option V)) (k : Nat) (v : V) : List (Option V) := (vs ++ List.replicate (k + 1 - vs.length) Option.none).set k (some v)
theorem SR.length {F : Addr → Prop} {h : Heap} : ∀ {vs : List (Option V)} {xs : List (Option Value)}, SR P.nm F h vs xs → xs.length = vs.length
  | [], xs, r => by simp only [SRe] at r; subst r; rfl
  | u :: vs, xs, r => by
    simp only [SRe] at r
    obtain ⟨y, ys, rfl, p, q⟩ := r
    simp [SR.length q]
theorem SR.pad {F : Addr → Prop} {h : Heap} {n : Nat} : ∀ {vs : List (Option V)} {xs : List (Option Value)}, SR P.nm F h vs xs → SR P.nm F h (vs ++ List.replicate n Option.none) (xs ++ List.replicate n Option.none)
  | [], xs, r => by
    simp only [SRe] at r; subst r
    simp only [List.nil_append]
    induction n with
    | zero => simp [SRe]
    | succ n ih => simp only [List.replicate_succ, SRe]; exact ⟨_, _, rfl, trivial, ih⟩
  | u :: vs, xs, r => by
    simp only [SRe] at r
    obtain ⟨y, ys, rfl, p, q⟩ := r
    simp only [List.cons_append, SRe]
    exact ⟨y, _, rfl, p, SR.pad q⟩
theorem SR.put {F : Addr → Prop} {h : Heap} {v : V} {y : Value} (hv : Mine.VR P.nm F h v y) : ∀ {vs : List (Option V)} {xs : List (Option Value)} {k : Nat}, SR P.nm F h vs xs → SR P.nm F h (vs.set k (some v)) (xs.set k (some y))
  | [], xs, k, r => by simp only [SRe] at r; subst r; simp [SRe]
  | u :: vs, xs, 0, r => by
    simp only [SRe] at r
    obtain ⟨z, ys, rfl, p, q⟩ := r
    simp only [List.set_cons_zero, SRe]
    exact ⟨_, _, rfl, hv, q⟩
  | u :: vs, xs, k + 1, r => by
    simp only [SRe] at r
    obtain ⟨z, ys, rfl, p, q⟩ := r
    simp only [List.set_cons_succ, SRe]
    exact ⟨_, _, rfl, p, SR.put hv q⟩
noncomputable def bSetS (C : Addr) (k : Nat) : V → V → (Hp → Prop) → Hp → Prop := fun o v Q hp => match o with
  | .ref a => ∃ vs, hp a = some (.sl C vs) ∧ Q (upd hp a (.sl C (slSet vs k v)))
  | _ => False
theorem setS_core {mg mb : Str → Option Value} (tp : TopOk P mg mb) {C : Addr} {n : Str} {k : Nat} (c : AtS P.K C n k) (hset : Slot "member_descriptor" "__set__" "member_descriptor.__set__") {A : Around} {s : Shared} {hp : Hp} {stk : Addr → Prop} {o v : V} {x y : Value} {Q : Hp → Prop} {X : XP} (ok : HeapOk P stk hp s) (ro : P.VR stk hp s.heap o x) (rv : P.VR stk hp s.heap v y) (h : bSetS C k o v Q hp) :
    T P no1 stk A (setAttr x n y) hp s (fun _ hp' s' => Q hp') X := by
  have X' := tp.kin.keeps ok.base
  obtain ⟨p, hf, hsl, htk, hty⟩ := c.p
  cases o <;> first | exact h.elim | skip
  rename_i a
  obtain ⟨vs, h1, q⟩ := h
  simp only [VRe] at ro
  subst ro
  obtain ⟨xs, dd, od, g, fd, gd, sr⟩ := ok.obj _ _ h1
  have I : InstAt s.heap a _ C (some od) := ⟨g, rfl, rfl, gd⟩
  refine set_plain X' I c.sa ?_
  refine osa_descr (s := { s with toks := s.toks + 1 }) hset X' I c.ov htk hty ?_
  refine slotPut (s := { s with toks := s.toks + 1 }) X' I hsl c.lt ?_
  have sb : Heap.SameBut a s.heap (s.heap.update a (putSl k y)) := Heap.SameBut.update ..
  have g' : (s.heap.update a (putSl k y)).get? a = some { cls := .ref C, dict := some dd, slots := (xs ++ Array.replicate (k + 1 - xs.size) none).setIfInBounds k (some y) } := Heap.get?_update_self _ g rfl
  have ha : hp a ≠ Option.none := by rw [h1]; intro z; cases z
  have ky : Keepy (Fz stk hp) (Fz stk (upd hp a (.sl C (slSet vs k v)))) s.heap (s.heap.update a (putSl k y)) := by
    rintro b ob ⟨e, n⟩ g
    have : b ≠ a := by rintro rfl; exact ha e
    exact ⟨⟨by rw [upd_ne this]; exact e, n⟩, (sb.2 b this).trans g⟩
  refine ⟨upd hp a (.sl C (slSet vs k v)), Ext.change (tk := s.toks + 1) ok h1 sb ⟨_, g'⟩, HeapOk.change (tk := s.toks + 1) ok h1 sb ?_, q⟩
  show OR P.nm P.prog P.w _ (s.heap.update a (putSl k y)) a _
  refine ⟨(xs ++ Array.replicate (k + 1 - xs.size) none).setIfInBounds k (some y), dd, od, g', (ky _ _ fd gd).1, (ky _ _ fd gd).2, ?_⟩
  have hl := sr.length
  have hz : xs.size = vs.length := by rw [← hl]; simp
  rw [Array.toList_setIfInBounds, Array.toList_append, Array.toList_replicate, hz]
  exact SR.put (rv.keep ky) (SR.pad (sr.keep ky))
noncomputable def gSet (f : V → V → (Hp → Prop) → Hp → Prop) (o : DE) : DA := fun v Q X loc hp => o (fun ov hp1 => f ov v (fun hp2 => Q loc hp2) hp1) (fun k hp' => X k loc hp') loc hp
noncomputable def OkSet (P : Par) (n : Str) (f : V → V → (Hp → Prop) → Hp → Prop) : Prop :=
  ∀ (A : Around) (s : Shared) (hp : Hp) (stk : Addr → Prop) (o v : V) (x y : Value) (Q : Hp → Prop) (X : XP), HeapOk P stk hp s → P.VR stk hp s.heap o x → P.VR stk hp s.heap v y → f o v Q hp → T P no1 stk A (setAttr x n y) hp s (fun _ hp' s' => Q hp') X
noncomputable def OkGet (P : Par) (n : Str) (f : V → (V → Hp → Prop) → Hp → Prop) : Prop :=
  ∀ (A : Around) (s : Shared) (hp : Hp) (stk : Addr → Prop) (o : V) (x : Value) (b : Bool) (Q : V → Hp → Prop) (X : XP), HeapOk P stk hp s → P.VR stk hp s.heap o x → f o Q hp → T P no1 stk A (getAttr x n b) hp s (PV P stk Q) X
theorem OkSet.dict (inj : ∀ i j, P.nm i = P.nm j → i = j) {mg mb : Str → Option Value} (tp : TopOk P mg mb) {C : Addr} {i : Nat} {n : Str} (hi : P.nm i = n) (c : AtD P.K C n) : OkSet P n (bSetA C i) := by
  subst hi; exact fun A s hp stk o v x y Q X ok ro rv h => setA_core inj tp c ok ro rv h
theorem OkSet.slot {mg mb : Str → Option Value} (tp : TopOk P mg mb) {C : Addr} {n : Str} {k : Nat} (c : AtS P.K C n k) (hset : Slot "member_descriptor" "__set__" "member_descriptor.__set__") : OkSet P n (bSetS C k) := fun A s hp stk o v x y Q X ok ro rv h => setS_core tp c hset ok ro rv h
theorem OkGet.dict {mg mb : Str → Option Value} (tp : TopOk P mg mb) {C : Addr} {i : Nat} {n : Str} (hi : P.nm i = n) (c : AtD P.K C n) : OkGet P n (bAttr C i) := by
  subst hi; exact fun A s hp stk o x b Q X ok ro h => attr_core tp c ok ro h
theorem OkGet.slot {mg mb : Str → Option Value} (tp : TopOk P mg mb) {C : Addr} {n : Str} {k : Nat} (c : AtS P.K C n k) : OkGet P n (bSlot C k) := fun A s hp stk o x b Q X ok ro h => slot_core tp c ok ro h
theorem SimG.attr {n : Str} {f : V → V → (Hp → Prop) → Hp → Prop} (hf : OkSet P n f) {o : Expr} {pos : Pos} {D : DE} (h : SimE P Fl d sc o D) : SimG P Fl d sc (.Attribute o n pos) [] (gSet f D) := by
  intro A env s Q X loc hp stk v x rm hs ev ok r hD
  rw [T, arm_assign_Attribute]
  refine wpAny_bind (wpAny_holding (wpAny_mono (h A env s _ _ loc hp stk rm hs ev ok hD) (fun ov s1 hq  => ?_) (by rintro e s1 ⟨hp1, e1, ok1, kk, hx, hfl⟩; exact ⟨hp1, e1.of1, ok1, kk, loc, ev.step ok e1, hx, hfl⟩)))
  obtain ⟨hp1, e1, ok1, u, q, ru⟩ := hq
  refine wpAny_bind (wpAny_standAt (wpAny_bind (wpAny_holding (wpAny_mono (hf A s1 hp1 stk u v ov x _ (fun _ _ _ => False) ok1 ru (VR_step e1 r) q) (fun _ s2 hq  => ?_) (by rintro _ _ ⟨_, _, _, z⟩; exact z.elim)))))
  obtain ⟨hp2, e2, ok2, q2⟩ := hq
  exact wpAny_release ⟨hp2, (e1.trans e2).of1, ok2, loc, ev.step ok (e1.trans e2), q2⟩
noncomputable def sAug (g : V → (V → Hp → Prop) → Hp → Prop) (f : V → V → (Hp → Prop) → Hp → Prop) (b : B2) (o e : DE) : DS := fun Q X loc hp => o (fun ov hp1 => g ov (fun old hp2 => e (fun u hp3 => b old u (fun w hp4 => f ov w (fun hp5 => Q .next loc hp5) hp4) hp3) (fun k hp' => X k loc hp') loc hp2) hp1) (fun k hp' => X k loc hp') loc hp
theorem SimS.aug {n : Str} {g : V → (V → Hp → Prop) → Hp → Prop} {f : V → V → (Hp → Prop) → Hp → Prop} {b : B2} {op : Operator} (hg : OkGet P n g) (hf : OkSet P n f) (hb : OkB P Fl (inplaceOp op) b) {o e : Expr} {tpos pos : Pos} {Do De : DE} (ho : SimE P Fl d sc o Do) (he : SimE P Fl d sc e De) : SimS P Fl d sc (.AugAssign (.Attribute o n tpos) op e pos) (sAug g f b Do De) := by
  intro A env s Q X loc hp stk rm hs ev ok hD
  refine wpAny_AugAssign_AttributeAny (E2 ho rm hs ev ok hD fun ov x hp1 s1 e1 ev1 ok1 q1 r1 => ?_)
  refine wpAny_mono (hg A s1 hp1 stk ov x true _ (fun _ _ _ => False) ok1 r1 q1) (fun old s2 hq  => ?_) (by rintro _ _ ⟨_, _, _, z⟩; exact z.elim)
  obtain ⟨hp2, e2, ok2, ou, q2, r2⟩ := hq
  have e12 := e1.trans e2
  refine wpAny_mono (E2 (G := fun x s' => ∃ v hp1, Ext no1 stk hp2 s2 hp1 s' ∧ HeapOk P stk hp1 s' ∧ _ ∧ P.VR stk hp1 s'.heap v x) he rm hs (ev.step ok e12) ok2 q2 fun v x hp3 s3 e3 ev3 ok3 q3 r3 => ⟨v, hp3, e3, ok3, q3, r3⟩) (fun u s3 hq  => ?_) fun _ _ z => z.back P e12.of1
  obtain ⟨v, hp3, e3, ok3, q3, r3⟩ := hq
  have e13 := e12.trans e3
  refine wpAny_mono (hb A s3 _ (fun k hp' => False) hp3 stk ou v old u (rm.less (Nat.zero_le _)) ok3 (VR_step e3 r2) r3 q3) (fun w s4 hq  => ?_) (by rintro _ _ ⟨_, _, _, _, z, _⟩; exact z.elim)
  obtain ⟨hp4, e4, ok4, wv, q4, r4⟩ := hq
  have e14 := e13.trans e4
  refine wpAny_mono (hf A s4 hp4 stk ov wv x w _ (fun _ _ _ => False) ok4 (VR_step (e2.trans (e3.trans e4)) r1) r4 q4) (fun _ s5 hq  => ?_) (by rintro _ _ ⟨_, _, _, z⟩; exact z.elim)
  obtain ⟨hp5, e5, ok5, q5⟩ := hq
  exact ⟨hp5, (e14.trans e5).of1, ok5, .next, loc, ev.step ok (e14.trans e5), q5, trivial⟩
end Mine
namespace Mine
variable {P : Par} {Fl : Fly} {d : Nat} {sc : Scope} {ex : Nat → Value}
theorem VRs.set {F : Addr → Prop} {h : Heap} {v : V} {y : Value} (hv : Mine.VR P.nm F h v y) : ∀ {vs : List V} {xs : List Value} {k : Nat}, VRs P.nm F h vs xs → VRs P.nm F h (vs.set k v) (xs.set k y)
  | [], xs, k, r => by simp only [VRse] at r; subst r; simp [VRse]
  | u :: vs, xs, 0, r => by
    simp only [VRse] at r
    obtain ⟨z, ys, rfl, p, q⟩ := r
    simp only [List.set_cons_zero, VRse]
    exact ⟨_, _, rfl, hv, q⟩
  | u :: vs, xs, k + 1, r => by
    simp only [VRse] at r
    obtain ⟨z, ys, rfl, p, q⟩ := r
    simp only [List.set_cons_succ, VRse]
    exact ⟨_, _, rfl, p, VRs.set hv q⟩
theorem listChanged {own stk : Addr → Prop} {hp : Hp} {s : Shared} {a : Addr} {vs ws : List V} {h' : Heap} {tk : Nat} {ys : Array Value} (ok : HeapOk P stk hp s) (ha : hp a = some (.lst vs)) (sb : Heap.SameBut a s.heap h') (pl : h'.PlainList a ys)
    (r : Keepy (Fz stk hp) (Fz stk (upd hp a (.lst ws))) s.heap h' → VRs P.nm (Fz stk (upd hp a (.lst ws))) h' ws ys.toList) : Ext own stk hp s (upd hp a (.lst ws)) { s with heap := h', toks := tk } ∧ HeapOk P stk (upd hp a (.lst ws)) { s with heap := h', toks := tk } := by
  have ha' : hp a ≠ Option.none := by rw [ha]; intro z; cases z
  have ky : Keepy (Fz stk hp) (Fz stk (upd hp a (.lst ws))) s.heap h' := by
    rintro b ob ⟨e, n⟩ g
    have : b ≠ a := by rintro rfl; exact ha' e
    exact ⟨⟨by rw [upd_ne this]; exact e, n⟩, (sb.2 b this).trans g⟩
  exact ⟨Ext.change ok ha sb (by obtain ⟨n, g⟩ := pl; exact ⟨_, g⟩), ok.change ha sb ⟨ys, pl, r ky⟩⟩
theorem dictChanged {own stk : Addr → Prop} {hp : Hp} {s : Shared} {a : Addr} {es fs : List (Int × V)} {ep : Nat} {h' : Heap} {tk : Nat} {kvs : List (Int × Value)} (ok : HeapOk P stk hp s) (ha : hp a = some (.dict es ep)) (sb : Heap.SameBut a s.heap h') (dc : h'.DictOf (intKind P.prog P.w) a kvs)
    (r : ∀ ep', Keepy (Fz stk hp) (Fz stk (upd hp a (.dict fs ep'))) s.heap h' → ER P.nm (Fz stk (upd hp a (.dict fs ep'))) h' fs kvs) : ∃ ep', Ext own stk hp s (upd hp a (.dict fs ep')) { s with heap := h', toks := tk } ∧ HeapOk P stk (upd hp a (.dict fs ep')) { s with heap := h', toks := tk } := by
  have ha' : hp a ≠ Option.none := by rw [ha]; intro z; cases z
  obtain ⟨ep', dc'⟩ := dc.dictAt
  have ky : Keepy (Fz stk hp) (Fz stk (upd hp a (.dict fs ep'))) s.heap h' := by
    rintro b ob ⟨e, n⟩ g
    have : b ≠ a := by rintro rfl; exact ha' e
    exact ⟨⟨by rw [upd_ne this]; exact e, n⟩, (sb.2 b this).trans g⟩
  exact ⟨ep', Ext.change ok ha sb (by obtain ⟨o, _, g, _⟩ := dc'; exact ⟨o, g⟩), ok.change ha sb ⟨kvs, dc', r ep' ky⟩⟩
theorem setItem_plain {A : Around} {s : Shared} {l : Addr} {items : Array Value} {k : Int} {t : Tok} {v : Value} {Q : Unit → Shared → Prop} {E : Value → Shared → Prop} (hp : s.heap.PlainList l items) (h0 : 0 ≤ k) (hfit : k < 2 ^ 63) (hn : k < items.size)
    (hQ : ∀ h', h'.PlainList l (items.setIfInBounds k.toNat v) → Heap.SameBut l s.heap h' → Q () { s with heap := h' }) : wpAny P.M A (setItem (.ref l) (.int k t) v) Q E s := by
  obtain ⟨n, g⟩ := hp
  have hT : s.TypeIs (.ref l) "list" := ⟨_, g, rfl⟩
  unfold setItem
  try with_reducible refine wpAny_holding ?_
  first | refine wpAny_bind (wpAny_pure ?_) | skip
  refine wpAny_bind (wpAny_sequenceKey hT (by decide) ?_)
  refine wpAny_bind (wpAny_callSpecial?_slot (name := Str.ofString "__setitem__") hT slot_list_setitem (wpAny_call_entry slot_list_setitem hT entry_list_setitem ?_ (args_list_setitem _ _ _)))
  show wpAny _ _ (Builtin.List.listSubscript? (.int k t) >>= _) _ _ s
  refine wpAny_bind (wpAny_listSubscript_int (fitsIndex_of h0 hfit) ?_)
  clear hfit
  obtain ⟨j, rfl⟩ := Int.eq_ofNat_of_zero_le h0
  have hj : j < items.size := by lia
  show wpAny _ _ ((seqItemAt l j >>= fun r => pure (r.map (j, ·))) >>= _) _ _ s
  refine wpAny_bind (wpAny_bind (wpAny_seqItemAt g rfl (wpAny_pure ?_)))
  rw [Array.getElem?_eq_getElem hj]
  show wpAny _ _ (setSeqItemAt l j v >>= _) _ _ s
  have hfin : (s.heap.update l (Obj.mapSeq (·.setIfInBounds j v))).PlainList l (items.setIfInBounds j v) := ⟨_, IsL.update (n := n) g _⟩
  refine wpAny_bind (wpAny_setSeqItemAt g rfl ?_)
  first
    | exact wpAny_bind (wpAny_pure (wpAny_pure ⟨.none, rfl, wpAny_pure (hQ _ hfin (Heap.SameBut.update ..))⟩))
    | exact wpAny_pure ⟨.none, rfl, wpAny_pure (hQ _ hfin (Heap.SameBut.update ..))⟩
noncomputable def bSetI (o i v : V) (Q : Hp → Prop) (hp : Hp) : Prop := ∃ a k, o = .ref a ∧ i = .int k ∧ match hp a with
  | some (.lst vs) => 0 ≤ k ∧ k < vs.length ∧ vs.length ≤ lim ∧ Q (upd hp a (.lst (vs.set k.toNat v)))
  | some (.dict es _) => es.length ≤ lim ∧ ∀ ep', Q (upd hp a (.dict (eSet es k v) ep'))
  | _ => False
theorem setI_core {A : Around} {s : Shared} {hp : Hp} {stk : Addr → Prop} {o i v : V} {x y z : Value} {Q : Hp → Prop} {X : XP} (ok : HeapOk P stk hp s) (ro : P.VR stk hp s.heap o x) (ri : P.VR stk hp s.heap i y) (rv : P.VR stk hp s.heap v z) (h : bSetI o i v Q hp) :
    T P no1 stk A (setItem x y z) hp s (fun _ hp' s' => Q hp') X := by
  obtain ⟨a, k, rfl, rfl, h⟩ := h
  simp only [VRe] at ro ri
  subst ro
  obtain ⟨t, rfl⟩ := ri
  cases ha : hp a with
  | none => rw [ha] at h; exact h.elim
  | some ob =>
    rw [ha] at h
    cases ob with
    | lst vs =>
      obtain ⟨h0, h1, hl, q⟩ := h
      obtain ⟨xs, ⟨n, g⟩, r⟩ := ok.obj _ _ ha
      have hz : xs.size = vs.length := by rw [← r.length]; simp
      unfold lim at hl
      have pl0 : s.heap.PlainList a xs := ⟨n, g⟩
      refine setItem_plain pl0 h0 (by lia) (by lia) fun h' pl sb => ?_
      obtain ⟨e, ok'⟩ := listChanged (own := no1) (tk := s.toks) (ws := vs.set k.toNat v) ok ha sb pl fun ky => by
        rw [Array.toList_setIfInBounds]; exact VRs.set (rv.keep ky) (r.keep ky)
      exact ⟨_, e, ok', q⟩
    | dict es ep =>
      obtain ⟨hl, q⟩ := h
      obtain ⟨kvs, hd, er⟩ := ok.obj _ _ ha
      replace hd := hd.dictOf
      refine wpAny_setItem_pairs (knd := intKind P.prog P.w) (k := k) (intKind_is _ _ _ _) hd (fun h' hd' sb => ?_) ?_
      · obtain ⟨ep', e, ok'⟩ := dictChanged (own := no1) (tk := s.toks + 1) (fs := eSet es k v) ok ha sb hd' fun ep' ky => ER.set (rv.keep ky) (er.keep ky)
        exact ⟨_, e, ok', q ep'⟩
      · have := er.length; have := lim_le; lia
    | _ => exact h.elim
noncomputable def gItem (o i : DE) : DA := fun v Q X loc hp => o (fun ov hp1 => i (fun iv hp2 => bSetI ov iv v (fun hp3 => Q loc hp3) hp2) (fun k hp' => X k loc hp') loc hp1) (fun k hp' => X k loc hp') loc hp
theorem SimG.item {o i : Expr} {pos : Pos} {Do Di : DE} (ho : SimE P Fl d sc o Do) (hi : SimE P Fl d sc i Di) : SimG P Fl d sc (.Subscript o i pos) [] (gItem Do Di) := by
  intro A env s Q X loc hp stk v x rm hs ev ok r hD
  rw [T, arm_assign_Subscript]
  refine wpAny_bind (wpAny_holding (wpAny_mono (ho A env s _ _ loc hp stk rm hs ev ok hD) (fun ov s1 hq  => ?_) (by rintro e s1 ⟨hp1, e1, ok1, kk, hx, hfl⟩; exact ⟨hp1, e1.of1, ok1, kk, loc, ev.step ok e1, hx, hfl⟩)))
  obtain ⟨hp1, e1, ok1, u, q, ru⟩ := hq
  refine wpAny_bind (wpAny_holding (wpAny_mono (hi A env s1 _ _ loc hp1 stk rm hs (ev.step ok e1) ok1 q) (fun iv s2 hq  => ?_) (by rintro e s2 ⟨hp2, e2, ok2, kk, hx, hfl⟩; exact ⟨hp2, (e1.trans e2).of1, ok2, kk, loc, ev.step ok (e1.trans e2), hx, hfl⟩)))
  obtain ⟨hp2, e2, ok2, w, q2, rw2⟩ := hq
  refine wpAny_bind (wpAny_standAt (wpAny_bind (wpAny_holding (wpAny_mono (setI_core (X := fun _ _ _ => False) ok2 (VR_step e2 ru) rw2 (VR_step (e1.trans e2) r) q2) (fun _ s3 hq  => ?_) (by rintro _ _ ⟨_, _, _, z⟩; exact z.elim)))))
  obtain ⟨hp3, e3, ok3, q3⟩ := hq
  have eT := (e1.trans e2).trans e3
  exact wpAny_release ⟨hp3, eT.of1, ok3, loc, ev.step ok eT, q3⟩
noncomputable def bDelI (o i : V) (Q : Hp → Prop) (hp : Hp) : Prop := ∃ a k es ep, o = .ref a ∧ i = .int k ∧ hp a = some (.dict es ep) ∧ es.length ≤ lim ∧ (eAt es k).isSome = true ∧ ∀ ep', Q (upd hp a (.dict (eDel es k) ep'))
noncomputable def sDel (o i : DE) : DS := fun Q X loc hp => o (fun ov hp1 => i (fun iv hp2 => bDelI ov iv (fun hp3 => Q .next loc hp3) hp2) (fun k hp' => X k loc hp') loc hp1) (fun k hp' => X k loc hp') loc hp
theorem delI_core {A : Around} {s : Shared} {hp : Hp} {stk : Addr → Prop} {o i : V} {x y : Value} {Q : Hp → Prop} {X : XP} (ok : HeapOk P stk hp s) (ro : P.VR stk hp s.heap o x) (ri : P.VR stk hp s.heap i y) (h : bDelI o i Q hp) :
    T P no1 stk A (delItem x y) hp s (fun _ hp' s' => Q hp') X := by
  obtain ⟨a, k, es, ep, rfl, rfl, ha, hl, hs, q⟩ := h
  simp only [VRe] at ro ri
  subst ro
  obtain ⟨t, rfl⟩ := ri
  obtain ⟨kvs, hd, er⟩ := ok.obj _ _ ha
  replace hd := hd.dictOf
  obtain ⟨v, hv⟩ := Option.isSome_iff_exists.mp hs
  obtain ⟨y, hy, _⟩ := er.at hv
  unfold T delItem
  refine wpAny_holding ?_
  refine wpAny_bind (wpAny_sequenceKey hd.typeIs (by decide) ?_)
  refine wpAny_bind (wpAny_callSpecial?_slot (name := Str.ofString "__delitem__") hd.typeIs PySem.F.slot_dict_delitem
    (call_meetsIn PySem.F.slot_dict_delitem hd.typeIs PySem.F.entry_dict_delitem (PySem.F.args_dict_delitem_2 _ _) (meets_dict_delitem_pairs (intKind P.prog P.w) a (k := k) (intKind_is _ _ _ _)) ⟨kvs, hd, ?_, by rw [hy]; rfl, fun h' hd' sb => ?_⟩))
  · have := er.length; have := lim_le; lia
  · obtain ⟨ep', e, ok'⟩ := dictChanged (own := no1) (tk := s.toks + 1) (fs := eDel es k) ok ha sb hd' fun ep' ky => ER.del (er.keep ky)
    exact wpAny_pure ⟨_, e, ok', q ep'⟩
theorem SimS.del {o i : Expr} {tp pos : Pos} {Do Di : DE} (ho : SimE P Fl d sc o Do) (hi : SimE P Fl d sc i Di) : SimS P Fl d sc (.Delete [.Subscript o i tp] pos) (sDel Do Di) := by
  intro A env s Q X loc hp stk rm hs ev ok hD
  refine wpAny_Delete (wpAny_deleteEach_cons (delete_Subscript (E2 ho rm hs ev ok hD fun ov x hp1 s1 e1 ev1 ok1 q1 r1 => ?_)))
  refine wpAny_mono (hi A env s1 _ _ loc hp1 stk rm hs ev1 ok1 q1) (fun iv s2 hq  => ?_) (by rintro e s2 ⟨hp2, e2, ok2, kk, hx, hfl⟩; exact ⟨hp2, (e1.trans e2).of1, ok2, kk, loc, ev.step ok (e1.trans e2), hx, hfl⟩)
  obtain ⟨hp2, e2, ok2, w, q2, rw2⟩ := hq
  refine wpAny_mono (delI_core (X := fun _ _ _ => False) ok2 (VR_step e2 r1) rw2 q2) (fun _ s3 hq  => ?_) (by rintro _ _ ⟨_, _, _, z⟩; exact z.elim)
  obtain ⟨hp3, e3, ok3, q3⟩ := hq
  have eT := (e1.trans e2).trans e3
  exact wpAny_deleteEach_nil ⟨hp3, eT.of1, ok3, .next, loc, ev.step ok eT, q3, trivial⟩
noncomputable def dFrz (i : Nat) : DE := fun Q _ loc hp => ∃ a us, loc i = some (.ref a) ∧ hp a = some (.lst us) ∧ Q (.lst us) (del hp a)
theorem Sim.frz {i : Nat} {x : Str} {pos : Pos} (hx : P.nm i = x) (hk : (match sc.names.lookup x with | some .local => true | some .cell => true | some .free => true | _ => false) = true)
    (hd : (x == ("__debug__" : Str)) = false) (hc : (x == ("__classdict__" : Str)) = false) : SimE P Fl d sc (.Name x pos) (dFrz i) := by
  rintro A env s Q X loc hp stk rm hs ev ok ⟨a, us, h1, h2, q⟩
  refine wpAny_mono (Sim.var (Fl := Fl) (d := d) hx hk hd hc A env s (fun v hp' => v = .ref a ∧ hp' = hp) X loc hp stk rm hs ev ok ⟨_, h1, rfl, rfl⟩) (fun y s1 hq  => ?_) fun _ _ z => z
  obtain ⟨hp1, e1, ok1, v, ⟨hv, hh⟩, r⟩ := hq
  subst hv hh
  simp only [VRe] at r
  subst r
  obtain ⟨xs, pl, rx⟩ := ok1.obj _ _ h2
  refine ⟨del hp1 a, e1.trans (Ext.drop a), ok1.drop a, .lst us, q, ?_⟩
  simp only [VRe]
  have ky : Keepy (Fz stk hp1) (Fz stk (del hp1 a)) s1.heap s1.heap := by
    rintro b ob ⟨e, n⟩ g
    refine ⟨⟨?_, n⟩, g⟩
    by_cases z : b = a
    · subst z; simp
    · rw [del_ne z]; exact e
  exact ⟨a, xs, rfl, ⟨by simp, ok1.apart a (by rw [h2]; intro z; cases z)⟩, pl, rx.keep ky⟩
end Mine
namespace Mine
variable {P : Par} {Fl : Fly} {d : Nat} {sc : Scope} {ex : Nat → Value}
noncomputable def isInst (C : Addr) (j : Nat) (hp : Hp) : V → Prop
  | .ref a => ∃ dd fs, hp a = some (.inst C dd) ∧ hp dd = some (.ns fs) ∧ (fs.all fun p => decide (p.1 ≠ j)) = true
  | .obj C' fs => C' = C ∧ (fs.all fun p => decide (p.1 ≠ j)) = true
  | _ => False
structure MthF (K : Frag) (C : Addr) (n : Str) (f : Addr) : Prop extends ClsP K C where
  fn : findIn K (.ref C) n = some (some (.ref f))
  ty : typeIn K (.ref f) = some (.type "function")
theorem lookIn_none {es : Array DictEntry} {m : Nat} {n : Str} {c : Value} (hk : StrKeys es) (h : nsFind es n = Option.none) : lookIn n { cls := c, data := .dict es m } = some Option.none := by
  unfold nsFind findBy at h
  unfold lookIn
  dsimp only
  rw [Array.find?_toList]
  cases q : Array.find? (fun e => e.key.isStr n) es with
  | some e => rw [q] at h; cases h
  | none =>
    have : es.toList.any (·.refKey) = false := by
      rw [List.any_eq_false]; intro e he; obtain ⟨n, t, h⟩ := hk e (by simpa using he); simp [DictEntry.refKey, h]
    simp only [this]; rfl
theorem instAt_of (inj : ∀ i j, P.nm i = P.nm j → i = j) {C : Addr} {j : Nat} {s : Shared} {hp : Hp} {stk : Addr → Prop} {v : V} {x : Value} (ok : HeapOk P stk hp s) (r : P.VR stk hp s.heap v x) (h : isInst C j hp v) :
    ∃ a ox od, x = .ref a ∧ InstAt s.heap a ox C (some od) ∧ lookIn (P.nm j) od = some Option.none := by
  have key : ∀ {dd : Addr} {fs : List (Nat × V)} {m : Str → Option Value} {c : Nat}, NsP s.heap dd m c → (∀ n y, m n = some y → ∃ p ∈ fs, P.nm p.1 = n) → (fs.all fun p => decide (p.1 ≠ j)) = true → ∃ od, s.heap.get? dd = some od ∧ lookIn (P.nm j) od = some Option.none := by
    rintro dd fs m c ⟨es, k, g, _, hk, hf⟩ cov hall
    refine ⟨_, g, lookIn_none hk ?_⟩
    rw [hf]
    cases q : m (P.nm j) with
    | none => rfl
    | some y =>
      obtain ⟨p, hp, e⟩ := cov _ _ q
      have := List.all_eq_true.mp hall p hp
      simp only [ne_eq, decide_not, Bool.not_eq_true', decide_eq_false_iff_not] at this
      exact absurd (inj _ _ e) this
  cases v <;> first | exact h.elim | skip
  · obtain ⟨rfl, hall⟩ := h
    simp only [VRe] at r
    obtain ⟨a, dd, m, rfl, _, _, g, ns, rf, cov⟩ := r
    obtain ⟨od, gd, hl⟩ := key ns cov hall
    exact ⟨a, _, od, rfl, ⟨g, rfl, rfl, gd⟩, hl⟩
  · obtain ⟨dd, fs, h1, h2, hall⟩ := h
    simp only [VRe] at r
    subst r
    have g := ok.obj _ _ h1
    obtain ⟨m, ns, rf, cov⟩ := ok.obj _ _ h2
    obtain ⟨od, gd, hl⟩ := key ns cov hall
    exact ⟨_, _, od, rfl, ⟨g, rfl, rfl, gd⟩, hl⟩
theorem Meth.own (inj : ∀ i j, P.nm i = P.nm j → i = j) {mg mb : Str → Option Value} (tp : TopOk P mg mb) {C f : Addr} {j : Nat} {n : Str} (hj : P.nm j = n) (c : MthF P.K C n f) : Meth P n (isInst C j) (.ref f) := by
  subst hj
  intro A s hp stk v x pl Q E ok r h q
  obtain ⟨a, ox, od, rfl, I, hl⟩ := instAt_of inj ok r h
  exact method_fn (tp.kin.keeps ok.base) I c.ga c.gt c.fn c.ty (by unfold shadowIn; simp only [hl]; rfl) (q s.toks)
theorem Sim.methStar (inj : ∀ i j, P.nm i = P.nm j → i = j) {mg mb : Str → Option Value} (tp : TopOk P mg mb) {C f : Addr} {j : Nat} {n : Str} (hj : P.nm j = n) (c : MthF P.K C n f) (hget : specialIn P.K (.ref f) "__get__" = some (some (.builtin "function.__get__"))) (htk : takesIn P.K (.ref f) = some false) (hcls : (clsIn P.K C).isSome = true) (hcop : copiedNames.contains n = false) (hfi : fnIn P.K f = true)
    {o : Expr} {apos pos : Pos} {es : List Expr} {Dc : DC} {Do : DE} {D : DEs} (ho : SimE P Fl d sc o Do) (hr : SimR P Fl d sc pos es D) (hf : OkK P Fl d (.ref f) Dc)
    (hbase : ∀ env, attributeBase o n env (eval o env) = eval o env) (hmany : ∀ env, ((backTo pos (starEach es env)).all (fun x => !x.1)) = false) :
    SimE P Fl d sc (.Call (.Attribute o n apos) es [] pos) (dMeth (isInst C j) Dc Do D) := by
  subst hj
  intro A env s Q X loc hp stk rm hs ev ok hD
  rw [T, arm_eval_Call, hbase env]
  refine wpAny_bind ((ho A env s _ X loc hp stk rm hs ev ok hD).thn fun x hp1 s1 e1 ok1 hq  => ?_)
  obtain ⟨v, ⟨hR, q⟩, r⟩ := hq
  refine wpAny_bind (wpAny_standAt ?_)
  have hc : methodCallForm (es.length + ([] : List Keyword).length) (backTo pos (starEach es env)) (backToKw pos (keywordEach [] env)) = false := by
    show ((backTo pos (starEach es env)).all (fun x => !x.1) && true && _) = false
    rw [hmany env]; rfl
  unfold methodCall calleeOf methodCallPos
  rw [hc, if_neg (by decide)]
  obtain ⟨a, ox, od, rfl, I, hl⟩ := instAt_of inj ok1 r hR
  have X' := tp.kin.keeps ok1.base
  obtain ⟨cd, hcd⟩ := Option.isSome_iff_exists.mp hcls
  have hfo : findObj P.K C (some od) (P.nm j) = some (.bind (.builtin "function.__get__") (.ref f)) := by
    unfold findObj
    rw [hcd, Option.bind_some, c.fn, Option.bind_some]
    simp only [hget, htk, Option.bind_some, W.ownOf, hcop, Bool.false_and]
    cases cd.hasDict <;> simp [hl]
  refine wpAny_bind (wpAny_holding (wpAny_bind (get_bind X' I c.ga hfo c.gt ?_)))
  refine wpAny_call (fn_get (s := { s1 with toks := s1.toks + 1 }) X' c.ty ?_)
  show wpAny _ _ (handedOut (.ref s1.heap.objs.size)) _ _ _
  rw [handedOut_of rfl]
  refine wpAny_pure (wpAny_pure (wpAny_bind ?_))
  rw [if_pos (show (!false || apos.endLine == pos.line) = true from rfl)]
  refine wpAny_pure ?_
  generalize hH : s1.heap.push (methodObj (.ref f) (.ref a)) = H
  have k2 : ∀ b o, s1.heap.get? b = some o → H.get? b = some o := fun b o e => by rw [← hH]; exact Heap.get?_push_of_some _ e
  have gq : H.get? s1.heap.objs.size = some (methodObj (.ref f) (.ref a)) := by rw [← hH]; exact Heap.get?_push_size _ rfl
  have e2 : Ext no1 stk hp1 s1 hp1 { s1 with heap := H, toks := s1.toks + 1 } := Ext.grow (stk := stk) k2
  have ok2 : HeapOk P stk hp1 { s1 with heap := H, toks := s1.toks + 1 } := ok1.grow k2
  have fq : Fz stk hp1 s1.heap.objs.size := fz_push ok1
  refine callWith_any (R := MethP P.K s1.heap.objs.size f (.ref a)) (fun h k => keeps_M hfi h k) ?_
  have e12 := e1.trans e2
  refine wpAny_mono (hr (.ref s1.heap.objs.size) A env _ _ X loc hp1 stk rm hs (ev.step ok e12) ok2 q) (fun aa s3 hq  => ?_) fun _ _ z => z.back P e12
  obtain ⟨hp3, e3, ok3, hkw, vs, q3, r3⟩ := hq
  have gq3 : s3.heap.get? s1.heap.objs.size = some (methodObj (.ref f) (.ref a)) := e3.same fq.1 (fun z => z) (.inl fq.2) gq
  refine ⟨⟨gq3, tp.kin.keeps ok3.base⟩, ?_⟩
  rw [hkw]
  have e13 := e12.trans e3
  refine wpAny_mono (wpAny_call (method_call gq3 (hf A s3 Q X hp3 stk (v :: vs) (.ref a :: aa.pos) rm (ev.step ok e13).frs ok3 (vCons (VR_step (e2.trans e3) r) r3) q3))) (fun _ _ z => z.back P e13) fun _ _ z => z.back P e13
theorem Sim.clsAttr {mg mb : Str → Option Value} (tp : TopOk P mg mb) {C : Addr} {n : Str} {l : List Nat} {tk : Tok} {x : Str} {np pos : Pos} (hn : NameIs P sc (.Name x np) (.ref C)) (hr : readsIn P.K C (.type "type") = true) (he : findCls P.K (.ref C) (.type "type") n = some (.val (.str ⟨l.toArray⟩ tk))) :
    SimE P Fl d sc (.Attribute (.Name x np) n pos) (dCon (.str l)) := by
  intro A env s Q X loc hp stk rm hs ev ok hq
  rw [T, arm_eval_Attribute]
  show wpAny _ _ (eval (.Name x np) env >>= _) _ _ s
  refine wpAny_bind (hn A env s loc hp stk _ _ hs ev ok ?_)
  refine wpAny_bind (wpAny_standAt (wpAny_bind (wpAny_holding (cls_value (tp.kin.keeps ok.base) hr he rfl ?_))))
  exact wpAny_bind (wpAny_letTemporaryGo (wpAny_pure (hereT ok hq vStr)))
end Mine
namespace Mine
variable {P : Par} {Fl : Fly} {d : Nat} {sc : Scope} {ex : Nat → Value}
theorem Room.tc {A : Around} {C : Addr} {rest : List Value} (r : Room (d + 1) A) : Room d (A.under (.builtin "type.__call__" ⟨.ref C :: rest, []⟩)) := by
  have hw : (Code.builtin "type.__call__" ⟨.ref C :: rest, []⟩).weight = 1 := rfl
  have hu : (Code.builtin "type.__call__" ⟨.ref C :: rest, []⟩).cUnits = 1 := rfl
  refine ⟨?_, ?_, fun _ => r.hd (Nat.succ_pos _)⟩
  · have := r.depth; show A.depth + _ + d < _; rw [hw]; lia
  · have := r.units; show A.units + _ + 8 * d + 128 < _; rw [hu]; lia
theorem frames_tc {A : Around} {C : Addr} {rest : List Value} : (A.under (.builtin "type.__call__" ⟨.ref C :: rest, []⟩)).frames = A.frames := by
  show pushEnvs [] A.frames = A.frames
  cases A.frames <;> rfl
structure MakeF (K : Frag) (C fI : Addr) : Prop where
  mak : makesIn K C = true
  init : findIn K (.ref C) "__init__" = some (some (.ref fI))
  ty : typeIn K (.ref fI) = some (.type "function")
theorem makeCore {A : Around} {mg mb : Str → Option Value} (tp : TopOk P mg mb) {C fI : Addr} (F : MakeF P.K C fI) {s : Shared} {stk : Addr → Prop} {hp : Hp} {xs : List Value} {R : Result → Shared → Prop} (ok : HeapOk P stk hp s)
    (h : ∀ h', (∀ b o, s.heap.get? b = some o → h'.get? b = some o) → h'.get? s.heap.objs.size = some emptyDict → h'.get? (s.heap.objs.size + 1) = some (instObj C s.heap.objs.size) →
      codeAny P.M (A.under (.builtin "type.__call__" ⟨.ref C :: xs, []⟩)) (.call (.ref fI) ⟨.ref (s.heap.objs.size + 1) :: xs, []⟩) (InitBack (s.heap.objs.size + 1) R) { s with heap := h' }) :
    codeAny P.M A (.call (.ref C) ⟨xs, []⟩) R s := by
  have X := tp.kin.keeps ok.base
  obtain ⟨hh, g, dr, t, os⟩ := s
  refine make_core (makes_of X F.mak) (looks_findIn X F.init) (fun self => bind_fn X self F.ty) (.inl rfl) ?_
  refine h _ (fun b o e => Heap.get?_push_of_some _ (Heap.get?_push_of_some _ e)) (Heap.get?_push_of_some _ (Heap.get?_push_size _ rfl)) ?_
  have := Heap.get?_push_size (hh.push emptyDict) (o := instObj C hh.objs.size) rfl
  rw [Heap.size_push] at this
  exact this
theorem newInst {own stk : Addr → Prop} {hp : Hp} {s : Shared} {h' : Heap} {C : Addr} (ok : HeapOk P stk hp s) (k : ∀ b o, s.heap.get? b = some o → h'.get? b = some o) (gd : h'.get? s.heap.objs.size = some emptyDict) (gx : h'.get? (s.heap.objs.size + 1) = some (instObj C s.heap.objs.size)) :
    hp (s.heap.objs.size + 1) = Option.none ∧ hp s.heap.objs.size = Option.none ∧ Ext own stk hp s (upd (upd hp s.heap.objs.size (.ns [])) (s.heap.objs.size + 1) (.inst C s.heap.objs.size)) { s with heap := h' } ∧ HeapOk P stk (upd (upd hp s.heap.objs.size (.ns [])) (s.heap.objs.size + 1) (.inst C s.heap.objs.size)) { s with heap := h' } := by
  have n0 := get_size s.heap
  have n1 : s.heap.get? (s.heap.objs.size + 1) = Option.none := by
    cases q : s.heap.get? (s.heap.objs.size + 1) with
    | none => rfl
    | some o => exact absurd (Heap.lt_size q) (Nat.not_lt.mpr (Nat.le_succ _))
  have f0 := fz_of_new ok n0
  have f1 := fz_of_new ok n1
  have ne : (s.heap.objs.size + 1 : Nat) ≠ s.heap.objs.size := by lia
  have ky : ∀ b o, s.heap.get? b = some o → b ≠ s.heap.objs.size ∧ b ≠ s.heap.objs.size + 1 := fun b o g => ⟨(by rintro rfl; rw [n0] at g; cases g), (by rintro rfl; rw [n1] at g; cases g)⟩
  have hE : ∀ b, b ≠ s.heap.objs.size → b ≠ s.heap.objs.size + 1 → upd (upd hp s.heap.objs.size (.ns [])) (s.heap.objs.size + 1) (.inst C s.heap.objs.size) b = hp b := fun b h1 h2 => by rw [upd_ne h2, upd_ne h1]
  have kyF : Keepy (Fz stk hp) (Fz stk (upd (upd hp s.heap.objs.size (.ns [])) (s.heap.objs.size + 1) (.inst C s.heap.objs.size))) s.heap h' := fun a o f g => ⟨⟨by rw [hE a (ky a o g).1 (ky a o g).2]; exact f.1, f.2⟩, k a o g⟩
  refine ⟨f1.1, f0.1, .exact (fun b o _ _ g => k b o g) (fun b o g => ⟨o, k b o g⟩) (fun b o _ g d => ⟨o, k b o g, d⟩) (fun b e n => ?_) rfl rfl, ⟨fun b o e => ?_, fun b e z => ?_, fun b o e => k b o (ok.base b o e), fun b e => ?_, ok.stkn, fun a z => (by obtain ⟨o, g⟩ := ok.stkl a z; exact ⟨o, k a o g⟩), ok.gens⟩⟩
  · by_cases q1 : b = s.heap.objs.size
    · subst q1; exact n0
    · by_cases q2 : b = s.heap.objs.size + 1
      · subst q2; exact n1
      · rw [hE b q1 q2] at n; exact absurd e n
  · by_cases q2 : b = s.heap.objs.size + 1
    · subst q2; rw [upd_same] at e; cases e; exact gx
    · by_cases q1 : b = s.heap.objs.size
      · subst q1; rw [upd_ne q2, upd_same] at e; cases e
        exact ⟨fun _ => Option.none, ⟨#[], 0, gd, Nat.zero_le _, (by intro e he; simp at he), fun _ => rfl⟩, by simp only [VRfe], fun n y z => (nomatch z)⟩
      · rw [hE b q1 q2] at e
        exact (ok.obj b o e).keep kyF fun o g => k b o g
  · by_cases q2 : b = s.heap.objs.size + 1
    · subst q2; exact f1.2 z
    · by_cases q1 : b = s.heap.objs.size
      · subst q1; exact f0.2 z
      · rw [hE b q1 q2] at e; exact ok.apart b e z
  · have nb : ∀ c, s.heap.get? c = Option.none → P.H₀.get? c = Option.none := fun c h => by
      cases q : P.H₀.get? c with
      | none => rfl
      | some o => have := ok.base c o q; rw [h] at this; cases this
    by_cases q2 : b = s.heap.objs.size + 1
    · subst q2; exact nb _ n1
    · by_cases q1 : b = s.heap.objs.size
      · subst q1; exact nb _ n0
      · rw [hE b q1 q2] at e; exact ok.new b e
noncomputable def dMake (C : Addr) (Di : DC) : DC := fun vs Q X hp => ∀ x dd, hp x = Option.none → hp dd = Option.none → x ≠ dd → Di (.ref x :: vs) (fun v hp' => v = .none ∧ Q (.ref x) hp') X (upd (upd hp dd (.ns [])) x (.inst C dd))
theorem OkK.make {mg mb : Str → Option Value} (tp : TopOk P mg mb) {C fI : Addr} (F : MakeF P.K C fI) {Di : DC} (h : OkK P Fl d (.ref fI) Di) : OkK P Fl (d + 1) (.ref C) (dMake C Di) := by
  intro A s Q X hp stk vs xs rm fs ok r hD
  refine makeCore tp F ok fun h' k gd gx => ?_
  obtain ⟨p1, p0, e1, ok1⟩ := newInst (own := no1) ok k gd gx
  have := h (A.under (.builtin "type.__call__" ⟨.ref C :: xs, []⟩)) { s with heap := h' } _ X _ stk (.ref (s.heap.objs.size + 1) :: vs) (.ref (s.heap.objs.size + 1) :: xs) rm.tc ((fs.step e1).around frames_tc) ok1 (vCons vRef (VRs_step e1 r)) (hD _ _ p1 p0 (by show (s.heap.objs.size + 1 : Nat) ≠ s.heap.objs.size; lia))
  refine codeAny_mono this fun rr s2 z => ?_
  unfold InitBack
  rcases rr with e | (y | _ | _ | _)
  · exact z.back P e1
  all_goals first | exact z.elim | skip
  obtain ⟨hp2, e2, ok2, v, ⟨rfl, q⟩, rv⟩ := z
  simp only [VRe] at rv
  exact ⟨rv, hp2, e1.trans e2, ok2, _, q, vRef⟩
noncomputable def dMakeF (C : Addr) (Di : DC) : DC := fun vs Q X hp => ∀ x dd, hp x = Option.none → hp dd = Option.none → x ≠ dd → Di (.ref x :: vs) (fun v hp' => v = .none ∧ ∃ fs, hp' x = some (.inst C dd) ∧ hp' dd = some (.ns fs) ∧ Q (.obj C fs) (del (del hp' x) dd)) X (upd (upd hp dd (.ns [])) x (.inst C dd))
theorem keepy_del {stk : Addr → Prop} {hp : Hp} {h : Heap} (a : Addr) : Keepy (Fz stk hp) (Fz stk (del hp a)) h h := by
  rintro b ob ⟨e, n⟩ g
  refine ⟨⟨?_, n⟩, g⟩
  by_cases z : b = a
  · subst z; simp
  · rw [del_ne z]; exact e
theorem OkK.makeF {mg mb : Str → Option Value} (tp : TopOk P mg mb) {C fI : Addr} (F : MakeF P.K C fI) {Di : DC} (h : OkK P Fl d (.ref fI) Di) : OkK P Fl (d + 1) (.ref C) (dMakeF C Di) := by
  intro A s Q X hp stk vs xs rm fs ok r hD
  refine makeCore tp F ok fun h' k gd gx => ?_
  obtain ⟨p1, p0, e1, ok1⟩ := newInst (own := no1) ok k gd gx
  have hne : (s.heap.objs.size + 1 : Nat) ≠ s.heap.objs.size := by lia
  have := h (A.under (.builtin "type.__call__" ⟨.ref C :: xs, []⟩)) { s with heap := h' } _ X _ stk (.ref (s.heap.objs.size + 1) :: vs) (.ref (s.heap.objs.size + 1) :: xs) rm.tc ((fs.step e1).around frames_tc) ok1 (vCons vRef (VRs_step e1 r)) (hD _ _ p1 p0 hne)
  refine codeAny_mono this fun rr s2 z => ?_
  unfold InitBack
  rcases rr with e | (y | _ | _ | _)
  · exact z.back P e1
  all_goals first | exact z.elim | skip
  obtain ⟨hp2, e2, ok2, v, ⟨rfl, fs', h1, h2, q⟩, rv⟩ := z
  simp only [VRe] at rv
  refine ⟨rv, _, (e1.trans e2).trans ((Ext.drop (own := no1) (stk := stk) (s.heap.objs.size + 1)).trans (Ext.drop (own := no1) (stk := stk) s.heap.objs.size)), (ok2.drop _).drop _, .obj C fs', q, ?_⟩
  have g1 := ok2.obj _ _ h1
  obtain ⟨m, ns, rf, cov⟩ := ok2.obj _ _ h2
  have ky := fun a o f g => (keepy_del (stk := stk) (hp := del hp2 (s.heap.objs.size + 1)) (h := s2.heap) s.heap.objs.size) a o (keepy_del (stk := stk) (hp := hp2) (s.heap.objs.size + 1) a o f g).1 g
  simp only [VRe]
  refine ⟨_, _, m, rfl, ⟨?_, ok2.apart _ (by rw [h1]; intro z; cases z)⟩, ⟨by simp, ok2.apart _ (by rw [h2]; intro z; cases z)⟩, g1, ns, rf.keep ky, cov⟩
  rw [del_ne hne]; simp
noncomputable def dMakeS (C : Addr) (Di : DC) : DC := fun vs Q X hp => ∀ x, hp x = Option.none → Di (.ref x :: vs) (fun v hp' => v = .none ∧ Q (.ref x) hp') X (upd hp x (.sl C []))
theorem OkK.makeS {mg mb : Str → Option Value} (tp : TopOk P mg mb) {C fI : Addr} (F : MakeF P.K C fI) {Di : DC} (h : OkK P Fl d (.ref fI) Di) : OkK P Fl (d + 1) (.ref C) (dMakeS C Di) := by
  intro A s Q X hp stk vs xs rm fs ok r hD
  refine makeCore tp F ok fun h' k gd gx => ?_
  have n0 := get_size s.heap
  have n1 : s.heap.get? (s.heap.objs.size + 1) = Option.none := by
    cases q : s.heap.get? (s.heap.objs.size + 1) with
    | none => rfl
    | some o => exact absurd (Heap.lt_size q) (Nat.not_lt.mpr (Nat.le_succ _))
  have f0 := fz_of_new ok n0
  have hne : (s.heap.objs.size : Nat) ≠ s.heap.objs.size + 1 := by lia
  have p1 := (fz_of_new ok n1).1
  have e1 : Ext no1 stk hp s (upd hp (s.heap.objs.size + 1) (.sl C [])) { s with heap := h' } := Ext.track (tk := s.toks) k n1
  have ok1 : HeapOk P stk (upd hp (s.heap.objs.size + 1) (.sl C [])) { s with heap := h' } := ok.track (tk := s.toks) k n1 ⟨#[], _, _, gx, ⟨by rw [upd_ne hne]; exact f0.1, f0.2⟩, gd, by simp only [SRe]⟩
  have := h (A.under (.builtin "type.__call__" ⟨.ref C :: xs, []⟩)) { s with heap := h' } _ X _ stk (.ref (s.heap.objs.size + 1) :: vs) (.ref (s.heap.objs.size + 1) :: xs) rm.tc ((fs.step e1).around frames_tc) ok1 (vCons vRef (VRs_step e1 r)) (hD _ p1)
  refine codeAny_mono this fun rr s2 z => ?_
  unfold InitBack
  rcases rr with e | (y | _ | _ | _)
  · exact z.back P e1
  all_goals first | exact z.elim | skip
  obtain ⟨hp2, e2, ok2, v, ⟨rfl, q⟩, rv⟩ := z
  simp only [VRe] at rv
  exact ⟨rv, hp2, e1.trans e2, ok2, _, q, vRef⟩
end Mine
namespace Mine
variable {P : Par} {Fl : Fly} {d : Nat} {sc : Scope} {ex : Nat → Value}
noncomputable def bdDef1 (i0 i1 : Nat) : List V → Hp → Option (List (Nat × V)) := fun vs _ => match vs with | [v] => some [(i0, v), (i1, .none)] | _ => Option.none
theorem BindOk.def1 {mg mb : Str → Option Value} (tp : TopOk P mg mb) {fd : FuncData} {i0 i1 : Nat} (hb : ∀ s x, P.K.In s.heap → BindsTo s fd ⟨[x], []⟩ [(P.nm i0, x), (P.nm i1, .none)]) : BindOk P fd (bdDef1 i0 i1) := by
  intro A s hp stk vs xs ps Q E ok r h q
  rcases vs with _ | ⟨v, _ | ⟨u, us⟩⟩
  · cases h
  · cases h
    simp only [VRse] at r
    obtain ⟨y, ys, rfl, p, rfl⟩ := r
    refine hb s y (tp.kin.keeps ok.base) _ _ _ _ (q _ s.heap (fun _ _ e => e) ?_)
    simp only [BRe]
    exact ⟨_, _, rfl, p, _, _, rfl, vNone, rfl⟩
  · cases h
noncomputable def bdStar1 (i0 ir : Nat) : List V → Hp → Option (List (Nat × V)) := fun vs _ => match vs with | v :: us => if us.length ≤ lim then some [(i0, v), (ir, .tup us)] else Option.none | _ => Option.none
noncomputable def bdStar2 (i0 i1 ir : Nat) : List V → Hp → Option (List (Nat × V)) := fun vs _ => match vs with | v :: u :: us => if us.length ≤ lim then some [(i0, v), (i1, u), (ir, .tup us)] else Option.none | _ => Option.none
theorem newTup {A : Around} {s : Shared} {hp : Hp} {stk : Addr → Prop} {us : List V} {ys : List Value} {Q : Value → Shared → Prop} {E : Value → Shared → Prop} (ok : HeapOk P stk hp s) (r : P.VRs stk hp s.heap us ys) (hl : us.length ≤ lim)
    (q : ∀ t h', (∀ b o, s.heap.get? b = some o → h'.get? b = some o) → P.VR stk hp h' (.tup us) t → Q t { s with heap := h' }) : wpAny P.M A (newTuple ys) Q E s := by
  have k : ∀ b o, s.heap.get? b = some o → (s.heap.push { cls := .type "tuple", dict := none, data := .seq ys.toArray }).get? b = some o := fun b o e => Heap.get?_push_of_some _ e
  refine wpAny_newObj_type (q _ _ k ?_) ?_
  · simp only [VRe]
    exact ⟨_, ys.toArray, rfl, fz_push ok, ⟨0, Heap.get?_push_size _ rfl⟩, by simpa using VRs_grow k r⟩
  · have := r.length; have := lim_le; show ys.toArray.size ≤ sizeLine; simp; lia
theorem BindOk.star1 {fd : FuncData} {i0 ir : Nat} (hb : ∀ x rest, bindArgs fd ⟨x :: rest, []⟩ = newTuple rest >>= fun t => pure [(P.nm i0, x), (P.nm ir, t)]) : BindOk P fd (bdStar1 i0 ir) := by
  intro A s hp stk vs xs ps Q E ok r h q
  rcases vs with _ | ⟨v, us⟩
  · cases h
  · by_cases hl : us.length ≤ lim
    · cases (if_pos hl).symm.trans h
      simp only [VRse] at r
      obtain ⟨y, ys, rfl, p, r⟩ := r
      rw [hb]
      refine wpAny_bind (newTup ok r hl fun t h' k rt => wpAny_pure (q _ h' k ?_))
      simp only [BRe]
      exact ⟨_, _, rfl, VR_grow k p, _, _, rfl, rt, rfl⟩
    · cases (if_neg hl).symm.trans h
theorem BindOk.star2 {fd : FuncData} {i0 i1 ir : Nat} (hb : ∀ x y rest, bindArgs fd ⟨x :: y :: rest, []⟩ = newTuple rest >>= fun t => pure [(P.nm i0, x), (P.nm i1, y), (P.nm ir, t)]) : BindOk P fd (bdStar2 i0 i1 ir) := by
  intro A s hp stk vs xs ps Q E ok r h q
  rcases vs with _ | ⟨v, _ | ⟨u, us⟩⟩
  · cases h
  · cases h
  · by_cases hl : us.length ≤ lim
    · cases (if_pos hl).symm.trans h
      simp only [VRse] at r
      obtain ⟨y, ys, rfl, p, z, zs, rfl, p2, r⟩ := r
      rw [hb]
      refine wpAny_bind (newTup ok r hl fun t h' k rt => wpAny_pure (q _ h' k ?_))
      simp only [BRe]
      exact ⟨_, _, rfl, VR_grow k p, _, _, rfl, VR_grow k p2, _, _, rfl, rt, rfl⟩
    · cases (if_neg hl).symm.trans h
end Mine
namespace Mine
variable {P : Par} {Fl : Fly} {d : Nat} {sc : Scope} {ex : Nat → Value}
noncomputable def sIfN (i : Nat) (e : DE) (a b : DS) : DS := fun Q X loc hp => e (fun v hp1 => ∃ c, isOne v .none = some c ∧ if c then a Q X (upd loc i v) hp1 else b Q X (upd loc i v) hp1) (fun k hp' => X k loc hp') loc hp
theorem SimS.ifNamed (inj : ∀ i j, P.nm i = P.nm j → i = j) {i : Nat} {x : Str} {e : Expr} {k : Nat} {p np cp kp pos : Pos} {xs ys : List Stmt} {D : DE} {a b : DS} (hx : P.nm i = x) (hk : (match sc.names.lookup x with | some .local => true | some .cell => true | _ => false) = true) (he : SimE P Fl d sc e D) (ha : SimSs P Fl d sc xs a) (hb : SimSs P Fl d sc ys b) :
    SimS P Fl d sc (.If (.Compare (.NamedExpr (.Name x p) e np) [.Is] [.Constant .none k kp] cp) xs ys pos) (sIfN i D a b) := by
  subst hx
  intro A env s Q X loc hp stk rm hs ev ok hD
  refine wpAny_If (wpAny_isTrue_Compare1 (wpAny_NamedExpr (E2 he rm hs ev ok hD fun v y hp1 s1 e1 ev1 ok1 hq  r => ?_)) rfl)
  obtain ⟨c, hc, q⟩ := hq
  refine wpAny_assign_Name (storeVar inj (by rw [hs]; exact hk) ev1 ok1 r fun s2 e2 ev2 ok2 => ?_)
  have e12 := e1.of1.trans (e2.wider ownI_E)
  have r2 : P.VR stk hp1 s2.heap v y := VR_stepE ev1 (e2.wider ownI_E) r
  refine wpAny_Constant_none ?_
  obtain ⟨pl, eq⟩ := isOne_plain r2 (vNone (F := Fz stk hp1) (h := s2.heap)) hc
  refine wpAny_is_plain pl ?_
  rw [eq]
  refine wpAny_truthy_bool ?_
  cases c with
  | true => exact T.nxt e12 (ha A env s2 Q X _ hp1 stk rm hs ev2 ok2 q)
  | false => exact T.nxt e12 (hb A env s2 Q X _ hp1 stk rm hs ev2 ok2 q)
noncomputable def sSwap (i j : Nat) (e : DE) : DS := fun Q X loc hp => e (fun v hp1 => ∃ u w, v = .tup [u, w] ∧ Q .next (upd (upd loc j w) i u) hp1) (fun k hp' => X k loc hp') loc hp
theorem SimS.swap (inj : ∀ i j, P.nm i = P.nm j → i = j) {i j : Nat} {ts : List Expr} {k : Nat} {tp pos : Pos} {e : Expr} {D : DE} (hd : 0 < d) (hi : sc.names.lookup (P.nm i) = some .local) (hj : sc.names.lookup (P.nm j) = some .local) (h : SimE P Fl d sc e D)
    (hs' : ∀ env : Env, swapsWithSole [.Tuple ts k tp] e pos.line env = pure false) (hw : ∀ env : Env, env.scope = sc → swappedStores [.Tuple ts k tp] e env = pure (some [P.nm i, P.nm j])) : SimS P Fl d sc (.Assign [.Tuple ts k tp] e pos) (sSwap i j D) := by
  intro A env s Q X loc hp stk rm hs ev ok hD
  refine Assign_Tuple_swapped (E2 h rm hs ev ok hD fun v x hp1 s1 e1 ev1 ok1 hq  r => ?_) (hs' env) (hw env hs)
  obtain ⟨u, w, hv, q⟩ := hq
  subst hv
  simp only [VRe] at r
  obtain ⟨a, xs, rfl, f, ⟨n, g⟩, rx⟩ := r
  have hx := rx.length
  have hz : xs.size = 2 := by rw [← Array.length_toList]; exact hx
  show wpAny _ _ (unpackItems (.ref a) 2 Option.none) _ _ _
  rw [← hz]
  refine wpAny_unpackItems_tuple (rm.hd hd) (items := xs) ⟨_, g, rfl, n, rfl⟩ fun h' kp => ?_
  have kp' : ∀ b o, s1.heap.get? b = some o → h'.get? b = some o := fun b o e => kp b o (Nat.ne_of_lt (Heap.lt_size e)) e
  have e2 : Ext no1 stk hp1 s1 hp1 { s1 with heap := h' } := Ext.grow (stk := stk) (tk := s1.toks) kp'
  have ok2 : HeapOk P stk hp1 { s1 with heap := h' } := ok1.grow (tk := s1.toks) kp'
  have ev2 := ev1.step ok1 e2
  have rx2 := VRs_grow kp' rx
  simp only [VRse] at rx2
  obtain ⟨y, ys, hxs, ry, z, zs, rfl, rz, rfl⟩ := rx2
  rw [hxs]
  show wpAny _ _ (assignInOrder [fun v => bindName env (P.nm j) v, fun v => bindName env (P.nm i) v] [z, y]) _ _ _
  refine wpAny_assignInOrder_more (wpAny_bindName (storeVar inj (by rw [hs, hj]) ev2 ok2 rz fun s3 e3 ev3 ok3 => ?_))
  refine wpAny_assignInOrder_more (wpAny_bindName (storeVar inj (by rw [hs, hi]) ev3 ok3 (VR_stepE ev2 (e3.wider ownI_E) ry) fun s4 e4 ev4 ok4 => ?_))
  exact wpAny_assignInOrder_none ⟨hp1, ((e1.trans e2).of1.trans (e3.wider ownI_E)).trans (e4.wider ownI_E), ok4, .next, _, ev4, q, trivial⟩
end Mine
namespace Mine
variable {A : Around} {P : Par} {Fl : Fly} {d : Nat} {sc : Scope}
noncomputable def dCompN (fr : List Nat) (src : DE) (t : DA) (f : DT) (inner : CD) : DE := fun Q X loc hp => src (fun v hp1 => ∃ vs, iterOf hp1 v = some vs ∧ cLp v hp1 t f inner (fun acc hp' => ∀ l, hp' l = Option.none → Q (.ref l) (upd hp' l (.lst acc))) vs [] (keepL fr loc) hp1) X loc hp
theorem CompEnd.tr {stk : Addr → Prop} {hp hp' : Hp} {s s' : Shared} {D C : Addr} {acc : List V} (c : CompEnd P stk hp hp' s s' D C acc) {h' : Heap} (hs : Heap.SameBut C s'.heap h') : hp' D = Option.none ∧ Ext no1 stk hp s (upd hp' D (.lst acc)) { s' with heap := h' } ∧ HeapOk P stk (upd hp' D (.lst acc)) { s' with heap := h' } := by
  obtain ⟨e, _, _⟩ := c.fin hs
  obtain ⟨stkN, sub, ok, sD, sC, nD, nC, fC, _, ys, ⟨n, g⟩, r⟩ := c.all
  have hD := stk_none ok sD
  have gD : h'.get? D = some _ := (hs.2 D c.dif).trans g
  have ky : Keepy (Fz stkN hp') (Fz stk (upd hp' D (.lst acc))) s'.heap h' := fun a o f g => ⟨⟨by rw [upd_ne (show a ≠ D from fun z => f.2 (z ▸ sD))]; exact f.1, fun z => f.2 (sub a z)⟩, (hs.2 a (fun z => f.2 (z ▸ sC))).trans g⟩
  refine ⟨hD, ⟨e.keep, e.there, e.dic, fun b h n => ?_, e.drawn, e.os⟩, ⟨fun a o h => ?_, fun a h z => ?_, fun b o h => (hs.2 b ?_).trans (ok.base b o h), fun a h => ?_, fun a z => ok.stkn a (sub a z), fun a z => ?_, ok.gens⟩⟩
  · by_cases q : b = D
    · subst q; exact c.fD
    · rw [upd_ne q] at n; exact e.fresh b h n
  · by_cases q : a = D
    · subst q; rw [upd_same] at h; cases h; exact ⟨ys, ⟨n, gD⟩, r.keep ky⟩
    · rw [upd_ne q] at h
      exact (ok.obj a o h).keep ky fun o g => (hs.2 a (by rintro rfl; rw [stk_none ok sC] at h; cases h)).trans g
  · by_cases q : a = D
    · subst q; exact nD z
    · rw [upd_ne q] at h; exact ok.apart a h (sub a z)
  · rintro rfl; rw [ok.stkn b sC] at h; cases h
  · by_cases q : a = D
    · subst q; exact ok.stkn a sD
    · rw [upd_ne q] at h; exact ok.new a h
  · obtain ⟨o, g⟩ := ok.stkl a (sub a z); exact ⟨o, (hs.2 a (by rintro rfl; exact nC z)).trans g⟩
theorem Sim.compN (hz : (P.H₀.get? sysModules).isSome = true) (hd : 0 < d) {elt : Expr} {rest : List Comprehension} {scope : Scope} {pos : Pos} {t iter : Expr} {ifs : List Expr} {idt ids fr : List Nat} {De : DE} {Dt : DA} {Df : DT} {inner : CD} (hn1 : rest[0]? = Option.none ∨ ∃ t' i' f', rest[0]? = some ⟨t', i', f', 0⟩)
    (F : CompFacts P scope sc fr (idt ++ ids))
    (he : SimE P Fl d sc iter De) (ht : SimG P Fl d (relS scope sc) t idt Dt) (htg : Tgt idt Dt) (hf : SimF P Fl d (relS scope sc) ifs Df) (hi : SimI P Fl d (relS scope sc) elt (⟨t, iter, ifs, 0⟩ :: rest) scope pos 1 ids inner) (hdis : ∀ i ∈ ids, i ∉ idt) (hfs : ∀ env x, foldedSetIterable iter env x = pure x) :
    SimE P Fl d sc (.ListComp elt (⟨t, iter, ifs, 0⟩ :: rest) scope pos) (dCompN fr De Dt Df inner) := by
  intro A env s Q X loc hp stk rm hs ev ok hD
  rw [T, eval_ListComp]
  refine wpAny_comprehension_free (use := none) rfl (hfs env) (closureFor_eq fun n k h1 h2 => ?_) F.kind (hnames_of F.nodup) ?_
  · subst h2
    obtain ⟨c, _, e, _⟩ := ev.cells n (by have := F.out n h1; rw [← hs] at this; exact this)
    exact ⟨c, e⟩
  · refine compCore (K := fun acc hp' => ∀ l, hp' l = Option.none → Q (.ref l) (upd hp' l (.lst acc))) hz hd rfl hn1 F he ht htg hf hi hdis rm hs ev ok hD (fun _ _ z => z) fun D C hp' acc f s' ce q => ?_
    obtain ⟨_, _, _, _, _, _, _, _, ⟨m, hn⟩, _⟩ := ce.all
    refine ⟨m, hn, fun h' hs' => ?_⟩
    obtain ⟨hD, e, ok'⟩ := ce.tr hs'
    exact ⟨_, e, ok', _, q D hD, vRef⟩
theorem SimS.asgCompN (inj : ∀ i j, P.nm i = P.nm j → i = j) (hz : (P.H₀.get? sysModules).isSome = true) (hd : 0 < d) {i : Nat} {x : Str} {px spos : Pos} {elt : Expr} {rest : List Comprehension} {scope : Scope} {pos : Pos} {t iter : Expr} {ifs : List Expr} {idt ids fr : List Nat} {De : DE} {Dt : DA} {Df : DT} {inner : CD} (hn1 : rest[0]? = Option.none ∨ ∃ t' i' f', rest[0]? = some ⟨t', i', f', 0⟩)
    (hx : P.nm i = x) (hk : sc.names.lookup x = some .local)
    (F : CompFacts P scope sc fr (idt ++ ids))
    (he : SimE P Fl d sc iter De) (ht : SimG P Fl d (relS scope sc) t idt Dt) (htg : Tgt idt Dt) (hf : SimF P Fl d (relS scope sc) ifs Df) (hi : SimI P Fl d (relS scope sc) elt (⟨t, iter, ifs, 0⟩ :: rest) scope pos 1 ids inner) (hdis : ∀ i ∈ ids, i ∉ idt) (hfs : ∀ env x, foldedSetIterable iter env x = pure x)
    (hsw : ∀ env : Env, env.scope = sc → swapsWith (.ListComp elt (⟨t, iter, ifs, 0⟩ :: rest) scope pos) (some (.Name x px)) spos.line env = pure true) :
    SimS P Fl d sc (.Assign [.Name x px] (.ListComp elt (⟨t, iter, ifs, 0⟩ :: rest) scope pos) spos) (sAsg (dCompN fr De Dt Df inner) (gVar i)) := by
  subst hx
  intro A env s Q X loc hp stk rm hs ev ok hD
  rw [T, exec_Assign_Name_used _ _ _ _ (hsw env hs)]
  refine wpAny_bind (wpAny_standAt (wpAny_bind ?_))
  show wpAny _ A (do let _ ← comprehension (.ListComp elt (⟨t, iter, ifs, 0⟩ :: rest) scope pos) scope env _ (newList []) false (eval iter env) (some (assign (.Name (P.nm i) px) env))) _ _ s
  refine wpAny_bind (wpAny_mono (wpAny_comprehension_free (use := some (assign (.Name (P.nm i) px) env)) (Q := fun _ s' => PostT P (ownE env) stk hp s (QS P A stk env Q) .next s') rfl (hfs env) (closureFor_eq fun n k h1 h2 => ?_) F.kind (hnames_of F.nodup) ?_) (fun _ s' hq => wpAny_pure (wpAny_pure hq)) fun _ _ e => e)
  · subst h2
    obtain ⟨c, _, e, _⟩ := ev.cells n (by have := F.out n h1; rw [← hs] at this; exact this)
    exact ⟨c, e⟩
  · refine compCore (K := fun acc hp' => ∀ l, hp' l = Option.none → Q .next (upd loc i (.ref l)) (upd hp' l (.lst acc))) (X := fun k hp' => X k loc hp') hz hd rfl hn1 F he ht htg hf hi hdis rm hs ev ok hD (fun e s' => ?_) fun D C hp' acc f s' ce q => ?_
    · rintro ⟨hp1, e1, ok1, k, hx, hf⟩
      exact ⟨hp1, e1.of1, ok1, k, loc, ev.step ok e1, hx, hf⟩
    · obtain ⟨stkN, sub, okN, sD, sC, nD, nC, fC, ⟨m, hn⟩, ys, ⟨n, pl⟩, r⟩ := ce.all
      have hpD := stk_none okN sD
      have hpC := stk_none okN sC
      have okM : HeapOk P (plus stk C) (upd hp' D (.lst acc)) s' := by
        have ky : Keepy (Fz stkN hp') (Fz (plus stk C) (upd hp' D (.lst acc))) s'.heap s'.heap := fun a o f g => ⟨⟨by rw [upd_ne (show a ≠ D from fun z => f.2 (z ▸ sD))]; exact f.1, fun z => f.2 (z.elim (sub a) (fun q => q ▸ sC))⟩, g⟩
        refine ⟨fun a o h => ?_, fun a h z => ?_, okN.base, fun a h => ?_, fun a z => okN.stkn a (z.elim (sub a) (fun q => q ▸ sC)), fun a z => okN.stkl a (z.elim (sub a) (fun q => q ▸ sC)), okN.gens⟩
        · by_cases q : a = D
          · subst q; rw [upd_same] at h; cases h; exact ⟨ys, ⟨n, pl⟩, r.keep ky⟩
          · rw [upd_ne q] at h; exact (okN.obj a o h).keep ky fun o g => g
        · by_cases q : a = D
          · subst q; exact z.elim nD ce.dif
          · rw [upd_ne q] at h; exact okN.apart a h (z.elim (sub a) (fun q => q ▸ sC))
        · by_cases q : a = D
          · subst q; exact okN.stkn a sD
          · rw [upd_ne q] at h; exact okN.new a h
      have ceE : Ext no1 stk hp s (upd hp' D (.lst acc)) s' := ⟨ce.ext.keep, ce.ext.there, ce.ext.dic, fun b h n => by
        by_cases q : b = D
        · subst q; exact ce.fD
        · rw [upd_ne q] at n; exact ce.ext.fresh b h n, ce.ext.drawn, ce.ext.os⟩
      have kyP : Keepy (Fz stk hp) (Fz (plus stk C) (upd hp' D (.lst acc))) s.heap s'.heap := fun a o f g => by
        obtain ⟨f2, g2⟩ := ceE.keepy (stk := stk) (fun _ z => z.elim) a o f g
        exact ⟨⟨f2.1, fun z => z.elim f2.2 (by rintro rfl; rw [fC] at g; cases g)⟩, g2⟩
      have evP : EnvOk P A (plus stk C) (upd hp' D (.lst acc)) env loc s' := ev.move kyP (fun a o z g => ceE.dataOf (stk_none ok z) (fun z => z) g) fun a z => .inl z
      show wpAny _ A (assign (.Name (P.nm i) px) env (.ref D)) _ _ s'
      refine wpAny_assign_Name (storeVar inj (by rw [hs, hk]) evP okM vRef fun s2 e2 ev2 ok2 => ?_)
      have hCown : ¬ ownI P env [i] C := fun z => nC (ev.own C (ownI_E C z))
      refine ⟨m, let ⟨o, es, ep, g, d, r⟩ := hn; let ⟨o', g', d'⟩ := e2.dataOf (by rw [upd_ne (Ne.symm ce.dif)]; exact hpC) hCown g; ⟨o', es, ep, g', d'.trans d, r⟩, fun h' hs' => ?_⟩
      obtain ⟨ex, okx, evx⟩ := leaveI (own := ownE env) (stk := stk) (env := env) (loc := upd loc i (.ref D)) (tk := s2.toks) (Ext.refl _ _ hp s) fC (((ceE.of1.more (stk' := plus stk C) (fun b z => .inl z) fun b (z : stk b ∨ b = C) => z.elim .inl fun q => .inr (q ▸ fC)).trans (e2.wider ownI_E)).wider fun b z => .inl z) nC ok2 fun b o n g => (hs'.2 b n).trans g
      exact ⟨_, ex, okx, .next, _, evx ev.stkL ev.stkC ev.frs ev2, q D hpD, trivial⟩
end Mine
namespace Mine
variable {P : Par} {Fl : Fly} {d : Nat} {sc : Scope} {ex : Nat → Value}
theorem size_of {F : Addr → Prop} {h : Heap} {vs : List V} {xs : Array Value} (r : VRs P.nm F h vs xs.toList) : xs.size = vs.length := by rw [← r.length]; simp
theorem growQ {stk : Addr → Prop} {hp : Hp} {s : Shared} {Q : V → Hp → Prop} {h' : Heap} {tk : Nat} {v : V} {y : Value} (ok : HeapOk P stk hp s) (k : ∀ b o, s.heap.get? b = some o → h'.get? b = some o) (q : Q v hp) (r : P.VR stk hp h' v y) :
    PostT P no1 stk hp s (PV P stk Q) y { s with heap := h', toks := tk } := ⟨hp, Ext.grow (stk := stk) k, ok.grow k, v, q, r⟩
noncomputable def lenOf (hp : Hp) : V → Option Nat
  | .tup vs => some vs.length
  | .str l => some l.length
  | .ref a => (match hp a with | some (.dict es _) => some es.length | some (.lst vs) => some vs.length | _ => Option.none)
  | .lst vs => some vs.length
  | _ => Option.none
noncomputable def dLen : DC := fun vs Q X hp => ∃ v n, vs = [v] ∧ lenOf hp v = some n ∧ n ≤ lim ∧ Q (.int n) hp
theorem OkC.len (hz : (P.H₀.get? sysModules).isSome = true) : OkC P Fl d (.builtin "len") dLen := by
  rintro A s Q X hp stk vs xs rm fs ok r ⟨v, n, hv, hn, hl, q⟩
  subst hv
  simp only [VRse] at r
  obtain ⟨x, ys, rfl, r, rfl⟩ := r
  unfold lim at hl
  have lists : ∀ us, listOf hp v = some us → us.length = n → T P no1 stk A (call (.builtin "len") [x]) hp s (PV P stk Q) (lX Fl X) := by
    intro us hu hln
    obtain ⟨a, zs, rfl, p, rz⟩ := listOf_plain ok r hu
    have hz := size_of rz
    refine call_len_list p.isList (by lia) ?_
    rw [hz, hln]; exact hereT ok q vInt
  cases v <;> first | (cases hn; done) | skip
  case str l =>
    cases hn
    simp only [VRe] at r
    obtain ⟨t, rfl⟩ := r
    refine PySem.P.len_str ?_ (hereT ok q vInt)
    show ¬ ((l.toArray.size : Int) ≥ _)
    simp; lia
  case tup us =>
    cases hn
    simp only [VRe] at r
    obtain ⟨a, zs, rfl, _, ⟨n, g⟩, rz⟩ := r
    have hz := size_of rz
    refine len_tuple ⟨_, g, rfl, n, rfl⟩ (by lia) ?_
    rw [hz]; exact hereT ok q vInt
  case lst us => cases hn; exact lists us rfl rfl
  case ref a =>
    change (match hp a with | some (.dict es _) => some es.length | some (.lst vs) => some vs.length | _ => Option.none) = _ at hn
    cases ha : hp a with
    | none => rw [ha] at hn; cases hn
    | some o =>
      rw [ha] at hn
      cases o <;> first | (cases hn; done) | skip
      · cases hn; exact lists _ (listOf_ref ha) rfl
      · rename_i es ep
        simp only [Option.some.injEq] at hn
        simp only [VRe] at r
        subst r
        obtain ⟨kvs, hd, er⟩ := ok.obj _ _ ha
        have hzz := er.length
        refine call_len_dict (not_sys ok ha hz) hd.dictOf (by lia) ?_
        rw [hzz, hn]; exact hereT ok q vInt
  all_goals (first | (cases hn; done) | skip)
noncomputable def dMin2 : DC := fun vs Q X hp => ∃ a b, vs = [.int a, .int b] ∧ Q (.int (if b < a then b else a)) hp
noncomputable def dMax2 : DC := fun vs Q X hp => ∃ a b, vs = [.int a, .int b] ∧ Q (.int (if b > a then b else a)) hp
theorem OkC.min2 (hd : 0 < d) : OkC P Fl d (.builtin "min") dMin2 := by
  rintro A s Q X hp stk vs xs rm fs ok r ⟨a, b, hv, q⟩
  subst hv
  simp only [VRse, VRe] at r
  obtain ⟨x, ys, rfl, ⟨t, rfl⟩, y, zs, rfl, ⟨u, rfl⟩, rfl⟩ := r
  refine min_two_ints (rm.hd hd) fun h' tk k => growQ ok k q ?_
  split <;> exact vInt
theorem OkC.max2 (hd : 0 < d) : OkC P Fl d (.builtin "max") dMax2 := by
  rintro A s Q X hp stk vs xs rm fs ok r ⟨a, b, hv, q⟩
  subst hv
  simp only [VRse, VRe] at r
  obtain ⟨x, ys, rfl, ⟨t, rfl⟩, y, zs, rfl, ⟨u, rfl⟩, rfl⟩ := r
  refine max_two_ints (rm.hd hd) fun h' tk k => growQ ok k q ?_
  split <;> exact vInt
noncomputable def dAbs : DC := fun vs Q X hp => ∃ a, vs = [.int a] ∧ Q (.int (if a < 0 then -a else a)) hp
theorem OkC.abs : OkC P Fl d (.builtin "abs") dAbs := by
  rintro A s Q X hp stk vs xs rm fs ok r ⟨a, hv, q⟩
  subst hv
  simp only [VRse, VRe] at r
  obtain ⟨x, ys, rfl, ⟨t, rfl⟩, rfl⟩ := r
  exact call_abs_int fun u tk => hereT ok q vInt
noncomputable def intsOf : List V → Option (List Int)
  | [] => some []
  | v :: vs => (asInt v).bind fun i => (intsOf vs).map (i :: ·)
theorem ints_real {F : Addr → Prop} {h : Heap} : ∀ {vs : List V} {xs : List Value} {ns : List Int}, VRs P.nm F h vs xs → intsOf vs = some ns → IntsAre xs ns
  | [], xs, ns, r, e => by simp only [VRse] at r; cases e; subst r; exact .nil
  | v :: vs, xs, ns, r, e => by
    obtain ⟨i, e1, e⟩ := Option.bind_eq_some_iff.mp e
    cases asInt_inv e1
    simp only [VRse, VRe] at r
    obtain ⟨y, ys, rfl, ⟨t, rfl⟩, q⟩ := r
    obtain ⟨ms, hm, rfl⟩ := Option.map_eq_some_iff.mp e
    exact .cons _ _ (ints_real q hm)
theorem ints_back {F : Addr → Prop} {h : Heap} : ∀ {xs : List Value} {ns : List Int}, IntsAre xs ns → VRs P.nm F h (ns.map .int) xs
  | _, _, .nil => by simp only [List.map_nil, VRse]
  | _, _, .cons n t q => by simp only [List.map_cons, VRse]; exact ⟨_, _, rfl, vInt, ints_back q⟩
noncomputable def dSum : DC := fun vs Q X hp => ∃ v us ns, vs = [v] ∧ listOf hp v = some us ∧ intsOf us = some ns ∧ Q (.int ns.sum) hp
theorem OkC.sum (hd : 0 < d) : OkC P Fl d (.builtin "sum") dSum := by
  rintro A s Q X hp stk vs xs rm fs ok r ⟨v, us, ns, hv, hu, hns, q⟩
  subst hv
  simp only [VRse] at r
  obtain ⟨x, ys, rfl, r, rfl⟩ := r
  obtain ⟨a, zs, rfl, p, rz⟩ := listOf_plain ok r hu
  have hI := ints_real rz hns
  obtain ⟨xs, hxs⟩ := hI.allInts.items
  have e0 : zs = intItems xs := by simpa using hxs
  subst e0
  refine sum_intListG (rm.hd hd) p.isList fun h' tk t' k => growQ ok k (v := .int ns.sum) q ?_
  have : preSum (numAt xs) xs.size = ns.sum := by
    have h1 := nums_intItems (xs := xs)
    have h2 := hI.numsOf
    rw [h1] at h2
    rw [← h2]
    rw [preSum_eq, List.take_of_length_le (by simp)]
  rw [this]; exact vInt
end Mine
namespace Mine
variable {P : Par} {Fl : Fly} {d : Nat} {sc : Scope} {ex : Nat → Value}
noncomputable def dRange1 : DC := fun vs Q X hp => ∃ b, vs = [.int b] ∧ Q (.rng 0 b) hp
noncomputable def dRange2 : DC := fun vs Q X hp => ∃ a b, vs = [.int a, .int b] ∧ Q (.rng a b) hp
theorem OkC.range1 : OkC P Fl d (.type "range") dRange1 := by
  rintro A s Q X hp stk vs xs rm fs ok r ⟨b, hv, q⟩
  subst hv
  simp only [VRse, VRe] at r
  obtain ⟨x, ys, rfl, ⟨t, rfl⟩, rfl⟩ := r
  refine call_range_1 (growQ ok (fun b o e => Heap.get?_push_of_some _ e) q ?_)
  simp only [VRe]
  exact ⟨_, _, _, _, rfl, fz_push ok, IsRange.new ..⟩
theorem OkC.range2 : OkC P Fl d (.type "range") dRange2 := by
  rintro A s Q X hp stk vs xs rm fs ok r ⟨a, b, hv, q⟩
  subst hv
  simp only [VRse, VRe] at r
  obtain ⟨x, ys, rfl, ⟨t, rfl⟩, y, zs, rfl, ⟨u, rfl⟩, rfl⟩ := r
  refine call_range_2 (growQ ok (fun b o e => Heap.get?_push_of_some _ e) q ?_)
  simp only [VRe]
  exact ⟨_, _, _, _, rfl, fz_push ok, IsRange.new ..⟩
noncomputable def sortZ (ns : List Int) : List Int := ns.mergeSort (fun a b => decide (a ≤ b))
theorem sortZ_unique {ns ms : List Int} (hp : ms.Perm ns) (hs : ms.Pairwise (· ≤ ·)) : ms = sortZ ns := by
  refine List.Perm.eq_of_pairwise (le := fun a b => a ≤ b) (fun a b _ _ h1 h2 => Int.le_antisymm h1 h2) hs ?_ (hp.trans (List.mergeSort_perm ns _).symm)
  have := List.pairwise_mergeSort (le := fun (a b : Int) => decide (a ≤ b)) (fun a b c h1 h2 => by simp only [decide_eq_true_eq] at *; lia) (fun a b => by simp only [Bool.or_eq_true, decide_eq_true_eq]; lia) ns
  exact this.imp fun h => by simpa using h
noncomputable def dSortZ : DC := fun vs Q X hp => ∃ v us ns, vs = [v] ∧ listOf hp v = some us ∧ intsOf us = some ns ∧ us.length < 64 ∧ Q (.lst ((sortZ ns).map .int)) hp
theorem OkC.sortInts : OkC P Fl d (.builtin "sorted") dSortZ := by
  rintro A s Q X hp stk vs xs rm fs ok r ⟨v, us, ns, hv, hu, hns, hl, q⟩
  subst hv
  simp only [VRse] at r
  obtain ⟨x, ys, rfl, r, rfl⟩ := r
  obtain ⟨a, zs, rfl, p, rz⟩ := listOf_plain ok r hu
  have hI := ints_real rz hns
  have p' : s.heap.IsList a zs.toList.toArray := by simpa using p.isList
  refine sorted_ints p' hI (by rw [rz.length]; exact hl) fun out ns' a1 a2 a3 => ?_
  obtain ⟨e, he⟩ := sortedAll_at s.heap zs.toList out
  have k : ∀ b o, s.heap.get? b = some o → (sortedAll s.heap zs.toList out).get? b = some o := fun b o g => sortedAll_old g
  have en : ns' = sortZ ns := sortZ_unique a2 a3
  subst en
  refine growQ (tk := s.toks) ok k q ?_
  simp only [VRe]
  refine ⟨_, out, rfl, fz_of_new ok ?_, ⟨e, he⟩, ints_back a1⟩
  cases g : s.heap.get? (s.heap.objs.size + 1) with
  | none => rfl
  | some o => exact absurd (Heap.lt_size g) (Nat.not_lt.mpr (Nat.le_succ _))
noncomputable def dIsTup : DC := fun vs Q X hp => ∃ us, vs = [.tup us, .fn (.type "tuple")] ∧ Q (.bool true) hp
theorem OkC.isTup : OkC P Fl d (.builtin "isinstance") dIsTup := by
  rintro A s Q X hp stk vs xs rm fs ok r ⟨us, hv, q⟩
  subst hv
  simp only [VRse, VRe] at r
  obtain ⟨x, ys, rfl, ⟨a, zs, rfl, _, ⟨n, g⟩, _⟩, y, ws, rfl, rfl, rfl⟩ := r
  exact IsiPair.tuple_tuple g rfl (here ok q vBool)
noncomputable def dTupL : DC := fun vs Q X hp => ∃ v us, vs = [v] ∧ listOf hp v = some us ∧ us.length ≤ lim ∧ Q (.tup us) hp
theorem OkC.tupL : OkC P Fl d (.type "tuple") dTupL := by
  rintro A s Q X hp stk vs xs rm fs ok r ⟨v, us, hv, hu, hl, q⟩
  subst hv
  simp only [VRse] at r
  obtain ⟨x, ys, rfl, r, rfl⟩ := r
  obtain ⟨a, zs, rfl, p, rz⟩ := listOf_plain ok r hu
  refine call_tuple_list p.isList (fun h' k => ?_) (by have := size_of rz; have := lim_le; lia)
  have k2 : ∀ b o, s.heap.get? b = some o → (h'.push { cls := .type "tuple", data := .seq zs }).get? b = some o := fun b o g => Heap.get?_push_of_some _ (k b o g)
  refine growQ (tk := s.toks) ok k2 q ?_
  simp only [VRe]
  refine ⟨_, zs, rfl, fz_of_new ok ?_, ⟨0, Heap.get?_push_size _ rfl⟩, VRs_grow k2 rz⟩
  cases g : s.heap.get? h'.objs.size with
  | none => rfl
  | some o => exact absurd (Heap.lt_size (k _ _ g)) (Nat.lt_irrefl _)
noncomputable def dListR : DC := fun vs Q X hp => ∃ lo hi, vs = [.rng lo hi] ∧ Builtin.Range.small lo hi 1 = true ∧ hi - lo ≤ lim ∧ Q (.lst (rngList lo hi)) hp
theorem OkC.listR (hd : 0 < d) : OkC P Fl d (.type "list") dListR := by
  rintro A s Q X hp stk vs xs rm fs ok r ⟨lo, hi, hv, hsm, h5, q⟩
  subst hv
  simp only [VRse, VRe] at r
  obtain ⟨x, ys, rfl, ⟨a, t, u, v, rfl, _, hr⟩, rfl⟩ := r
  unfold lim at h5
  refine call_list_range (rm.hd hd) hr hsm (rangeSize_one lo hi) (by lia) fun h' tk acc c k g hit => ?_
  refine growQ ok k q ?_
  simp only [VRe]
  refine ⟨_, acc, rfl, fz_push ok, ⟨c, g⟩, ?_⟩
  obtain ⟨hz, hit⟩ := hit
  have key : ∀ (l : List Value) (m : Nat), (∀ i v, l[i]? = some v → ∃ t, v = Value.int (lo + ((m + i : Nat) : Int)) t) → VRs P.nm (Fz stk hp) h' ((List.range l.length).map fun k => V.int (lo + ((m + k : Nat) : Int))) l := by
    intro l
    induction l with
    | nil => intro m _; exact vNil
    | cons v l ih =>
      intro m h
      obtain ⟨t, rfl⟩ := h 0 _ rfl
      rw [List.length_cons, List.range_succ_eq_map, List.map_cons, List.map_map]
      refine vCons vInt ?_
      have := ih (m + 1) fun i v hv => by
        obtain ⟨t, e⟩ := h (i + 1) v (by simpa using hv)
        have e2 : m + (i + 1) = m + 1 + i := by lia
        exact ⟨t, by rw [e, e2]⟩
      have e2 : ((fun k : Nat => V.int (lo + ((m + k : Nat) : Int))) ∘ Nat.succ) = fun k : Nat => V.int (lo + ((m + 1 + k : Nat) : Int)) := by
        funext k
        have e3 : m + Nat.succ k = m + 1 + k := by lia
        show V.int (lo + ((m + Nat.succ k : Nat) : Int)) = _
        rw [e3]
      rw [e2]; exact this
  have h0 := key acc.toList 0 fun i v hv => by
    obtain ⟨t, e⟩ := hit i v (by simpa using hv)
    exact ⟨t, by rw [e, Int.mul_one, Nat.zero_add]⟩
  have hl : acc.toList.length = (hi - lo).toNat := by rw [Array.length_toList]; exact hz
  rw [hl] at h0
  unfold rngList
  simpa using h0
noncomputable def dSet0 : DC := fun vs Q X hp => vs = [] ∧ ∀ l, hp l = Option.none → Q (.ref l) (upd hp l (.set []))
theorem OkC.set0 : OkC P Fl d (.type "set") dSet0 := by
  rintro A s Q X hp stk vs xs rm fs ok r ⟨hv, q⟩
  subst hv
  simp only [VRse] at r
  subst r
  refine call_set_0 fun led => newTracked (tk := s.toks) (o := .set []) ok rfl ?_ q
  exact ⟨_, #[], 0, _, Heap.get?_push_size _ rfl, ⟨rfl, rfl, rfl⟩, rfl, fun e he => by simp at he, fun k => by simp, by decide, by rfl, rfl⟩
end Mine
namespace Mine
open PySem.MeetsSeq
variable {P : Par} {Fl : Fly} {d : Nat} {sc : Scope} {ex : Nat → Value}
noncomputable def isLst (hp : Hp) (v : V) : Prop := ∃ vs, listOf hp v = some vs
noncomputable def isDct (hp : Hp) (v : V) : Prop := ∃ a es ep, v = .ref a ∧ hp a = some (.dict es ep)
noncomputable def isSet (hp : Hp) (v : V) : Prop := ∃ a xs, v = .ref a ∧ hp a = some (.set xs)
noncomputable def isStr (hp : Hp) (v : V) : Prop := ∃ l, v = .str l
theorem Meth.list {name : Str} {id : String} (slot : Slot "list" name id) (hty : typeOf (.builtin id) = pure (.type "method_descriptor")) : Meth P name isLst (.builtin id) := by
  rintro A s hp stk v x pl Q E ok r ⟨vs, h⟩ q
  obtain ⟨a, zs, rfl, p, rz⟩ := listOf_plain ok r h
  obtain ⟨n, g⟩ := p
  exact getMethod_builtin (T := "list") ⟨_, g, rfl⟩ PySem.F.plainAttrs_list slot hty (fun b e => by cases e; exact ⟨_, g, rfl⟩) (q s.toks)
theorem Meth.dict {name : Str} {id : String} (slot : Slot "dict" name id) (hty : typeOf (.builtin id) = pure (.type "method_descriptor")) : Meth P name isDct (.builtin id) := by
  rintro A s hp stk v x pl Q E ok r ⟨a, es, ep, hv, ha⟩ q
  subst hv
  simp only [VRe] at r
  subst r
  obtain ⟨kvs, hd, er⟩ := ok.obj _ _ ha
  replace hd := hd.dictOf
  exact getMethod_builtin hd.typeIs PySem.F.plainAttrs_dict slot hty hd.mapOf.noDict (q s.toks)
theorem Meth.setAdd : Meth P "add" isSet (.builtin "set.add") := by
  rintro A s hp stk v x pl Q E ok r ⟨a, xs, hv, ha⟩ q
  subst hv
  simp only [VRe] at r
  subst r
  exact getMethod_set_add (ok.obj _ _ ha) (q s.toks)
theorem Meth.str {name : Str} {id : String} (slot : Slot "str" name id) (hty : typeOf (.builtin id) = pure (.type "method_descriptor")) : Meth P name isStr (.builtin id) := by
  rintro A s hp stk v x pl Q E ok r ⟨l, hv⟩ q
  subst hv
  simp only [VRe] at r
  obtain ⟨t, rfl⟩ := r
  exact getMethod_builtin (typeIs_str _ _ _) PySem.F.plainAttrs_str slot hty (fun a e => by cases e) (q s.toks)
theorem listUpd {stk : Addr → Prop} {hp : Hp} {s : Shared} {a : Addr} {vs ws : List V} {xs : Array Value} {n : Nat} {f : Array Value → Array Value} {Q : V → Hp → Prop} {v : V} {y : Value} (ok : HeapOk P stk hp s) (ha : hp a = some (.lst vs)) (g : IsL s.heap a xs n)
    (r : ∀ h', Keepy (Fz stk hp) (Fz stk (upd hp a (.lst ws))) s.heap h' → VRs P.nm (Fz stk (upd hp a (.lst ws))) h' ws (f xs).toList) (q : Q v (upd hp a (.lst ws))) (rv : P.VR stk hp s.heap v y) :
    PostT P no1 stk hp s (PV P stk Q) y { s with heap := s.heap.update a (Obj.mapSeq f) } := by
  have g' := IsL.update g f
  have sb : Heap.SameBut a s.heap (s.heap.update a (Obj.mapSeq f)) := Heap.SameBut.update ..
  obtain ⟨e, ok'⟩ := listChanged (own := no1) (tk := s.toks) (ws := ws) ok ha sb ⟨_, g'⟩ (r _)
  exact ⟨_, e, ok', v, q, VR_step e rv⟩
noncomputable def dAppend : DC := fun vs Q X hp => ∃ a us v, vs = [.ref a, v] ∧ hp a = some (.lst us) ∧ us.length ≤ lim ∧ Q .none (upd hp a (.lst (us ++ [v])))
theorem OkC.append : OkC P Fl d (.builtin "list.append") dAppend := by
  rintro A s Q X hp stk vs xs rm fs ok r ⟨a, us, v, hv, ha, hl, q⟩
  subst hv
  simp only [VRse] at r
  obtain ⟨x, ys, rfl, rx, y, zs, rfl, ry, rfl⟩ := r
  simp only [VRe] at rx
  subst rx
  obtain ⟨xs, ⟨n, g⟩, rz⟩ := ok.obj _ _ ha
  refine call_meets PySem.F.slot_list_append ⟨_, g, rfl⟩ PySem.F.entry_list_append (PySem.F.args_list_append_2 _ _) (list_append a xs n y (by have := size_of rz; have := lim_le; lia)) ⟨g, ?_⟩
  refine listUpd (f := fun z => z.push y) ok ha g (fun h' ky => ?_) q vNone
  rw [Array.toList_push]; exact (rz.keep ky).append (vCons (ry.keep ky) vNil)
noncomputable def dExtend : DC := fun vs Q X hp => ∃ a us v ws, vs = [.ref a, v] ∧ hp a = some (.lst us) ∧ itemsOf hp v = some ws ∧ us.length + ws.length ≤ lim ∧ Q .none (upd hp a (.lst (us ++ ws)))
theorem OkC.extend : OkC P Fl d (.builtin "list.extend") dExtend := by
  rintro A s Q X hp stk vs xs rm fs ok r ⟨a, us, v, ws, hv, ha, hw, hl, q⟩
  subst hv
  simp only [VRse] at r
  obtain ⟨x, ys, rfl, rx, y, zs, rfl, ry, rfl⟩ := r
  simp only [VRe] at rx
  subst rx
  obtain ⟨xs, ⟨n, g⟩, rz⟩ := ok.obj _ _ ha
  obtain ⟨b, xs2, T, n2, rfl, hT, g2, r2⟩ := itemsOf_real ok ry hw
  have h1 := size_of rz
  have h2 := size_of r2
  have h3 := lim_le
  have hdoor : ¬(!xs.isEmpty && Builtin.List.listTooLong (xs.size + xs2.size)) = true := by
    have : Builtin.List.listTooLong (xs.size + xs2.size) = false := by
      unfold Builtin.List.listTooLong
      have : xs.size + xs2.size ≤ sizeLine := by lia
      unfold sizeLine at this
      simp only [decide_eq_false_iff_not]
      lia
    rw [this]; simp
  have fin : PostT P no1 stk hp s (PV P stk Q) .none { s with heap := s.heap.update a (Obj.mapSeq fun z => z ++ xs2) } := by
    refine listUpd (f := fun z => z ++ xs2) ok ha g (fun h' ky => ?_) q vNone
    rw [Array.toList_append]; exact (rz.keep ky).append (r2.keep ky)
  rcases hT with rfl | rfl
  · exact call_meets PySem.F.slot_list_extend ⟨_, g, rfl⟩ PySem.F.entry_list_extend (PySem.F.args_list_extend_2 _ _) (AutoSeq1.list_extend_list_list_0 a xs n b xs2 n2 hdoor (by lia) (by lia)) ⟨g, g2, fin⟩
  · exact call_meets PySem.F.slot_list_extend ⟨_, g, rfl⟩ PySem.F.entry_list_extend (PySem.F.args_list_extend_2 _ _) (AutoSeq1.list_extend_list_tuple_0 a xs n b xs2 n2 hdoor (by lia) (by lia)) ⟨g, g2, fin⟩
noncomputable def dClear : DC := fun vs Q X hp => ∃ a us, vs = [.ref a] ∧ hp a = some (.lst us) ∧ us.length ≤ lim ∧ Q .none (upd hp a (.lst []))
theorem OkC.clear : OkC P Fl d (.builtin "list.clear") dClear := by
  rintro A s Q X hp stk vs xs rm fs ok r ⟨a, us, hv, ha, hl, q⟩
  subst hv
  simp only [VRse] at r
  obtain ⟨x, ys, rfl, rx, rfl⟩ := r
  simp only [VRe] at rx
  subst rx
  obtain ⟨xs, ⟨n, g⟩, rz⟩ := ok.obj _ _ ha
  refine call_meets PySem.F.slot_list_clear ⟨_, g, rfl⟩ PySem.F.entry_list_clear (PySem.F.args_list_clear_1 _) (AutoSeq1.list_clear_list_0 a xs n (by have := size_of rz; have := lim_le; lia)) ⟨g, ?_⟩
  exact listUpd (f := fun _ => #[]) ok ha g (fun h' ky => vNil) q vNone
theorem VRs.dropLast {F : Addr → Prop} {h : Heap} : ∀ {vs : List V} {xs : List Value}, VRs P.nm F h vs xs → VRs P.nm F h vs.dropLast xs.dropLast
  | [], xs, r => by simp only [VRse] at r; subst r; simp [VRse]
  | [v], xs, r => by
    simp only [VRse] at r
    obtain ⟨y, ys, rfl, p, rfl⟩ := r
    simp [VRse]
  | v :: u :: vs, xs, r => by
    simp only [VRse] at r
    obtain ⟨y, ys, rfl, p, z, zs, rfl, p2, q⟩ := r
    simp only [List.dropLast_cons_cons]
    exact vCons p (VRs.dropLast (vCons p2 q))
noncomputable def dPop : DC := fun vs Q X hp => ∃ a us v, vs = [.ref a] ∧ hp a = some (.lst us) ∧ us.length ≤ lim ∧ us.getLast? = some v ∧ Q v (upd hp a (.lst us.dropLast))
theorem OkC.pop : OkC P Fl d (.builtin "list.pop") dPop := by
  rintro A s Q X hp stk vs xs rm fs ok r ⟨a, us, v, hv, ha, hl, hlast, q⟩
  subst hv
  simp only [VRse] at r
  obtain ⟨x, ys, rfl, rx, rfl⟩ := r
  simp only [VRe] at rx
  subst rx
  obtain ⟨xs, ⟨n, g⟩, rz⟩ := ok.obj _ _ ha
  have hz := size_of rz
  rw [List.getLast?_eq_getElem?] at hlast
  obtain ⟨y, hy, ry⟩ := rz.get hlast
  have hy' : xs[xs.size - 1]? = some y := by rw [hz, ← Array.getElem?_toList]; exact hy
  refine call_meets PySem.F.slot_list_pop ⟨_, g, rfl⟩ PySem.F.entry_list_pop (PySem.F.args_list_pop_1 _) (list_pop_last a xs n y hy' (by have := lim_le; lia)) ⟨g, ?_⟩
  refine listUpd (f := fun z => z.eraseIdxIfInBounds (xs.size - 1)) ok ha g (fun h' ky => ?_) q ry
  have e : (xs.eraseIdxIfInBounds (xs.size - 1)).toList = xs.toList.dropLast := by
    have h0 := (Array.getElem?_eq_some_iff.mp hy').1
    rw [Array.toList_eraseIdxIfInBounds, List.dropLast_eq_take, List.eraseIdx_eq_take_drop_succ, Array.length_toList, List.drop_eq_nil_of_le (by rw [Array.length_toList]; lia), List.append_nil]
  rw [e]; exact (rz.keep ky).dropLast
theorem ints_mem {vs : List V} {ns : List Int} {F : Addr → Prop} {h : Heap} {xs : Array Value} (r : VRs P.nm F h vs xs.toList) (e : intsOf vs = some ns) : ∃ g : Value → Int, (∀ y ∈ xs, ∃ t, y = .int (g y) t) ∧ ns = xs.toList.map g := by
  have hI := ints_real r e
  refine ⟨fun y => match y with | .int i _ => i | _ => 0, ?_, ?_⟩
  · intro y hy
    have : ∀ {l : List Value} {ms : List Int}, IntsAre l ms → y ∈ l → ∃ i t, y = .int i t := by
      intro l ms hI hy
      induction hI with
      | nil => cases hy
      | cons n t _ ih => rcases List.mem_cons.mp hy with z | z
                         · exact ⟨_, _, z⟩
                         · exact ih z
    obtain ⟨i, t, rfl⟩ := this hI (by simpa using hy)
    exact ⟨t, rfl⟩
  · clear r e
    generalize xs.toList = l at hI
    induction hI with
    | nil => rfl
    | cons n t _ ih => simp only [List.map_cons]; rw [← ih]
noncomputable def dIndex : DC := fun vs Q X hp => ∃ v us ns k, vs = [v, .int k] ∧ listOf hp v = some us ∧ intsOf us = some ns ∧ us.length ≤ lim ∧ k ∈ ns ∧ Q (.int (ns.idxOf k)) hp
theorem idx_facts {xs : Array Value} {g : Value → Int} {k : Int} (hg : ∀ y ∈ xs, ∃ t, y = .int (g y) t) (hk : k ∈ xs.toList.map g) {t : Tok} : ∃ hj : (xs.toList.map g).idxOf k < xs.size, (∀ y, y ∈ xs → EqGives y (.int k t) (g y == k)) ∧ (g xs[(xs.toList.map g).idxOf k] == k) = true ∧ ∀ m (hm : m < xs.size), m < (xs.toList.map g).idxOf k → (g xs[m] == k) = false := by
  have hj : (xs.toList.map g).idxOf k < xs.size := by have := List.idxOf_lt_length_of_mem hk; simpa using this
  refine ⟨hj, fun y hy => ?_, ?_, fun m hm hlt => ?_⟩
  · obtain ⟨t', e⟩ := hg y hy
    have := EqGives.int (g y) k t' t
    rw [← e] at this; exact this
  · have h1 := List.getElem_idxOf (xs := xs.toList.map g) (x := k) (by simpa using hj)
    simp only [List.getElem_map, Array.getElem_toList] at h1
    rw [h1]; simp
  · cases q : g xs[m] == k with
    | false => rfl
    | true =>
      exfalso
      have e : g xs[m] = k := by simpa using q
      have h2 : (xs.toList.map g)[m]'(by simpa using hm) = k := by simp [e]
      have h4 := List.not_of_lt_findIdx (p := (· == k)) (xs := xs.toList.map g) (i := m) hlt
      simp [e] at h4
theorem OkC.index : OkC P Fl d (.builtin "list.index") dIndex := by
  rintro A s Q X hp stk vs xs rm fs ok r ⟨v, us, ns, k, hv, hu, hns, hl, hk, q⟩
  subst hv
  simp only [VRse] at r
  obtain ⟨x, ys, rfl, rx, y, zs, rfl, ry, rfl⟩ := r
  simp only [VRe] at ry
  obtain ⟨t, rfl⟩ := ry
  obtain ⟨a, xs, rfl, ⟨n, g⟩, rz⟩ := listOf_plain ok rx hu
  obtain ⟨gg, hg, rfl⟩ := ints_mem rz hns
  obtain ⟨hj, h1, h2, h3⟩ := idx_facts (t := t) hg hk
  have hz := size_of rz
  unfold lim at hl
  exact call_meets PySem.F.slot_list_index ⟨_, g, rfl⟩ PySem.F.entry_list_index (PySem.F.args_list_index_2 _ _) (list_index a xs n _ (fun y => gg y == k) h1 _ hj (by lia) h2 h3) ⟨g, hereT ok q vInt⟩
theorem VRs.erase {F : Addr → Prop} {h : Heap} : ∀ {vs : List V} {xs : List Value} {j : Nat}, VRs P.nm F h vs xs → VRs P.nm F h (vs.eraseIdx j) (xs.eraseIdx j)
  | [], xs, j, r => by simp only [VRse] at r; subst r; simp [VRse]
  | v :: vs, xs, 0, r => by
    simp only [VRse] at r
    obtain ⟨y, ys, rfl, p, q⟩ := r
    simpa using q
  | v :: vs, xs, j + 1, r => by
    simp only [VRse] at r
    obtain ⟨y, ys, rfl, p, q⟩ := r
    simp only [List.eraseIdx_cons_succ]
    exact vCons p (VRs.erase q)
noncomputable def dRemove : DC := fun vs Q X hp => ∃ a us ns k, vs = [.ref a, .int k] ∧ hp a = some (.lst us) ∧ intsOf us = some ns ∧ us.length ≤ lim ∧ k ∈ ns ∧ Q .none (upd hp a (.lst (us.eraseIdx (ns.idxOf k))))
theorem OkC.remove : OkC P Fl d (.builtin "list.remove") dRemove := by
  rintro A s Q X hp stk vs xs rm fs ok r ⟨a, us, ns, k, hv, ha, hns, hl, hk, q⟩
  subst hv
  simp only [VRse] at r
  obtain ⟨x, ys, rfl, rx, y, zs, rfl, ry, rfl⟩ := r
  simp only [VRe] at rx ry
  subst rx
  obtain ⟨t, rfl⟩ := ry
  obtain ⟨xs, ⟨n, g⟩, rz⟩ := ok.obj _ _ ha
  obtain ⟨gg, hg, rfl⟩ := ints_mem rz hns
  obtain ⟨hj, h1, h2, h3⟩ := idx_facts (t := t) hg hk
  have hz := size_of rz
  refine call_meets PySem.F.slot_list_remove ⟨_, g, rfl⟩ PySem.F.entry_list_remove (PySem.F.args_list_remove_2 _ _) (list_remove a xs n _ (fun y => gg y == k) h1 _ hj h2 h3 (by have := lim_le; lia)) ⟨g, ?_⟩
  refine listUpd (f := fun z => z.eraseIdxIfInBounds ((xs.toList.map gg).idxOf k)) ok ha g (fun h' ky => ?_) q vNone
  rw [Array.toList_eraseIdxIfInBounds]; exact (rz.keep ky).erase
noncomputable def dGet : DC := fun vs Q X hp => ∃ a es ep k, vs = [.ref a, .int k] ∧ hp a = some (.dict es ep) ∧ Q ((eAt es k).getD .none) hp
theorem OkC.get (hz : (P.H₀.get? sysModules).isSome = true) : OkC P Fl d (.builtin "dict.get") dGet := by
  rintro A s Q X hp stk vs xs rm fs ok r ⟨a, es, ep, k, hv, ha, q⟩
  subst hv
  simp only [VRse] at r
  obtain ⟨x, ys, rfl, rx, y, zs, rfl, ry, rfl⟩ := r
  simp only [VRe] at rx ry
  subst rx
  obtain ⟨t, rfl⟩ := ry
  obtain ⟨kvs, hd, er⟩ := ok.obj _ _ ha
  replace hd := hd.dictOf
  refine call_meetsIn PySem.F.slot_dict_get hd.typeIs PySem.F.entry_dict_get (PySem.F.args_dict_get_2 _ _) (meets_dict_get (intKind P.prog P.w) a (k := k) (intKind_is _ _ _ _) (not_sys ok ha hz)) ⟨_, hd.mapOf, ?_⟩
  refine hereT ok q ?_
  cases e : eAt es k with
  | none => rw [er.none e]; exact vNone
  | some v => obtain ⟨y, hy, ry⟩ := er.at e; rw [hy]; exact ry
noncomputable def dValues : DC := fun vs Q X hp => ∃ a es ep, vs = [.ref a] ∧ hp a = some (.dict es ep) ∧ Q (.vals a) hp
theorem OkC.values (hz : (P.H₀.get? sysModules).isSome = true) : OkC P Fl d (.builtin "dict.values") dValues := by
  rintro A s Q X hp stk vs xs rm fs ok r ⟨a, es, ep, hv, ha, q⟩
  subst hv
  simp only [VRse] at r
  obtain ⟨x, ys, rfl, rx, rfl⟩ := r
  simp only [VRe] at rx
  subst rx
  obtain ⟨kvs, hd, er⟩ := ok.obj _ _ ha
  replace hd := hd.dictOf
  refine call_meetsIn PySem.F.slot_dict_values hd.typeIs PySem.F.entry_dict_values (PySem.F.args_dict_values_1 _) (meets_dict_values (intKind P.prog P.w) a (not_sys ok ha hz)) ⟨⟨_, hd⟩, ?_⟩
  refine growQ (tk := s.toks) ok (fun b o e => Heap.get?_push_of_some _ e) q ?_
  simp only [VRe]
  exact ⟨_, rfl, fz_push ok, Heap.get?_push_size _ rfl⟩
noncomputable def dAdd : DC := fun vs Q X hp => ∃ a xs k, vs = [.ref a, .int k] ∧ hp a = some (.set xs) ∧ xs.length + 1 < scanBound ∧ Q .none (upd hp a (.set (if k ∈ xs then xs else k :: xs)))
theorem OkC.add : OkC P Fl d (.builtin "set.add") dAdd := by
  rintro A s Q X hp stk vs ys rm fs ok r ⟨a, xs, k, hv, ha, hl, q⟩
  subst hv
  simp only [VRse] at r
  obtain ⟨x, ys, rfl, rx, y, zs, rfl, ry, rfl⟩ := r
  simp only [VRe] at rx ry
  subst rx
  obtain ⟨t, rfl⟩ := ry
  have hS := ok.obj _ _ ha
  refine call_set_add (knd := intKind P.prog P.w) (k := k) (intKind_is _ _ _ _) rfl hS hl fun h' sb hS' => ?_
  refine ⟨_, Ext.change (own := no1) (tk := s.toks + 1) ok ha sb (by obtain ⟨o, _, _, _, g, _⟩ := hS'; exact ⟨o, g⟩), ok.change (tk := s.toks + 1) ha sb ?_, _, q, vNone⟩
  have e1 : (fun k' => decide (k' ∈ xs) || decide (k' = k)) = fun k' => decide (k' ∈ (if k ∈ xs then xs else k :: xs)) := by
    funext k'
    by_cases hk : k ∈ xs
    · rw [if_pos hk]
      by_cases h2 : k' = k
      · subst h2; simp [hk]
      · simp [h2]
    · rw [if_neg hk]
      by_cases h2 : k' = k <;> simp [h2, Bool.or_comm]
  have e2 : (if decide (k ∈ xs) = true then xs.length else xs.length + 1) = (if k ∈ xs then xs else k :: xs).length := by
    by_cases hk : k ∈ xs <;> simp [hk]
  rw [e1] at hS'
  have hS2 := hS'
  rw [e2] at hS2
  exact hS2
end Mine
namespace Mine
variable {P : Par} {Fl : Fly} {d : Nat} {sc : Scope} {ex : Nat → Value}
theorem li_ga : Slot "list_iterator" "__getattribute__" "object.__getattribute__" :=
  .of (owner := "object") (n := "__getattribute__") (by rw [typeLookup_type, builtinLookup_eq_fast]; kernel_rfl) (by decide +kernel) (by decide +kernel) (by decide +kernel)
    (by first | exact .inl (by decide +kernel) | exact .inr (by decide +kernel)) (by rw [isSubtype_type]; kernel_rfl)
theorem li_entry : entryFor table "object.__getattribute__" = some Builtin.«object.__getattribute__» := entryFor_of_tree (by kernel_rfl)
theorem li_args (a b : Value) : argsOk "object.__getattribute__" ⟨[a, b], []⟩ := by unfold argsOk; kernel_rfl
theorem li_look : typeLookup (.type "list_iterator") "__next__" = pure (some (.builtin "list_iterator.__next__")) := by rw [typeLookup_type, builtinLookup_eq_fast]; kernel_rfl
theorem li_type : typeOf (.builtin "list_iterator.__next__") = pure (.type "wrapper_descriptor") := by show builtinType _ = _; rw [builtinType_eq_fast]; kernel_rfl
theorem wd_get : Slot "wrapper_descriptor" "__get__" "wrapper_descriptor.__get__" :=
  .of (owner := "wrapper_descriptor") (n := "__get__") (by rw [typeLookup_type, builtinLookup_eq_fast]; kernel_rfl) (by decide +kernel) (by decide +kernel) (by decide +kernel)
    (by first | exact .inl (by decide +kernel) | exact .inr (by decide +kernel)) (by rw [isSubtype_type]; kernel_rfl)
theorem wd_set : typeLookup (.type "wrapper_descriptor") "__set__" = pure none := by rw [typeLookup_type, builtinLookup_eq_fast]; kernel_rfl
theorem wd_del : typeLookup (.type "wrapper_descriptor") "__delete__" = pure none := by rw [typeLookup_type, builtinLookup_eq_fast]; kernel_rfl
theorem wd_entry : entryFor table "wrapper_descriptor.__get__" = some Builtin.«wrapper_descriptor.__get__» := entryFor_of_tree (by kernel_rfl)
theorem wd_args (a b c : Value) : argsOk "wrapper_descriptor.__get__" ⟨[a, b, c], []⟩ := by unfold argsOk; kernel_rfl
theorem li_sub : isSubtype (.type "list_iterator") (.type "list_iterator") = pure true := by rw [isSubtype_type]; kernel_rfl
theorem li_owner : (".".intercalate ("list_iterator.__next__".cutAt '.').dropLast) = "list_iterator" := by
  have e0 : "list_iterator.__next__".cutAt '.' = ["list_iterator", "__next__"] := by first | rfl | decide +kernel
  rw [e0]; decide +kernel
section
variable {prog : Program} {w : World} {A : Around} {E : Value → Shared → Prop} {h : Heap} {g : Array GenState} {dr : Drawn} {t : Nat} {os : OsState} {a : Addr} {o : Obj}
theorem next_get {R : Result → Shared → Prop} (hx : h.get? a = some o) (hc : o.cls = .type "list_iterator")
    (hq : R (.ok (.ret (.ref h.objs.size))) ⟨h.push { cls := .type "method-wrapper", data := .fields #[.builtin "list_iterator.__next__", .ref a] }, g, dr, t, os⟩) :
    codeAny (model prog w) A (.call (.builtin "wrapper_descriptor.__get__") ⟨[.builtin "list_iterator.__next__", .ref a, .type "list_iterator"], []⟩) R ⟨h, g, dr, t, os⟩ := by
  have hT : (⟨h, g, dr, t, os⟩ : Shared).TypeIs (.ref a) "list_iterator" := ⟨_, hx, hc⟩
  have hT5 : (⟨h, g, dr, t, os⟩ : Shared).TypeIs (.builtin "list_iterator.__next__") "wrapper_descriptor" := li_type
  have f8 : isSubtype (.type "list_iterator") (.type (".".intercalate ("list_iterator.__next__".cutAt '.').dropLast)) = pure true := by rw [li_owner]; exact li_sub
  refine codeAny_call_builtin wd_get.plain wd_entry (wd_get.check _ _ _ _ _ _ _ _ hT5 (wd_args _ _ _) ?_)
  repeat (any_goals (first | assumption | wp_step))
theorem next_entry {tk : Tok} {Q : Fin → Shared → Prop} (hx : h.get? a = some o) (hc : o.cls = .type "list_iterator") (hdn : o.dict = none) {vs : Array Value} (hdd : o.data = .fields vs)
    (hq : Q (.done (.ret (.ref h.objs.size))) ⟨h.push { cls := .type "method-wrapper", data := .fields #[.builtin "list_iterator.__next__", .ref a] }, g, dr, t, os⟩) :
    wpAny (model prog w) A (Builtin.«object.__getattribute__» ⟨[.ref a, .str "__next__" tk], []⟩) Q E ⟨h, g, dr, t, os⟩ := by
  have hT : (⟨h, g, dr, t, os⟩ : Shared).TypeIs (.ref a) "list_iterator" := ⟨_, hx, hc⟩
  have hT5 : (⟨h, g, dr, t, os⟩ : Shared).TypeIs (.builtin "list_iterator.__next__") "wrapper_descriptor" := li_type
  have f4 := li_look
  have f5 := li_type
  have f6 := wd_get.lookup
  have f7 := wd_set
  have f8 := wd_del
  repeat (any_goals (first | assumption | wp_step))
  rw [hdd]
  show wpAny _ _ (instanceDict a false) _ _ _
  refine wpAny_bind (wpAny_loadPart hx ?_)
  rw [hdn, hc]
  repeat (any_goals (first | assumption | wp_step))
  exact next_get hx hc (wpAny_pure hq)
theorem next_attr {expr : Bool} {Q : Value → Shared → Prop} (hx : h.get? a = some o) (hc : o.cls = .type "list_iterator") (hdn : o.dict = none) {vs : Array Value} (hdd : o.data = .fields vs)
    (hq : Q (.ref h.objs.size) ⟨h.push { cls := .type "method-wrapper", data := .fields #[.builtin "list_iterator.__next__", .ref a] }, g, dr, t + 1, os⟩) :
    wpAny (model prog w) A (getAttr (.ref a) "__next__" expr) Q E ⟨h, g, dr, t, os⟩ := by
  have hT : ∀ t, (⟨h, g, dr, t, os⟩ : Shared).TypeIs (.ref a) "list_iterator" := fun t => ⟨_, hx, hc⟩
  have f2 := li_ga.lookup
  unfold getAttr
  refine wpAny_bind (wpAny_mkText ?_)
  unfold getAttrBy
  refine wpAny_holding (wpAny_bind (wpAny_typeOf (hT _) (wpAny_bind ?_)))
  rw [f2]
  refine wpAny_pure ?_
  show wpAny _ _ (if (onTheHeap (Value.type "list_iterator") && _) = true then _ else _) _ _ _
  rw [if_neg (by rw [show onTheHeap (Value.type "list_iterator") = false from rfl]; simp)]
  unfold getAttrByItsOwn
  refine wpAny_bind (wpAny_of_eq (a := none) (by unfold hookBefore; rw [show onTheHeap (Value.type "list_iterator") = false from rfl]; rfl) ?_)
  refine wpAny_bind (wpAny_attempt (wpAny_holding ?_))
  unfold callGetattribute
  rw [show (expr && onTheHeap (Value.builtin "object.__getattribute__")) = false from by cases expr <;> rfl, if_neg (by decide)]
  unfold boundAndCalled
  have f3 := li_ga.bind (.ref a)
  refine wpAny_bind (wpAny_of_eq f3 ?_)
  refine wpAny_call (codeAny_call_builtin li_ga.plain li_entry (li_ga.check _ _ _ _ _ _ _ _ (hT _) (li_args _ _) (next_entry hx hc hdn hdd ?_)))
  show wpAny _ _ (handedOut (.ref h.objs.size)) _ _ _
  rw [handedOut_of rfl]
  exact wpAny_pure hq
end
end Mine
namespace Mine
variable {P : Par} {Fl : Fly} {d : Nat} {sc : Scope} {ex : Nat → Value}
theorem li_bound (a : Value) : checkBoundCall "list_iterator.__next__" ⟨[a], []⟩ = pure () := by kernel_rfl
theorem nextCall {prog : Program} {w : World} {A : Around} {s : Shared} {m it : Addr} {R : Result → Shared → Prop} (gm : s.heap.get? m = some { cls := .type "method-wrapper", data := .fields #[.builtin "list_iterator.__next__", .ref it] })
    (h : wpAny (model prog w) A.in1 (Builtin.«list_iterator.__next__» ⟨[.ref it], []⟩) (fun fin s' => match fin with | .done f => R (.ok f) s' | .again c' => c'.quiet = true ∧ codeAny (model prog w) A c' R s') (fun e s' => R (.error e) s') s) :
    codeAny (model prog w) A (.call (.ref m) ⟨[], []⟩) R s := by
  refine codeAny_of_tree ?_
  show wpAny _ _ (callAny (.ref m) _) _ _ _
  obtain ⟨hh, g, dr, t, os⟩ := s
  dsimp only at gm
  unfold callAny
  refine wpAny_bind (wpAny_load gm ?_)
  dsimp only
  rw [if_pos (by decide)]
  show wpAny _ _ (if (Value.type "method-wrapper" != Value.type "method") = true then (do checkBoundCall "list_iterator.__next__" ⟨[.ref it], []⟩; again (.builtin "list_iterator.__next__" ⟨[.ref it], []⟩)) else _) _ _ _
  rw [if_pos (by decide)]
  refine wpAny_bind (wpAny_of_eq (li_bound _) ?_)
  refine wpAny_pure (⟨Code.quiet_builtin _ (by decide +kernel), codeAny_builtin entry_listiter_next ?_⟩)
  exact h
theorem nextItem {prog : Program} {w : World} {A : Around} {E : Value → Shared → Prop} {s : Shared} {it l : Addr} {i : Nat} {items : Array Value} {x : Value} {Q : Fin → Shared → Prop} (hit : s.heap.IsListIter it l i) (hl : s.heap.IsList l items) (hx : items[i]? = some x)
    (hQ : ∀ h', h'.IsListIter it l (i + 1) → Heap.SameBut it s.heap h' → (∀ o, s.heap.get? it = some o → ∃ o', h'.get? it = some o' ∧ o'.dict = o.dict) → Q (.done (.ret x)) { s with heap := h' }) :
    wpAny (model prog w) A (Builtin.«list_iterator.__next__» ⟨[.ref it], []⟩) Q E s := by
  obtain ⟨o, ho, hc, hd⟩ := id hit
  obtain ⟨ol, hol, _, nl, hdl⟩ := hl
  show wpAny _ _ (field (.ref it) 0 >>= _) _ _ s
  refine wpAny_bind (wpAny_field ho hd (x := .ref l) rfl ?_)
  show wpAny _ _ (if (Value.ref l == Value.none) = true then _ else _) _ _ s
  rw [if_neg (show ¬ ((Value.ref l == Value.none) = true) from Bool.false_ne_true)]
  show wpAny _ _ (field (.ref it) 1 >>= _) _ _ s
  refine wpAny_bind (wpAny_field ho hd (x := .int i 0) rfl ?_)
  show wpAny _ _ (seqItems? (.ref l) >>= _) _ _ s
  refine wpAny_bind (wpAny_seqItems hol hdl ?_)
  simp only [Int.toNat_natCast, hx]
  have g' := Heap.get?_update_self (Obj.mapFields (·.setIfInBounds 1 (rawInt ((i : Int) + 1)))) ho (Obj.isFreed_of_fields (Obj.data_mapFields hd _))
  refine wpAny_bind (wpAny_setField ho hd (by simp) (wpAny_pure (hQ _ ?_ (Heap.SameBut.update ..) fun o2 h2 => ⟨_, g', ?_⟩)))
  · exact ⟨_, g', (Obj.cls_mapFields ..).trans hc, by rw [Obj.data_mapFields hd]; simp [rawInt]⟩
  · rw [ho] at h2; cases h2
    obtain ⟨c, dd, dt, sl⟩ := o
    simp only at hd; subst hd; rfl
theorem nextEnd {prog : Program} {w : World} {A : Around} {E : Value → Shared → Prop} {s : Shared} {it l : Addr} {i : Nat} {items : Array Value} {Q : Fin → Shared → Prop} (hh : A.handled = none) (hit : s.heap.IsListIter it l i) (hl : s.heap.IsList l items) (hx : items[i]? = none)
    (hQ : ∀ h' (oI : Obj), s.heap.get? it = some oI → Heap.MadeExcOf (s.heap.update it (Obj.mapFields (·.setIfInBounds 0 Value.none))) h' (s.heap.objs.size + 1) (.type "StopIteration") [] → E (.ref (s.heap.objs.size + 1)) { s with heap := h' }) :
    wpAny (model prog w) A (Builtin.«list_iterator.__next__» ⟨[.ref it], []⟩) Q E s := by
  obtain ⟨o, ho, hc, hd⟩ := id hit
  obtain ⟨ol, hol, _, nl, hdl⟩ := hl
  show wpAny _ _ (field (.ref it) 0 >>= _) _ _ s
  refine wpAny_bind (wpAny_field ho hd (x := .ref l) rfl ?_)
  show wpAny _ _ (if (Value.ref l == Value.none) = true then _ else _) _ _ s
  rw [if_neg (show ¬ ((Value.ref l == Value.none) = true) from Bool.false_ne_true)]
  show wpAny _ _ (field (.ref it) 1 >>= _) _ _ s
  refine wpAny_bind (wpAny_field ho hd (x := .int i 0) rfl ?_)
  show wpAny _ _ (seqItems? (.ref l) >>= _) _ _ s
  refine wpAny_bind (wpAny_seqItems hol hdl ?_)
  simp only [Int.toNat_natCast, hx]
  refine wpAny_bind (wpAny_rule (wpAny_bind (wpAny_setField ho hd (by simp) ?_)))
  show wpAny _ _ (newExc (.type "StopIteration") [] >>= _) _ _ _
  refine wpAny_bind ?_
  simp only [newExc, newTuple]
  refine wpAny_bind (wpAny_newObj_type ?_ (by size_fits))
  refine wpAny_bind (m := firstArgMember _ _) (wpAny_of_eq (a := Value.none) (by first | rfl | (simp only [firstArgMember]; rfl)) ?_)
  refine wpAny_newObj_type ?_ (by size_fits)
  unfold raiseNew
  refine wpAny_bind (wpAny_handled ?_)
  rw [hh]
  refine wpAny_bind (wpAny_pure (wpAny_throw ?_))
  generalize hH : s.heap.update it (Obj.mapFields (·.setIfInBounds 0 Value.none)) = H at hQ ⊢
  have hz : H.objs.size = s.heap.objs.size := by rw [← hH]; exact Heap.size_update ..
  have hz2 : (H.push { cls := .type "tuple", dict := none, data := .seq ([] : List Value).toArray }).objs.size = s.heap.objs.size + 1 := by rw [Heap.size_push, hz]
  rw [hz2]
  refine hQ _ o ho ⟨fun b ob hb => Heap.get?_push_of_some _ (Heap.get?_push_of_some _ hb), ?_, H.objs.size, ?_, ?_, ?_⟩
  · cases q : H.get? (s.heap.objs.size + 1) with
    | none => rfl
    | some ob => have := Heap.lt_size q; rw [hz] at this; exact absurd this (Nat.not_lt.mpr (Nat.le_succ _))
  · rw [← hz2]; exact Heap.get?_push_size _ rfl
  · exact get_size H
  · exact Heap.get?_push_of_some _ (Heap.get?_push_size _ rfl)
end Mine
namespace Mine
variable {P : Par} {Fl : Fly} {d : Nat} {sc : Scope} {ex : Nat → Value}
noncomputable def dIter : DC := fun vs Q X hp => ∃ l us, vs = [.ref l] ∧ hp l = some (.lst us) ∧ ∀ I, hp I = Option.none → Q (.ref I) (upd hp I (.it l 0))
theorem OkC.iter : OkC P Fl d (.builtin "iter") dIter := by
  rintro A s Q X hp stk vs xs rm fs ok r ⟨l, us, hv, hl, q⟩
  subst hv
  simp only [VRse] at r
  obtain ⟨x, ys, rfl, rx, rfl⟩ := r
  simp only [VRe] at rx
  subst rx
  obtain ⟨xs, p, rz⟩ := ok.obj _ _ hl
  refine call_function_entry (by decide +kernel) (by decide +kernel) kdk_entry_iter (kdk_args_iter _) ?_
  unfold Builtin.«iter»
  refine wpAny_bind (m := someArgs "iter" 1 2 _) (wpAny_of_eq (a := [Value.ref l]) (by first | rfl | kernel_rfl!) ?_)
  show wpAny _ _ (pyIter (.ref l) >>= _) _ _ _
  refine wpAny_bind (wpAny_pyIter_list p.isList ?_)
  refine wpAny_pure ⟨_, rfl, ?_⟩
  refine newTracked (tk := s.toks) (o := .it l 0) ok rfl ?_ q
  exact ⟨⟨_, Heap.get?_push_size _ rfl, rfl, rfl⟩, _, Heap.get?_push_size _ rfl, rfl⟩
noncomputable def bNextA : V → (V → Hp → Prop) → Hp → Prop := fun o Q hp => match o with
  | .ref I => ∃ l k, hp I = some (.it l k) ∧ Q (.nxt I) hp
  | _ => False
theorem OkGet.next : OkGet P "__next__" bNextA := by
  intro A s hp stk o x b Q X ok ro h
  cases o <;> first | exact h.elim | skip
  rename_i I
  obtain ⟨l, k, hI, q⟩ := h
  simp only [VRe] at ro
  subst ro
  obtain ⟨⟨ob, g, hc, hd⟩, o2, g2, hdn⟩ := ok.obj _ _ hI
  rw [g] at g2; cases g2
  obtain ⟨hh, gg, dr, t, os⟩ := s
  refine next_attr g hc hdn hd ?_
  refine growQ (s := ⟨hh, gg, dr, t, os⟩) (tk := t + 1) ok (fun b o e => Heap.get?_push_of_some _ e) q ?_
  simp only [VRe]
  exact ⟨_, rfl, fz_push (s := ⟨hh, gg, dr, t, os⟩) ok, Heap.get?_push_size _ rfl⟩
theorem Sim.getAttr {n : Str} {f : V → (V → Hp → Prop) → Hp → Prop} (hf : OkGet P n f) {o : Expr} {pos : Pos} {D : DE} (h : SimE P Fl d sc o D) (hb : ∀ env, attributeBase o n env (eval o env) = eval o env) : SimE P Fl d sc (.Attribute o n pos) (dAttr f D) := by
  intro A env s Q X loc hp stk rm hs ev ok hD
  rw [T, arm_eval_Attribute, hb env]
  refine wpAny_bind ((h A env s _ X loc hp stk rm hs ev ok hD).thn fun x hp1 s1 e1 ok1 hq  => ?_)
  obtain ⟨v, q, r⟩ := hq
  refine wpAny_bind (wpAny_standAt (wpAny_bind (wpAny_holding (wpAny_mono (hf A s1 hp1 stk v x true _ (lX Fl X) ok1 r q) (fun y s2 z => ?_) fun _ _ z => z.back P e1))))
  exact wpAny_bind (wpAny_letTemporaryGo (wpAny_pure (z.back P e1)))
noncomputable def dNext (e : DE) : DE := fun Q X loc hp => e (fun v hp1 => ∃ I l k us, v = .nxt I ∧ hp1 I = some (.it l k) ∧ hp1 l = some (.lst us) ∧ match us[k]? with
  | some u => Q u (upd hp1 I (.it l (k + 1)))
  | Option.none => X 0 (del hp1 I)) X loc hp
theorem Sim.next (hd : 0 < d) (hex : ex 0 = .type "StopIteration") {f : Expr} {pos : Pos} {D : DE} (h : SimE P (flyK ex) d sc f D)
    (hc : ∀ env, eval (.Call f [] [] pos) env = (do callWith pos (← eval f env) [] (backTo pos (starEach [] env)) [])) : SimE P (flyK ex) d sc (.Call f [] [] pos) (dNext D) := by
  intro A env s Q X loc hp stk rm hs ev ok hD
  rw [T, hc env]
  refine wpAny_bind ((h A env s _ X loc hp stk rm hs ev ok hD).thn fun x hp1 s1 e1 ok1 hq  => ?_)
  obtain ⟨v, ⟨I, l, k, us, hv, hI, hl, q⟩, r⟩ := hq
  subst hv
  simp only [VRe] at r
  obtain ⟨m, rfl, fm, gm⟩ := r
  refine callWith_any (R := fun h => h.get? m = some { cls := .type "method-wrapper", data := .fields #[.builtin "list_iterator.__next__", .ref I] }) (fun h g => ⟨_, .inr (.inl rfl), ?_⟩) (PySem.evalArgs_none ⟨gm, ?_⟩)
  · unfold keeperOf
    exact (Looks.ld (part := none) g).andThen (Looks.of_pure (by kernel_rfl))
  obtain ⟨xs, p, rz⟩ := ok1.obj _ _ hl
  obtain ⟨hit, o2, g2, hdn⟩ := ok1.obj _ _ hI
  have hIl : I ≠ l := by rintro rfl; rw [hI] at hl; cases hl
  refine wpAny_call (nextCall gm ?_)
  cases hu : us[k]? with
  | some u =>
    rw [hu] at q
    obtain ⟨y, hy, ry⟩ := rz.get hu
    refine nextItem hit p.isList (x := y) (by rw [← Array.getElem?_toList]; exact hy) fun h' hit' sb kd => ?_
    obtain ⟨o3, g3, hd3⟩ := kd _ g2
    have e2 : Ext no1 stk hp1 s1 (upd hp1 I (.it l (k + 1))) { s1 with heap := h' } := Ext.change (tk := s1.toks) ok1 hI sb ⟨_, g3⟩
    have ok2 : HeapOk P stk (upd hp1 I (.it l (k + 1))) { s1 with heap := h' } := ok1.change (tk := s1.toks) hI sb ⟨hit', o3, g3, hd3.trans hdn⟩
    exact ⟨_, e1.trans e2, ok2, u, q, VR_step e2 ry⟩
  | none =>
    rw [hu] at q
    have hl2 : xs[k]? = Option.none := by
      rw [Array.getElem?_eq_none_iff, size_of rz]
      exact List.getElem?_eq_none_iff.mp hu
    refine nextEnd (rm.hd hd) hit p.isList hl2 fun h' oI hoI hm => ?_
    obtain ⟨ob, gI, hcI, hdI⟩ := id hit
    have sb : Heap.SameBut I s1.heap (s1.heap.update I (Obj.mapFields (·.setIfInBounds 0 Value.none))) := Heap.SameBut.update ..
    have g' := Heap.get?_update_self (Obj.mapFields (·.setIfInBounds 0 Value.none)) gI (Obj.isFreed_of_fields (Obj.data_mapFields hdI _))
    have okA : HeapOk P stk (upd hp1 I .fld) { s1 with heap := s1.heap.update I (Obj.mapFields (·.setIfInBounds 0 Value.none)) } := ok1.change (tk := s1.toks) hI sb ⟨_, _, g', Obj.data_mapFields hdI _⟩
    have eA : Ext no1 stk hp1 s1 (upd hp1 I .fld) { s1 with heap := s1.heap.update I (Obj.mapFields (·.setIfInBounds 0 Value.none)) } := Ext.change (tk := s1.toks) ok1 hI sb ⟨_, g'⟩
    have okB := okA.drop I
    have eB := eA.trans (Ext.drop (own := no1) (stk := stk) I)
    have hdel : del (upd hp1 I O.fld) I = del hp1 I := by
      funext b
      by_cases z : b = I
      · subst z; simp
      · rw [del_ne z, del_ne z, upd_ne z]
    rw [hdel] at okB eB
    obtain ⟨hp3, e3, ok3, f3⟩ := madeFly (own := no1) (k := 0) (ex := ex) okB hm hex
    exact ⟨hp3, (e1.trans eB).trans e3, ok3, (0, del hp1 I), q, f3⟩
theorem ok_iadd : OkB P Fl (inplaceOp .Add) (bInt (· + ·)) := okInt b2_inv fun A s G E i j t t' _ k => AutoIntOps.iadd_0 (k _ _ fun _ _ => vInt)
theorem ok_isub : OkB P Fl (inplaceOp .Sub) (bInt (· - ·)) := okInt b2_inv fun A s G E i j t t' _ k => AutoIntOps.isub_0 (k _ _ fun _ _ => vInt)
end Mine
namespace Mine
variable {P : Par} {Fl : Fly} {d : Nat} {sc : Scope} {ex : Nat → Value}
theorem foldl_cps (l : List Nat) : ∀ (k : Nat) (acc : Array Nat), List.foldl (· ++ ·) acc (List.replicate k l.toArray) = (acc.toList ++ (List.replicate k l).flatten).toArray
  | 0, acc => by simp
  | k + 1, acc => by simp [List.replicate_succ, foldl_cps l k, List.append_assoc]
theorem mul_eq (l : List Nat) (n : Int) : Txt.mul ⟨l.toArray⟩ n = ⟨((List.replicate n.toNat l).flatten).toArray⟩ := by
  unfold Txt.mul
  split
  · rename_i h
    have : n.toNat = 0 := by lia
    rw [this]; rfl
  · split
    · rename_i h1 h2
      simp only [Bool.or_eq_true, beq_iff_eq] at h2
      rcases h2 with h2 | h2
      · subst h2; simp
      · have : l = [] := by
          have : l.length = 0 := by simpa [Str.length] using h2
          exact List.length_eq_zero_iff.mp this
        subst this; simp
    · simp only [foldl_cps]
      simp
noncomputable def bMulA : B2 := fun x y Q hp => bothO (asInt x) (asInt y) (fun a b => (small a ∨ small b) ∧ Q (.int (a * b)) hp)
  (bothO (asStr x) (asInt y) (fun l n => -(10 ^ 9) < n ∧ n < 10 ^ 9 ∧ l.length * n.toNat ≤ lim ∧ Q (.str (List.replicate n.toNat l).flatten) hp)
    (∃ n, y = .int n ∧ ∃ vs, listOf hp x = some vs ∧ -(10 ^ 9) < n ∧ n < 10 ^ 9 ∧ vs.length * n.toNat ≤ lim ∧ Q (.lst (List.replicate n.toNat vs).flatten) hp))
theorem bMulA_inv {v u : V} {Q : V → Hp → Prop} {hp : Hp} (h : bMulA v u Q hp) : (∃ a b, v = .int a ∧ u = .int b ∧ (small a ∨ small b) ∧ Q (.int (a * b)) hp) ∨ (∃ l n, v = .str l ∧ u = .int n ∧ -(10 ^ 9) < n ∧ n < 10 ^ 9 ∧ l.length * n.toNat ≤ lim ∧ Q (.str (List.replicate n.toNat l).flatten) hp) ∨ ∃ n, u = .int n ∧ ∃ vs, listOf hp v = some vs ∧ -(10 ^ 9) < n ∧ n < 10 ^ 9 ∧ vs.length * n.toNat ≤ lim ∧ Q (.lst (List.replicate n.toNat vs).flatten) hp := by
  rcases bothO_inv h with ⟨i, j, e1, e2, h⟩ | h
  · exact .inl ⟨i, j, asInt_inv e1, asInt_inv e2, h⟩
  · rcases bothO_inv h with ⟨i, j, e1, e2, h⟩ | h
    · exact .inr (.inl ⟨i, j, asStr_inv e1, asInt_inv e2, h⟩)
    · exact .inr (.inr h)
theorem VRs.rep {F : Addr → Prop} {h : Heap} {vs : List V} {xs : List Value} (r : VRs P.nm F h vs xs) : ∀ k : Nat, VRs P.nm F h (List.replicate k vs).flatten (List.replicate k xs).flatten
  | 0 => by simpa using vNil
  | k + 1 => by simpa [List.replicate_succ] using r.append (VRs.rep r k)
theorem mulList {A : Around} {E : Value → Shared → Prop} {prog : Program} {w : World} {s : Shared} {l : Addr} {items : Array Value} {k : Nat} {x : Int} {u : Tok} {Q : Value → Shared → Prop} (hl : IsL s.heap l items k) (hlo : -(2 ^ 63 : Int) ≤ x) (hhi : x < 2 ^ 63) (hsz : items.size * x.toNat ≤ 2 ^ 24)
    (h : Q (.ref s.heap.objs.size) { s with heap := s.heap.push { cls := .type "list", data := .seq (List.foldl (fun x1 x2 => x1 ++ x2) #[] (List.replicate (if items.isEmpty = true then 0 else x.toNat) items)) } }) :
    wpAny (model prog w) A (binaryOp .Mult (.ref l) (.int x u)) Q E s :=
  wpAny_binaryOp_repeat_ref (T := "list") (U := "int") (by decide) ⟨_, hl, rfl⟩ (fun s' => typeIs_int s' x u) noFill_list_mul PySem.F.fills_int_mul PySem.F.slot_int_rmul repeat_list PySem.F.slot_int_index.lookup
    (call_meets PySem.F.slot_int_rmul (typeIs_int s x u) PySem.F.entry_int_rmul (PySem.F.args_int_rmul_2 _ _) (int___rmul___int_list x u l items k)
      ⟨hl, rfl, ⟨_, hl, rfl⟩, call_meets PySem.F.slot_list_mul ⟨_, hl, rfl⟩ PySem.F.entry_list_mul (PySem.F.args_list_mul_2 _ _)
        (AutoListH.list___mul___list_int_3 l items k x u (by simp [Builtin.List.listFitsIndex]; lia) (by lia) (by simp [Builtin.List.listTooLong, sizeLine]; lia)) ⟨hl, h⟩⟩)
theorem ok_mulA : OkB P Fl (binaryOp .Mult) bMulA := by
  intro A s Q X hp stk v u x y rm ok rv ru h
  have lists : ∀ n : Int, u = .int n → (∃ vs, listOf hp v = some vs ∧ -(10 ^ 9) < n ∧ n < 10 ^ 9 ∧ vs.length * n.toNat ≤ lim ∧ Q (.lst (List.replicate n.toNat vs).flatten) hp) → T P no1 stk A (binaryOp .Mult x y) hp s (PV P stk Q) (lX Fl X) := by
    rintro n rfl ⟨vs, hv, h1, h2, h3, q⟩
    simp only [VRe] at ru
    obtain ⟨t, rfl⟩ := ru
    obtain ⟨a, xs, rfl, ⟨k, g⟩, rz⟩ := listOf_plain ok rv hv
    have hz := size_of rz
    unfold lim at h3
    refine mulList g (by lia) (by lia) (by rw [hz]; lia) ?_
    refine newFrozen (tk := s.toks) ok ?_ q
    rw [listMul_foldl]
    simp only [List.nil_append, Array.toList_empty]
    cases hE : xs.isEmpty with
    | true =>
      have h0 : xs.toList = [] := by
        have : xs = #[] := by simpa using hE
        rw [this]
      rw [h0] at rz ⊢
      have := VRs.rep rz n.toNat
      simpa using this
    | false => simpa using VRs.rep rz n.toNat
  rcases bMulA_inv h with ⟨a, b, rfl, rfl, hc, h⟩ | ⟨l, n, rfl, rfl, h1, h2, h3, q⟩ | ⟨n, rfl, h5⟩
  · obtain ⟨t, rfl⟩ := inv_int rv
    obtain ⟨t', rfl⟩ := inv_int ru
    exact mul_small hc fun y tk hy => hereT ok h (hy _ _)
  rotate_left
  · exact lists _ rfl h5
  · obtain ⟨t, rfl⟩ := inv_str rv
    obtain ⟨t', rfl⟩ := inv_int ru
    refine SB.mul ⟨?_, fun hn hx => ?_, fun hn hx => ?_⟩ fun t' k => ?_
    · rw [decide_eq_false (by lia), decide_eq_false (by lia)]; rfl
    · have hl : ((⟨l.toArray⟩ : Str).length : Int) = l.length := by simp [Str.length]
      rw [hl]
      have h4 : (l.length : Int) * n ≤ lim := by
        have : ((l.length * n.toNat : Nat) : Int) ≤ (lim : Nat) := by exact_mod_cast h3
        rw [Int.natCast_mul, Int.toNat_of_nonneg (by lia)] at this
        exact this
      have h5 : (l.length : Int) ≤ (2 ^ 63 - 1) / n := by
        rw [Int.le_ediv_iff_mul_le (by lia)]
        unfold lim at h4; lia
      lia
    · have hl : (⟨l.toArray⟩ : Str).length = l.length := by simp [Str.length]
      rw [hl]
      unfold Builtin.Str.tooLong
      have := lim_le
      simp only [decide_eq_false_iff_not]; lia
    · rw [mul_eq]; exact hereT ok q vStr
noncomputable def strsOf : List V → Option (List (List Nat))
  | [] => some []
  | v :: vs => (asStr v).bind fun l => (strsOf vs).map (l :: ·)
noncomputable def dJoin0 : DC := fun vs Q X hp => ∃ v us ls, vs = [.str [], v] ∧ listOf hp v = some us ∧ strsOf us = some ls ∧ ls.flatten.length ≤ lim ∧ Q (.str ls.flatten) hp
theorem strs_real {F : Addr → Prop} {h : Heap} : ∀ {vs : List V} {xs : List Value} {ls : List (List Nat)}, VRs P.nm F h vs xs → strsOf vs = some ls → ∃ l : List (Str × Tok), xs = strValues l ∧ l.map (·.1) = ls.map fun z => ⟨z.toArray⟩
  | [], xs, ls, r, e => by simp only [VRse] at r; cases e; subst r; exact ⟨[], rfl, rfl⟩
  | v :: vs, xs, ls, r, e => by
    obtain ⟨i, e1, e⟩ := Option.bind_eq_some_iff.mp e
    cases asStr_inv e1
    simp only [VRse, VRe] at r
    obtain ⟨y, ys, rfl, ⟨t, rfl⟩, q⟩ := r
    obtain ⟨ms, hm, rfl⟩ := Option.map_eq_some_iff.mp e
    obtain ⟨l, rfl, hl⟩ := strs_real q hm
    exact ⟨(_, t) :: l, rfl, by simp [hl]⟩
theorem glued_nil (ls : List (List Nat)) : Txt.join ⟨([] : List Nat).toArray⟩ (ls.map fun z => ⟨z.toArray⟩) = ⟨ls.flatten.toArray⟩ := by
  unfold Txt.join Builtin.Str.glued
  cases ls with
  | nil => rfl
  | cons a ls =>
    simp only [List.map_cons, List.drop_succ_cons, List.drop_zero, List.headD_cons, List.flatten_cons]
    have : ∀ (ls : List (List Nat)) (acc : Array Nat), List.foldl (fun acc (p : Str) => acc ++ (⟨([] : List Nat).toArray⟩ : Str).cps ++ p.cps) acc (ls.map fun z => ⟨z.toArray⟩) = (acc.toList ++ ls.flatten).toArray := by
      intro ls
      induction ls with
      | nil => intro acc; simp
      | cons b ls ih => intro acc; simp only [List.map_cons, List.foldl_cons]; rw [ih]; simp [List.append_assoc]
    rw [this]
theorem sum_len (ls : List (List Nat)) : ∀ n, ((ls.map fun z => (⟨z.toArray⟩ : Str)).toArray.foldl (fun n s => n + s.length + (⟨([] : List Nat).toArray⟩ : Str).length) n) = n + ls.flatten.length := by
  intro n
  rw [List.foldl_toArray']
  · induction ls generalizing n with
    | nil => simp
    | cons a ls ih => simp only [List.map_cons, List.foldl_cons]; rw [ih]; simp [Str.length]; lia
  · simp
theorem OkC.join0 : OkC P Fl d (.builtin "str.join") dJoin0 := by
  rintro A s Q X hp stk vs xs rm fs ok r ⟨v, us, ls, hv, hu, hls, hl, q⟩
  subst hv
  simp only [VRse] at r
  obtain ⟨x, ys, rfl, rx, y, zs, rfl, ry, rfl⟩ := r
  simp only [VRe] at rx
  obtain ⟨t, rfl⟩ := rx
  obtain ⟨a, xs, rfl, p, rz⟩ := listOf_plain ok ry hu
  obtain ⟨l, hx, hm⟩ := strs_real rz hls
  have p' : s.heap.IsList a (strValues l).toArray := by rw [← hx]; simpa using p.isList
  refine SC.join p' hm ?_ fun t' k => ?_
  · unfold JoinOk Builtin.Str.tooLong
    rw [sum_len]
    have := lim_le
    simp only [Bool.not_eq_true', decide_eq_false_iff_not]; lia
  · rw [glued_nil]; exact hereT ok q vStr
theorem meets_bool_list (a : Addr) (xs : Array Value) (hfit : (xs.size : Int) < 2 ^ 63) : Meets (Builtin.«bool.__new__» ⟨[.type "bool", .ref a], []⟩) (fun _ R s => s.heap.IsList a xs ∧ R (.ok (.ret (.bool (!xs.isEmpty)))) { s with toks := s.toks + 1 + 1 }) :=
  Meets.of_wp fun prog w A R s ⟨hl, hs⟩ => by
    obtain ⟨hp, g, d, tk, os⟩ := s
    have f1 := PySem.F.conv_sub_bool
    repeat (any_goals (first | assumption | with_reducible apply wpAny_truthy_list hl hfit | wp_step))
    all_goals first | exact ⟨_, rfl, hs⟩ | skip
noncomputable def dBool : DC := fun vs Q X hp => ∃ v us, vs = [v] ∧ listOf hp v = some us ∧ us.length ≤ lim ∧ Q (.bool (!us.isEmpty)) hp
theorem OkC.bool : OkC P Fl d (.type "bool") dBool := by
  rintro A s Q X hp stk vs xs rm fs ok r ⟨v, us, hv, hu, hl, q⟩
  subst hv
  simp only [VRse] at r
  obtain ⟨x, ys, rfl, rx, rfl⟩ := r
  obtain ⟨a, xs, rfl, p, rz⟩ := listOf_plain ok rx hu
  have hz := size_of rz
  unfold lim at hl
  have he : (!xs.isEmpty) = !us.isEmpty := by
    cases us with
    | nil => have : xs = #[] := Array.eq_empty_of_size_eq_zero (by simpa using hz)
             rw [this]; rfl
    | cons u us =>
      have : xs.isEmpty = false := by rw [Array.isEmpty_eq_false_iff]; intro e0; rw [e0] at hz; simp at hz
      rw [this]; rfl
  refine call_bool_1 (meets_bool_list a xs (by lia)) ⟨p.isList, ?_⟩
  exact ⟨rfl, by rw [he]; exact hereT ok q vBool⟩
end Mine
namespace Mine
variable {P : Par} {Fl : Fly} {d : Nat} {sc : Scope} {ex : Nat → Value}
noncomputable def nthS : List Stmt → Nat → Stmt
  | [], _ => .Pass ⟨0, 0, 0, 0⟩
  | s :: _, 0 => s
  | _ :: l, n + 1 => nthS l n
noncomputable def partS : Stmt → List Stmt × Scope × Arguments × Pos
  | .FunctionDef _ a b _ _ _ s _ _ p => (b, s, a, p)
  | .ClassDef _ _ _ b _ _ _ _ _ _ _ => (b, { kind := .function, names := [], isGenerator := false, isCoroutine := false, more := [] }, default, ⟨0, 0, 0, 0⟩)
  | _ => ([], { kind := .function, names := [], isGenerator := false, isCoroutine := false, more := [] }, default, ⟨0, 0, 0, 0⟩)
noncomputable def bodyS (s : Stmt) : List Stmt := (partS s).1
noncomputable def scopeS (s : Stmt) : Scope := (partS s).2.1
noncomputable def argsS (s : Stmt) : Arguments := (partS s).2.2.1
noncomputable def posS (s : Stmt) : Pos := (partS s).2.2.2
noncomputable def vOk (sc : Scope) (x : Str) : Bool := (match sc.names.lookup x with | some .local => true | some .cell => true | some .free => true | _ => false) && !(x == ("__debug__" : Str)) && !(x == ("__classdict__" : Str))
noncomputable def lOk (sc : Scope) (x : Str) : Bool := match sc.names.lookup x with | some .local => true | some .cell => true | _ => false
noncomputable def gOk (sc : Scope) (x : Str) : Bool := decide (sc.names.lookup x = some .globalImplicit) && !(x == ("__debug__" : Str))
theorem Sim.v {i : Nat} {x : Str} {pos : Pos} (hx : P.nm i = x) (h : vOk sc x = true) : SimE P Fl d sc (.Name x pos) (dVar i) := by
  unfold vOk at h
  rw [Bool.and_eq_true, Bool.and_eq_true, Bool.not_eq_true', Bool.not_eq_true'] at h
  exact Sim.var hx h.1.1 h.1.2 h.2
theorem SimG.v (inj : ∀ i j, P.nm i = P.nm j → i = j) {i : Nat} {x : Str} {pos : Pos} (hx : P.nm i = x) (h : lOk sc x = true) : SimG P Fl d sc (.Name x pos) [i] (gVar i) := SimG.var inj hx h
theorem SimS.asgN {i : Nat} {x : Str} {pos pos' : Pos} {e : Expr} {D : DE} (inj : ∀ i j, P.nm i = P.nm j → i = j) (hx : P.nm i = x) (hk : lOk sc x = true)
    (h : SimE P Fl d sc e D) (hs' : ∀ env : Env, env.scope = sc → swapsWith e (some (.Name x pos')) pos.line env = pure false) : SimS P Fl d sc (.Assign [.Name x pos'] e pos) (sAsg D (gVar i)) := SimS.asgName inj hx hk h hs'
theorem Sim.g {mg mb : Str → Option Value} (tp : TopOk P mg mb) {x : Str} {pos : Pos} {v : Value} (h : gOk sc x = true) (hv : mg x = some v) : SimE P Fl d sc (.Name x pos) (dCon (.fn v)) := by
  unfold gOk at h
  rw [Bool.and_eq_true, Bool.not_eq_true', decide_eq_true_eq] at h
  exact Sim.glob tp h.1 h.2 hv
theorem Sim.b {mg mb : Str → Option Value} (tp : TopOk P mg mb) {x : Str} {pos : Pos} {v : Value} (h : gOk sc x = true) (hm : mg x = Option.none) (hv : mb x = some v) : SimE P Fl d sc (.Name x pos) (dCon (.fn v)) := by
  unfold gOk at h
  rw [Bool.and_eq_true, Bool.not_eq_true', decide_eq_true_eq] at h
  exact Sim.built tp h.1 h.2 hm hv
noncomputable def FnOk (P : Par) (a : Addr) (st : Stmt) (bd : List V → Hp → Option (List (Nat × V))) : Prop := ∃ fd, FunFacts P a fd (bodyS st) ∧ fd.scope = scopeS st ∧ BindOk P fd bd
noncomputable def chkIds (nm : Nat → Str) (sc : Scope) (ids : List Nat) : Bool := (ids.all fun i => (sc.names.lookup (nm i) == some .local) || (sc.names.lookup (nm i) == some .cell)) && decide (ids.map nm).Nodup
noncomputable def BdIds (bd : List V → Hp → Option (List (Nat × V))) (ids : List Nat) : Prop := ∀ vs hp ps, bd vs hp = some ps → ps.map (·.1) = ids
theorem BdIds.pos (ids : List Nat) : BdIds (bdPos ids) ids := by
  intro vs hp ps h
  by_cases hl : vs.length = ids.length
  · cases (if_pos hl).symm.trans h; exact List.map_fst_zip (by lia)
  · cases (if_neg hl).symm.trans h
theorem BdIds.def1 (i j : Nat) : BdIds (bdDef1 i j) [i, j] := by
  intro vs hp ps h
  rcases vs with _ | ⟨v, _ | ⟨u, us⟩⟩ <;> cases h
  rfl
theorem BdIds.star1 (i r : Nat) : BdIds (bdStar1 i r) [i, r] := by
  intro vs hp ps h
  rcases vs with _ | ⟨v, us⟩
  · cases h
  · by_cases hl : us.length ≤ lim
    · cases (if_pos hl).symm.trans h; rfl
    · cases (if_neg hl).symm.trans h
theorem BdIds.star2 (i j r : Nat) : BdIds (bdStar2 i j r) [i, j, r] := by
  intro vs hp ps h
  rcases vs with _ | ⟨v, _ | ⟨u, us⟩⟩
  · cases h
  · cases h
  · by_cases hl : us.length ≤ lim
    · cases (if_pos hl).symm.trans h; rfl
    · cases (if_neg hl).symm.trans h
theorem OkK.fn {nm : Nat → Str} (hnm : P.nm = nm) {mg mb : Str → Option Value} (tp : TopOk P mg mb) {a : Addr} {st : Stmt} {bd : List V → Hp → Option (List (Nat × V))} {ids : List Nat} {D : DS} (F : FnOk P a st bd) (hi : BdIds bd ids) (hc : chkIds nm (scopeS st) ids = true)
    (h : SimSs P (flyK ex) d (scopeS st) (bodyS st) D) : OkK P (flyK ex) (d + 1) (.ref a) (dFun bd D) := by
  subst hnm
  obtain ⟨fd, FF, hsc, hb⟩ := F
  refine OkK.fun tp FF hb (fun vs hp ps hps => ?_) (by rw [hsc]; exact h)
  have hm := hi vs hp ps hps
  unfold chkIds at hc
  rw [Bool.and_eq_true] at hc
  obtain ⟨h1, h2⟩ := hc
  refine ⟨fun p hp' => ?_, ?_⟩
  · have : p.1 ∈ ids := by rw [← hm]; exact List.mem_map.mpr ⟨p, hp', rfl⟩
    have := List.all_eq_true.mp h1 p.1 this
    rw [hsc]
    simpa using this
  · have e : (ps.map fun p => P.nm p.1) = ids.map P.nm := by rw [← hm, List.map_map]; rfl
    rw [e]; exact of_decide_eq_true h2
noncomputable def chkComp (nm : Nat → Str) (scope sc : Scope) (fr ids : List Nat) : Bool :=
  (scope.kind == .function) && decide (scope.names.map (·.1)).Nodup && (fr.all fun i => scope.names.lookup (nm i) == some .free) &&
  (scope.names.all fun p => p.2 != .free || (sc.names.lookup p.1 == some .cell || sc.names.lookup p.1 == some .free)) &&
  (ids.all fun i => scope.names.lookup (nm i) == some .local || scope.names.lookup (nm i) == some .cell)
theorem CompFacts.of {nm : Nat → Str} (hnm : P.nm = nm) {scope sc : Scope} {fr ids : List Nat} (h : chkComp nm scope sc fr ids = true) : CompFacts P scope sc fr ids := by
  subst hnm
  unfold chkComp at h
  simp only [Bool.and_eq_true] at h
  obtain ⟨⟨⟨⟨h1, h2⟩, h3⟩, h4⟩, h5⟩ := h
  refine ⟨by simpa using h1, of_decide_eq_true h2, fun i hi => by simpa using List.all_eq_true.mp h3 i hi, fun n hn => ?_, fun i hi => by simpa using List.all_eq_true.mp h5 i hi⟩
  have := List.all_eq_true.mp h4 _ hn
  simpa using this
theorem Sim.joined1 {e : Expr} {pos : Pos} {D : DE} (h : SimE P Fl d sc e D) : SimE P Fl d sc (.JoinedStr [e] pos) D := fun A env s Q X loc hp stk rm hs ev ok hD => wpAny_JoinedStr_one (h A env s Q X loc hp stk rm hs ev ok hD)
noncomputable def nmOf (L : List Str) (i : Nat) : Str := match L[i]? with | some x => x | none => ⟨(List.replicate (i + 40) 120).toArray⟩
theorem nm_inj (L : List Str) (h : (decide L.Nodup && L.all fun x => decide (x.cps.size < 40)) = true) : ∀ i j, nmOf L i = nmOf L j → i = j := by
  rw [Bool.and_eq_true] at h
  obtain ⟨h1, h2⟩ := h
  have hn : L.Nodup := of_decide_eq_true h1
  intro i j e
  unfold nmOf at e
  have small : ∀ (i : Nat) (x : Str), L[i]? = some x → x.cps.size < 40 := fun i (x : Str) hx => of_decide_eq_true (List.all_eq_true.mp h2 x (List.mem_of_getElem? hx))
  cases hi : L[i]? with
  | some x =>
    cases hj : L[j]? with
    | some y =>
      rw [hi, hj] at e
      simp only at e
      subst e
      obtain ⟨li, ei⟩ := List.getElem?_eq_some_iff.mp hi
      obtain ⟨lj, ej⟩ := List.getElem?_eq_some_iff.mp hj
      exact (List.getElem_inj hn).mp (ei.trans ej.symm)
    | none =>
      rw [hi, hj] at e
      simp only at e
      have := small i x hi
      rw [e] at this
      simp at this; lia
  | none =>
    cases hj : L[j]? with
    | some y =>
      rw [hi, hj] at e
      simp only at e
      have := small j y hj
      rw [← e] at this
      simp at this; lia
    | none =>
      rw [hi, hj] at e
      simp only [Str.mk.injEq] at e
      have := congrArg Array.size e
      simp at this; lia
theorem Sim.globInt {mg mb : Str → Option Value} (tp : TopOk P mg mb) {x : Str} {pos : Pos} {i : Int} (hk : sc.names.lookup x = some .globalImplicit) (hd : (x == ("__debug__" : Str)) = false) (hv : ∃ t, mg x = some (.int i t)) : SimE P Fl d sc (.Name x pos) (dCon (.int i)) := by
  intro A env s Q X loc hp stk _ hs ev ok hq
  obtain ⟨t, hv⟩ := hv
  refine wpAny_Name ?_ hd
  have hkind : env.kindOf x = some .globalImplicit := by rw [← hk, ← hs]; rfl
  rw [loadName_read ev.kind hkind]
  refine loadGlobal_global (mg := mg) ?_ hv ⟨hp, .refl .., ok, _, hq, vInt⟩
  rw [ev.glob]; exact tp.g.keeps ok.base
noncomputable def bAddN : B2 := fun x y Q hp => ∃ xs ys, listOf hp x = some xs ∧ listOf hp y = some ys ∧ xs.length + ys.length ≤ lim ∧ ∀ l, hp l = Option.none → Q (.ref l) (upd hp l (.lst (xs ++ ys)))
theorem ok_addN : OkB P Fl (binaryOp .Add) bAddN := by
  rintro A s Q X hp stk v u x y rm ok rv ru ⟨xs, ys, h1, h2, hl, hq⟩
  obtain ⟨a, as, rfl, ⟨n, pa⟩, ra⟩ := listOf_plain ok rv h1
  obtain ⟨b, bs, rfl, ⟨m, pb⟩, rb⟩ := listOf_plain ok ru h2
  refine PySem.P.add_list (n := n) (n2 := m) pa pb ?_ ?_
  · refine newTracked (tk := s.toks) (o := .lst (xs ++ ys)) ok rfl ?_ hq
    refine ⟨as ++ bs, ⟨_, Heap.get?_push_size _ rfl⟩, ?_⟩
    rw [Array.toList_append]
    exact VRs.keep (Keepy.upd (fun b o e => Heap.get?_push_of_some _ e) (get_size _)) (ra.append rb)
  · have h1 := size_of ra
    have h2 := size_of rb
    have := lim_le
    lia
end Mine
namespace Mine
noncomputable abbrev cN : Addr := 40
noncomputable abbrev cT : Addr := 137
noncomputable abbrev cW : Addr := 203
noncomputable def D_NodeInfo_init : DS :=
 (sSeq (sAsg (dVar 1) (gSet (bSetS cN 0) (dVar 0)))
 (sSeq (sAsg (dCon (.int 0)) (gSet (bSetS cN 1) (dVar 0)))
 (sSeq (sAsg (dNew aNil) (gSet (bSetS cN 2) (dVar 0)))
 sSkip)))
noncomputable def C_NodeInfo_init : DC := dFun (bdPos [0, 1]) D_NodeInfo_init
noncomputable def D_TS__get_nodeinfo : DS :=
 (sSeq (sIfN 3 (dMeth isDct dGet (dAttr (bAttr cT 2) (dVar 0)) (aCons (dVar 1) aNil)) (sSeq (sAsg2 (dCall (dMakeS cN C_NodeInfo_init) (aCons (dVar 1) aNil)) (gItem (dAttr (bAttr cT 2) (dVar 0)) (dVar 1)) (gVar 3))
 sSkip) sSkip)
 (sSeq (sRet (dVar 3))
 sSkip))
noncomputable def C_TS__get_nodeinfo : DC := dFun (bdPos [0, 1]) D_TS__get_nodeinfo
noncomputable def L_TS_add_1 : DS :=
 (sSeq (sAsg (dMeth (isInst cT 6) C_TS__get_nodeinfo (dVar 0) (aCons (dVar 8) aNil)) (gVar 9))
 (sSeq (sExp (dMeth isLst dAppend (dAttr (bSlot cN 2) (dVar 9)) (aCons (dVar 1) aNil)))
 sSkip))
noncomputable def D_TS_add : DS :=
 (sSeq (sIf (tBin bIsNot (dAttr (bAttr cT 5) (dVar 0)) (dCon .none))
 (sSeq (fun _ _ _ _ => False)
 sSkip)
 sSkip)
 (sSeq (sAsg (dMeth (isInst cT 6) C_TS__get_nodeinfo (dVar 0) (aCons (dVar 1) aNil)) (gVar 7))
 (sSeq (sAug (bSlot cN 1) (bSetS cN 1) (bInt (· + ·)) (dVar 7) (dCall dLen (aCons (dVar 4) aNil)))
 (sSeq (sFor (dVar 4) (gVar 8)
 L_TS_add_1)
 sSkip))))
noncomputable def C_TS_add : DC := dFun (bdStar2 0 1 4) D_TS_add
noncomputable def D_TS_init : DS :=
 (sSeq (sAsg dDict (gSet (bSetA cT 2) (dVar 0)))
 (sSeq (sAsg (dCon .none) (gSet (bSetA cT 5) (dVar 0)))
 (sSeq (sAsg (dCon (.int 0)) (gSet (bSetA cT 11) (dVar 0)))
 (sSeq (sAsg (dCon (.int 0)) (gSet (bSetA cT 12) (dVar 0)))
 (sSeq (sIf (tBin bIsNot (dVar 10) (dCon .none))
 (sSeq (fun _ _ _ _ => False)
 sSkip)
 sSkip)
 sSkip)))))
noncomputable def C_TS_init : DC := dFun (bdDef1 0 10) D_TS_init
noncomputable def L_TS__find_cycle_1 : DS :=
 (sSeq (sTry 0
 (sSeq (sAsg (dNext (dBin bItem (dVar 15) (dNeg (dCon (.int 1))))) (gVar 1))
 (sSeq sBrk
 sSkip))
 (sSeq (sDel (dVar 17) (dMeth isLst dPop (dVar 14) aNil))
 (sSeq (sExp (dMeth isLst dPop (dVar 15) aNil))
 sSkip)))
 sSkip)
noncomputable def L_TS__find_cycle_2 : DS :=
 (sSeq (sIf (tBin bIn (dVar 1) (dVar 16))
 (sSeq (sIf (tBin bIn (dVar 1) (dVar 17))
 (sSeq (sRet (dBin bAdd (dCut (dVar 14) (dBin bItem (dVar 17) (dVar 1)) (dCon .none) (dCon .none)) (dLst (aCons (dVar 1) aNil))))
 sSkip)
 sSkip)
 sSkip)
 (sSeq (sExp (dMeth isSet dAdd (dVar 16) (aCons (dVar 1) aNil)))
 (sSeq (sExp (dMeth isLst dAppend (dVar 15) (aCons (dAttr bNextA (dCall dIter (aCons (dAttr (bSlot cN 2) (dBin bItem (dVar 13) (dVar 1))) aNil))) aNil)))
 (sSeq (sAsg (dCall dLen (aCons (dVar 14) aNil)) (gItem (dVar 17) (dVar 1)))
 (sSeq (sExp (dMeth isLst dAppend (dVar 14) (aCons (dVar 1) aNil)))
 sSkip)))))
 (sSeq (sWhile (tTru (dVar 14))
 L_TS__find_cycle_1
 (sSeq sBrk
 sSkip))
 sSkip))
noncomputable def L_TS__find_cycle_3 : DS :=
 (sSeq (sIf (tBin bIn (dVar 1) (dVar 16))
 (sSeq sCont
 sSkip)
 sSkip)
 (sSeq (sWhile (tTru (dCon (.bool true)))
 L_TS__find_cycle_2
 sSkip)
 sSkip))
noncomputable def D_TS__find_cycle : DS :=
 (sSeq (sAsg (dAttr (bAttr cT 2) (dVar 0)) (gVar 13))
 (sSeq (sAsg (dNew aNil) (gVar 14))
 (sSeq (sAsg (dNew aNil) (gVar 15))
 (sSeq (sAsg (dCall dSet0 aNil) (gVar 16))
 (sSeq (sAsg dDict (gVar 17))
 (sSeq (sFor (dVar 13) (gVar 1)
 L_TS__find_cycle_3)
 (sSeq (sRet (dCon .none))
 sSkip)))))))
noncomputable def C_TS__find_cycle : DC := dFun (bdPos [0]) D_TS__find_cycle
noncomputable def D_TS_prepare : DS :=
 (sSeq (sIf (tBin bIsNot (dAttr (bAttr cT 5) (dVar 0)) (dCon .none))
 (sSeq (fun _ _ _ _ => False)
 sSkip)
 sSkip)
 (sSeq (sAsg (dCompN [] (dMeth isDct dValues (dAttr (bAttr cT 2) (dVar 0)) aNil) (gVar 18) (tBin bEq (dAttr (bSlot cN 1) (dVar 18)) (dCon (.int 0))) (cElt (dAttr (bSlot cN 0) (dVar 18)))) (gSet (bSetA cT 5) (dVar 0)))
 (sSeq (sAsg (dMeth (isInst cT 19) C_TS__find_cycle (dVar 0) aNil) (gVar 20))
 (sSeq (sIf (tTru (dVar 20))
 (sSeq (sRaise 1 (aCons (dCon (.str [110, 111, 100, 101, 115, 32, 97, 114, 101, 32, 105, 110, 32, 97, 32, 99, 121, 99, 108, 101])) (aCons (dVar 20) aNil)))
 sSkip)
 sSkip)
 sSkip))))
noncomputable def C_TS_prepare : DC := dFun (bdPos [0]) D_TS_prepare
noncomputable def L_TS_get_ready_1 : DS :=
 (sSeq (sAsg (dCon (.int (-1))) (gSet (bSetS cN 1) (dBin bItem (dVar 13) (dVar 1))))
 sSkip)
noncomputable def D_TS_get_ready : DS :=
 (sSeq (sIf (tBin bIs (dAttr (bAttr cT 5) (dVar 0)) (dCon .none))
 (sSeq (fun _ _ _ _ => False)
 sSkip)
 sSkip)
 (sSeq (sAsg (dCall dTupL (aCons (dAttr (bAttr cT 5) (dVar 0)) aNil)) (gVar 3))
 (sSeq (sAsg (dAttr (bAttr cT 2) (dVar 0)) (gVar 13))
 (sSeq (sFor (dVar 3) (gVar 1)
 L_TS_get_ready_1)
 (sSeq (sExp (dMeth isLst dClear (dAttr (bAttr cT 5) (dVar 0)) aNil))
 (sSeq (sAug (bAttr cT 11) (bSetA cT 11) (bInt (· + ·)) (dVar 0) (dCall dLen (aCons (dVar 3) aNil)))
 (sSeq (sRet (dVar 3))
 sSkip)))))))
noncomputable def C_TS_get_ready : DC := dFun (bdPos [0]) D_TS_get_ready
noncomputable def D_TS_is_active : DS :=
 (sSeq (sIf (tBin bIs (dAttr (bAttr cT 5) (dVar 0)) (dCon .none))
 (sSeq (fun _ _ _ _ => False)
 sSkip)
 sSkip)
 (sSeq (sRet (dOr2 (dBin (bCmp fun a b => decide (a < b)) (dAttr (bAttr cT 12) (dVar 0)) (dAttr (bAttr cT 11) (dVar 0))) (dCall dBool (aCons (dAttr (bAttr cT 5) (dVar 0)) aNil))))
 sSkip))
noncomputable def C_TS_is_active : DC := dFun (bdPos [0]) D_TS_is_active
noncomputable def L_TS_done_1 : DS :=
 (sSeq (sAsg (dBin bItem (dVar 13) (dVar 23)) (gVar 24))
 (sSeq (sAug (bSlot cN 1) (bSetS cN 1) (bInt (· - ·)) (dVar 24) (dCon (.int 1)))
 (sSeq (sIf (tBin bEq (dAttr (bSlot cN 1) (dVar 24)) (dCon (.int 0)))
 (sSeq (sExp (dMeth isLst dAppend (dAttr (bAttr cT 5) (dVar 0)) (aCons (dVar 23) aNil)))
 sSkip)
 sSkip)
 sSkip)))
noncomputable def L_TS_done_2 : DS :=
 (sSeq (sIfN 7 (dMeth isDct dGet (dVar 13) (aCons (dVar 1) aNil)) (sSeq (fun _ _ _ _ => False)
 sSkip) sSkip)
 (sSeq (sAsg (dAttr (bSlot cN 1) (dVar 7)) (gVar 22))
 (sSeq (sIf (tBin bNe (dVar 22) (dCon (.int (-1))))
 (sSeq (sIf (tBin (bCmp fun a b => decide (b ≤ a)) (dVar 22) (dCon (.int 0)))
 (sSeq (fun _ _ _ _ => False)
 sSkip)
 (sSeq (sIf (tBin bEq (dVar 22) (dCon (.int (-2))))
 (sSeq (fun _ _ _ _ => False)
 sSkip)
 (sSeq (fun _ _ _ _ => False)
 sSkip))
 sSkip))
 sSkip)
 sSkip)
 (sSeq (sAsg (dCon (.int (-2))) (gSet (bSetS cN 1) (dVar 7)))
 (sSeq (sFor (dAttr (bSlot cN 2) (dVar 7)) (gVar 23)
 L_TS_done_1)
 (sSeq (sAug (bAttr cT 12) (bSetA cT 12) (bInt (· + ·)) (dVar 0) (dCon (.int 1)))
 sSkip))))))
noncomputable def D_TS_done : DS :=
 (sSeq (sIf (tBin bIs (dAttr (bAttr cT 5) (dVar 0)) (dCon .none))
 (sSeq (fun _ _ _ _ => False)
 sSkip)
 sSkip)
 (sSeq (sAsg (dAttr (bAttr cT 2) (dVar 0)) (gVar 13))
 (sSeq (sFor (dVar 21) (gVar 1)
 L_TS_done_2)
 sSkip)))
noncomputable def C_TS_done : DC := dFun (bdStar1 0 21) D_TS_done
noncomputable def L_Whitespace_init_1 : DS :=
 (sSeq (sIf (tBin bEq (dVar 33) (dVar 27))
 (sSeq (sAsg (dBin bAdd (dVar 31) (dCon (.int 1))) (gVar 31))
 (sSeq (sAsg (dBin bAdd (dVar 30) (dCon (.int 1))) (gVar 30))
 sSkip))
 (sSeq (sIf (tBin bEq (dVar 33) (dVar 28))
 (sSeq (sAsg (dBin bAdd (dVar 31) (dCon (.int 1))) (gVar 31))
 (sSeq (sAsg (dBin bAdd (dVar 32) (dCon (.int 1))) (gVar 32))
 (sSeq (sIf (tBin (bCmp fun a b => decide (b ≤ a)) (dVar 30) (dCall dLen (aCons (dVar 29) aNil)))
 (sSeq (sAsg (dBin bAddN (dVar 29) (dBin bMulA (dLst (aCons (dCon (.int 0)) aNil)) (dBin bAdd (dBin (bInt (· - ·)) (dVar 30) (dCall dLen (aCons (dVar 29) aNil))) (dCon (.int 1))))) (gVar 29))
 sSkip)
 sSkip)
 (sSeq (sAsg (dBin bAdd (dBin bItem (dVar 29) (dVar 30)) (dCon (.int 1))) (gItem (dVar 29) (dVar 30)))
 (sSeq (sAsg (dCon (.int 0)) (gVar 30))
 sSkip)))))
 (sSeq sBrk
 sSkip))
 sSkip))
 sSkip)
noncomputable def D_Whitespace_init : DS :=
 (sSeq (sAsg (dVar 25) (gSet (bSetA cW 26) (dVar 0)))
 (sSeq (sSwap 27 28 (dTup (aCons (dCon (.str [32])) (aCons (dCon (.str [9])) aNil))))
 (sSeq (sAsg (dNew aNil) (gVar 29))
 (sSeq (sAsg3 (dCon (.int 0)) (gVar 30) (gVar 31) (gVar 32))
 (sSeq (sFor (dAttr (bAttr cW 26) (dVar 0)) (gVar 33)
 L_Whitespace_init_1)
 (sSeq (sAsg (dVar 31) (gSet (bSetA cW 31) (dVar 0)))
 (sSeq (sAsg (dVar 32) (gSet (bSetA cW 32) (dVar 0)))
 (sSeq (sAsg (dTup (aCons (dCall dTupL (aCons (dVar 29) aNil)) (aCons (dVar 30) aNil))) (gSet (bSetA cW 34) (dVar 0)))
 (sSeq (sAsg (dBin (bCmp fun a b => decide (a ≤ b)) (dCall dLen (aCons (dVar 29) aNil)) (dCon (.int 1))) (gSet (bSetA cW 35) (dVar 0)))
 sSkip)))))))))
noncomputable def C_Whitespace_init : DC := dFun (bdPos [0, 25]) D_Whitespace_init
noncomputable def D_Whitespace_longest_run_of_spaces : DS :=
 (sSeq (sAsg (dAttr (bAttr cW 34) (dVar 0)) (gTup ([29, 36].map gVar)))
 (sSeq (sRet (dCall dMax2 (aCons (dBin (bInt (· - ·)) (dCall dLen (aCons (dVar 29) aNil)) (dCon (.int 1))) (aCons (dVar 36) aNil))))
 sSkip))
noncomputable def C_Whitespace_longest_run_of_spaces : DC := dFun (bdPos [0]) D_Whitespace_longest_run_of_spaces
noncomputable def L_Whitespace_indent_level_1 : DS :=
 (sSeq (sAsg (dBin bAdd (dVar 38) (dBin bMulA (dBin bDiv (dVar 18) (dVar 37)) (dBin bItem (dVar 29) (dVar 18)))) (gVar 38))
 sSkip)
noncomputable def D_Whitespace_indent_level : DS :=
 (sSeq (sAsg (dAttr (bAttr cW 34) (dVar 0)) (gTup ([29, 36].map gVar)))
 (sSeq (sAsg (dCon (.int 0)) (gVar 38))
 (sSeq (sFor (dCall dRange2 (aCons (dVar 37) (aCons (dCall dLen (aCons (dVar 29) aNil)) aNil))) (gVar 18)
 L_Whitespace_indent_level_1)
 (sSeq (sRet (dBin bAdd (dVar 36) (dBin bMulA (dVar 37) (dBin bAdd (dVar 38) (dAttr (bAttr cW 32) (dVar 0))))))
 sSkip))))
noncomputable def C_Whitespace_indent_level : DC := dFun (bdPos [0, 37]) D_Whitespace_indent_level
noncomputable def L_Whitespace_less_1 : DS :=
 (sSeq (sIf (tBin (bCmp fun a b => decide (b ≤ a)) (dMeth (isInst cW 42) C_Whitespace_indent_level (dVar 0) (aCons (dVar 41) aNil)) (dMeth (isInst cW 42) C_Whitespace_indent_level (dVar 39) (aCons (dVar 41) aNil)))
 (sSeq (sRet (dCon (.bool false)))
 sSkip)
 sSkip)
 sSkip)
noncomputable def D_Whitespace_less : DS :=
 (sSeq (sIf (tBin (bCmp fun a b => decide (b ≤ a)) (dAttr (bAttr cW 31) (dVar 0)) (dAttr (bAttr cW 31) (dVar 39)))
 (sSeq (sRet (dCon (.bool false)))
 sSkip)
 sSkip)
 (sSeq (sIf (tAnd (tTru (dAttr (bAttr cW 35) (dVar 0))) (tAnd (tTru (dAttr (bAttr cW 35) (dVar 39))) (fun Q _ _ hp => Q true hp)))
 (sSeq (sRet (dBin (bCmp fun a b => decide (a ≤ b)) (dAttr (bAttr cW 32) (dVar 0)) (dAttr (bAttr cW 32) (dVar 39))))
 sSkip)
 sSkip)
 (sSeq (sAsg (dBin bAdd (dCall dMax2 (aCons (dMeth (isInst cW 40) C_Whitespace_longest_run_of_spaces (dVar 0) aNil) (aCons (dMeth (isInst cW 40) C_Whitespace_longest_run_of_spaces (dVar 39) aNil) aNil))) (dCon (.int 1))) (gVar 31))
 (sSeq (sFor (dCall dRange2 (aCons (dCon (.int 2)) (aCons (dBin bAdd (dVar 31) (dCon (.int 1))) aNil))) (gVar 41)
 L_Whitespace_less_1)
 (sSeq (sRet (dCon (.bool true)))
 sSkip)))))
noncomputable def C_Whitespace_less : DC := dFun (bdPos [0, 39]) D_Whitespace_less
noncomputable def L_law_steps_1 : DS :=
 (sSeq (sAsg (dCall dMin2 (aCons (dBin bMod (dBin bMod (dVar 45) (dCon (.int 10))) (dCon (.int 4))) (aCons (dBin bMod (dBin bMod (dBin bDiv (dVar 45) (dCon (.int 10))) (dCon (.int 10))) (dCon (.int 4))) aNil))) (gVar 46))
 (sSeq (sAsg (dCall dMax2 (aCons (dBin bMod (dBin bMod (dVar 45) (dCon (.int 10))) (dCon (.int 4))) (aCons (dBin bMod (dBin bMod (dBin bDiv (dVar 45) (dCon (.int 10))) (dCon (.int 10))) (dCon (.int 4))) aNil))) (gVar 47))
 (sSeq (sAsg (dBin bEq (dBin bMod (dBin bDiv (dVar 45) (dCon (.int 100))) (dCon (.int 10))) (dCon (.int 9))) (gVar 48))
 (sSeq (sIf (tOr (tBin bNe (dVar 46) (dVar 47)) (tOr (tTru (dVar 48)) (fun Q _ _ hp => Q false hp)))
 (sSeq (sExp (dMeth isLst dAppend (dVar 44) (aCons (dIte (tBin bEq (dVar 48) (dBin bEq (dBin bMod (dCall dSum (aCons (dVar 43) aNil)) (dCon (.int 2))) (dCon (.int 1)))) (dTup (aCons (dVar 46) (aCons (dVar 47) aNil))) (dTup (aCons (dVar 47) (aCons (dVar 46) aNil)))) aNil)))
 sSkip)
 sSkip)
 sSkip))))
noncomputable def D_law_steps : DS :=
 (sSeq (sAsg (dNew aNil) (gVar 44))
 (sSeq (sFor (dBin bAdd (dLst (aCons (dCon (.int 10)) aNil)) (dCut (dVar 43) (dCon .none) (dCon (.int 5)) (dCon .none))) (gVar 45)
 L_law_steps_1)
 (sSeq (sRet (dFrz 44))
 sSkip)))
noncomputable def C_law_steps : DC := dFun (bdPos [43]) D_law_steps
noncomputable def L_law_run_1 : DS :=
 (sSeq (sAsg (dMeth (isInst cT 60) C_TS_get_ready (dVar 50) aNil) (gVar 61))
 (sSeq (sExp (dMeth isLst dExtend (dVar 57) (aCons (dVar 61) aNil)))
 (sSeq (sAsg (dComp [58] (dVar 44) (gTup ([51, 52].map gVar)) (tBin bNotIn (dVar 51) (dVar 58)) (cElt (dVar 52))) (gVar 62))
 (sSeq (sAsg (dComp [58, 62] (dCall dRange1 (aCons (dCon (.int 4)) aNil)) (gVar 1) (tAnd (tBin bNotIn (dVar 1) (dVar 58)) (tAnd (tBin bNotIn (dVar 1) (dVar 62)) (fun Q _ _ hp => Q true hp))) (cElt (dVar 1))) (gVar 63))
 (sSeq (sIf (tOr (tNot (tTru (dCall dIsTup (aCons (dVar 61) (aCons (dCon (.fn (.type "tuple"))) aNil))))) (tOr (tBin bNe (dCall dSortZ (aCons (dVar 57) aNil)) (dVar 63)) (fun Q _ _ hp => Q false hp)))
 (sSeq (sRet (dTup (aCons (dFrz 58) (aCons (dVar 55) (aCons (dLst (aCons (dCon (.int 0)) aNil)) aNil)))))
 sSkip)
 sSkip)
 (sSeq (sAsg (dComp [49] (dVar 57) (gVar 1) (tBin bNe (dVar 1) (dVar 49)) (cElt (dVar 1))) (gVar 64))
 (sSeq (sAsg (dIte (tBin bNe (dVar 64) (dLst aNil)) (dBin bItem (dVar 64) (dCon (.int 0))) (dVar 49)) (gVar 65))
 (sSeq (sExp (dMeth isLst dRemove (dVar 57) (aCons (dVar 65) aNil)))
 (sSeq (sExp (dMeth isLst dAppend (dVar 58) (aCons (dVar 65) aNil)))
 (sSeq (sExp (dMeth isLst dAppend (dVar 54) (aCons (dMeth (isInst cT 66) C_TS_done (dVar 50) (aCons (dVar 65) aNil)) aNil)))
 sSkip))))))))))
noncomputable def D_law_run : DS :=
 (sSeq (sAsg (dCall (dMake cT C_TS_init) aNil) (gVar 50))
 (sSeq (sAsg (dCompN [50, 44] (dLst (aCons (dCon (.int 3)) (aCons (dCon (.int 2)) (aCons (dCon (.int 1)) (aCons (dCon (.int 0)) aNil))))) (gVar 1) fNone (cElt (dMeth (isInst cT 53) C_TS_add (dVar 50) (aCons (dVar 1) (aStar (dComp [1] (dVar 44) (gTup ([51, 52].map gVar)) (tBin bEq (dVar 52) (dVar 1)) (cElt (dVar 51))) aNil))))) (gVar 54))
 (sSeq (sExp (dMeth isLst dExtend (dVar 54) (aCons (dComp [50] (dCut (dVar 44) (dCon .none) (dCon (.int 1)) (dCon .none)) (gTup ([51, 52].map gVar)) fNone (cElt (dMeth (isInst cT 53) C_TS_add (dVar 50) (aCons (dVar 52) (aCons (dVar 51) aNil))))) aNil)))
 (sSeq (sAsg (dCon (.bool false)) (gVar 55))
 (sSeq (sTry 1
 (sSeq (sExp (dMeth isLst dAppend (dVar 54) (aCons (dMeth (isInst cT 56) C_TS_prepare (dVar 50) aNil) aNil)))
 sSkip)
 (sSeq (sAsg (dCon (.bool true)) (gVar 55))
 sSkip))
 (sSeq (sAsg (dNew aNil) (gVar 57))
 (sSeq (sAsg (dNew aNil) (gVar 58))
 (sSeq (sWhile (tBin bIs (dMeth (isInst cT 59) C_TS_is_active (dVar 50) aNil) (dCon (.bool true)))
 L_law_run_1
 sSkip)
 (sSeq (sIf (tBin bIsNot (dMeth (isInst cT 59) C_TS_is_active (dVar 50) aNil) (dCon (.bool false)))
 (sSeq (sExp (dMeth isLst dAppend (dVar 54) (aCons (dCon (.int 0)) aNil)))
 sSkip)
 sSkip)
 (sSeq (sRet (dTup (aCons (dFrz 58) (aCons (dVar 55) (aCons (dComp [] (dVar 54) (gVar 67) (tBin bIsNot (dVar 67) (dCon .none)) (cElt (dVar 67))) aNil)))))
 sSkip))))))))))
noncomputable def C_law_run : DC := dFun (bdPos [44, 49]) D_law_run
noncomputable def L_law_text_1 : DS :=
 (sSeq (sAsg (dBin (bInt (· - ·)) (dBin bAdd (dCall dLen (aCons (dVar 68) aNil)) (dVar 70)) (dCon (.int 1))) (gVar 71))
 (sSeq (sAsg (dBin bAdd (dBin bMulA (dLst (aCons (dBin bAdd (dBin bMulA (dCon (.str [32])) (dVar 71)) (dCon (.str [9]))) aNil)) (dBin bItem (dVar 68) (dVar 70))) (dBin bMulA (dLst (aCons (dBin bAdd (dBin bMulA (dCon (.str [32])) (dBin (bInt (· - ·)) (dVar 71) (dCon (.int 1)))) (dCon (.str [9]))) aNil)) (dBin (bInt (· - ·)) (dBin (bInt (· - ·)) (dCall dLen (aCons (dVar 68) aNil)) (dCon (.int 1))) (dBin bItem (dVar 68) (dVar 70))))) (gVar 72))
 (sSeq (sIf (tBin bEq (dBin bMod (dVar 1) (dCon (.int 2))) (dCon (.int 1)))
 (sSeq (sAsg (dCut (dVar 72) (dCon .none) (dCon .none) (dNeg (dCon (.int 1)))) (gVar 72))
 sSkip)
 sSkip)
 (sSeq (sAsg (dBin bAdd (dVar 69) (dMeth isStr dJoin0 (dCon (.str [])) (aCons (dVar 72) aNil))) (gVar 69))
 sSkip))))
noncomputable def D_law_text : DS :=
 (sSeq (sAsg (dCon (.str [])) (gVar 69))
 (sSeq (sFor (dCall dRange2 (aCons (dCon (.int 1)) (aCons (dCall dLen (aCons (dVar 68) aNil)) aNil))) (gVar 70)
 L_law_text_1)
 (sSeq (sRet (dBin bAdd (dBin bAdd (dVar 69) (dBin bMulA (dCon (.str [32])) (dBin bItem (dVar 68) (dCon (.int 0))))) (dCon (.str [120, 32, 9]))))
 sSkip)))
noncomputable def C_law_text : DC := dFun (bdPos [1, 68]) D_law_text
noncomputable def L_law_column_1 : DS :=
 (sSeq (sAsg (dBin (bInt (· - ·)) (dBin bAdd (dCall dLen (aCons (dVar 68) aNil)) (dVar 70)) (dCon (.int 1))) (gVar 74))
 (sSeq (sAsg (dBin bAdd (dVar 73) (dBin bMulA (dBin (bInt (· - ·)) (dCall dLen (aCons (dVar 68) aNil)) (dCon (.int 1))) (dBin bAdd (dBin bMulA (dBin bDiv (dBin (bInt (· - ·)) (dVar 74) (dCon (.int 1))) (dVar 71)) (dVar 71)) (dVar 71)))) (gVar 73))
 (sSeq (sIf (tBin bEq (dBin bMod (dVar 74) (dVar 71)) (dCon (.int 0)))
 (sSeq (sAsg (dBin bAdd (dVar 73) (dBin bMulA (dBin bItem (dVar 68) (dVar 70)) (dVar 71))) (gVar 73))
 sSkip)
 sSkip)
 sSkip)))
noncomputable def D_law_column : DS :=
 (sSeq (sAsg (dBin bItem (dVar 68) (dCon (.int 0))) (gVar 73))
 (sSeq (sFor (dCall dRange2 (aCons (dCon (.int 1)) (aCons (dCall dLen (aCons (dVar 68) aNil)) aNil))) (gVar 70)
 L_law_column_1)
 (sSeq (sRet (dVar 73))
 sSkip)))
noncomputable def C_law_column : DC := dFun (bdPos [68, 71]) D_law_column
noncomputable def L_law_met_1 : DS :=
 (sSeq (sAsg (dBin bAdd (dVar 75) (dComp [75, 1] (dVar 44) (gTup ([51, 52].map gVar)) (tAnd (tOr (tBin bEq (dVar 51) (dVar 1)) (tOr (tBin bIn (dVar 51) (dVar 75)) (fun Q _ _ hp => Q false hp))) (tAnd (tBin bNotIn (dVar 52) (dVar 75)) (fun Q _ _ hp => Q true hp))) (cElt (dVar 52)))) (gVar 75))
 sSkip)
noncomputable def D_law_met : DS :=
 (sSeq (sAsg (dLst aNil) (gVar 75))
 (sSeq (sFor (dCall dRange1 (aCons (dCon (.int 4)) aNil)) (gVar 76)
 L_law_met_1)
 (sSeq (sRet (dVar 75))
 sSkip)))
noncomputable def C_law_met : DC := dFun (bdPos [44, 1]) D_law_met
noncomputable def L_law_1 : DS :=
 (sSeq (sIf (tBin bIsNot (dMeth (isInst cW 87) C_Whitespace_less (dBin bItem (dVar 84) (dVar 83)) (aCons (dBin bItem (dVar 84) (dVar 86)) aNil)) (dBin bIn (dBin bItem (dVar 78) (dVar 86)) (dVar 85)))
 (sSeq (sRet (dCon (.bool false)))
 sSkip)
 sSkip)
 sSkip)
noncomputable def L_law_2 : DS :=
 (sSeq (sIf (tBin bNe (dMeth (isInst cW 42) C_Whitespace_indent_level (dBin bItem (dVar 84) (dVar 83)) (aCons (dVar 71) aNil)) (dCall C_law_column (aCons (dBin bItem (dVar 82) (dVar 83)) (aCons (dVar 71) aNil))))
 (sSeq (sRet (dCon (.bool false)))
 sSkip)
 sSkip)
 sSkip)
noncomputable def L_law_3 : DS :=
 (sSeq (sFor (dBin bAdd (dCall dListR (aCons (dCall dRange2 (aCons (dCon (.int 1)) (aCons (dBin bMulA (dCon (.int 2)) (dVar 81)) aNil))) aNil)) (dLst (aCons (dBin bAdd (dBin (bInt (· - ·)) (dBin bMulA (dCon (.int 2)) (dVar 81)) (dCon (.int 1))) (dCall dAbs (aCons (dCall dSum (aCons (dVar 43) aNil)) aNil))) aNil))) (gVar 71)
 L_law_2)
 (sSeq (sAsg (dCall C_law_met (aCons (dVar 44) (aCons (dBin bItem (dVar 78) (dVar 83)) aNil))) (gVar 85))
 (sSeq (sFor (dCall dRange1 (aCons (dVar 81) aNil)) (gVar 86)
 L_law_1)
 sSkip)))
noncomputable def L_law_4 : DS :=
 (sSeq (sAsg (dComp [44, 77] (dCall dRange1 (aCons (dCon (.int 4)) aNil)) (gVar 1) (tBin bNe (dComp [1, 77] (dVar 44) (gTup ([51, 52].map gVar)) (tAnd (tBin bEq (dVar 52) (dVar 1)) (tAnd (tBin bIn (dVar 51) (dVar 77)) (fun Q _ _ hp => Q true hp))) (cElt (dVar 51))) (dLst aNil)) (cElt (dVar 1))) (gVar 77))
 sSkip)
noncomputable def D_law : DS :=
 (sSeq (sAsg (dCall C_law_steps (aCons (dVar 43) aNil)) (gVar 44))
 (sSeq (sAsg (dLst (aCons (dCon (.int 0)) (aCons (dCon (.int 1)) (aCons (dCon (.int 2)) (aCons (dCon (.int 3)) aNil))))) (gVar 77))
 (sSeq (sFor (dCall dRange1 (aCons (dCon (.int 4)) aNil)) (gVar 76)
 L_law_4)
 (sSeq (sAsg (dCall C_law_run (aCons (dVar 44) (aCons (dNeg (dCon (.int 1))) aNil))) (gTup ([78, 55, 79].map gVar)))
 (sSeq (sIf (tOr (tBin bNe (dVar 79) (dLst aNil)) (tOr (tBin bIsNot (dVar 55) (dBin bNe (dVar 77) (dLst aNil))) (fun Q _ _ hp => Q false hp)))
 (sSeq (sRet (dCon (.bool false)))
 sSkip)
 sSkip)
 (sSeq (sIf (tBin bNe (dCall dSortZ (aCons (dVar 78) aNil)) (dComp [77] (dCall dRange1 (aCons (dCon (.int 4)) aNil)) (gVar 1) (tBin bNotIn (dVar 1) (dVar 77)) (cElt (dVar 1))))
 (sSeq (sRet (dCon (.bool false)))
 sSkip)
 sSkip)
 (sSeq (sAsg (dComp [44] (dVar 78) (gVar 49) fNone (cElt (dBin bItem (dCall C_law_run (aCons (dVar 44) (aCons (dVar 49) aNil))) (dCon (.int 0))))) (gVar 80))
 (sSeq (sAsg (dCall dLen (aCons (dVar 78) aNil)) (gVar 81))
 (sSeq (sAsg (dComp [80] (dVar 78) (gVar 1) fNone (cElt (dComp [1] (dVar 80) (gVar 58) fNone (cElt (dMeth isLst dIndex (dVar 58) (aCons (dVar 1) aNil)))))) (gVar 82))
 (sSeq (sAsg (dComp [78, 82] (dCall dRange1 (aCons (dVar 81) aNil)) (gVar 83) fNone (cElt (dCall (dMakeF cW C_Whitespace_init) (aCons (dCall C_law_text (aCons (dBin bItem (dVar 78) (dVar 83)) (aCons (dBin bItem (dVar 82) (dVar 83)) aNil))) aNil)))) (gVar 84))
 (sSeq (sFor (dCall dRange1 (aCons (dVar 81) aNil)) (gVar 83)
 L_law_3)
 (sSeq (sRet (dCon (.bool true)))
 sSkip))))))))))))
noncomputable def C_law : DC := dFun (bdPos [43]) D_law
end Mine
namespace Mine
noncomputable abbrev mainS : List Stmt := PySem.Challenge.pw_mr0354_01.main.body
noncomputable def nmL : List Str := [Str.ofString "self", Str.ofString "node", Str.ofString "_node2info", Str.ofString "result", Str.ofString "predecessors", Str.ofString "_ready_nodes", Str.ofString "_get_nodeinfo", Str.ofString "nodeinfo", Str.ofString "pred", Str.ofString "pred_info", Str.ofString "graph", Str.ofString "_npassedout", Str.ofString "_nfinished", Str.ofString "n2i", Str.ofString "stack", Str.ofString "itstack", Str.ofString "seen", Str.ofString "node2stacki", Str.ofString "i", Str.ofString "_find_cycle", Str.ofString "cycle", Str.ofString "nodes", Str.ofString "stat", Str.ofString "successor", Str.ofString "successor_info", Str.ofString "ws", Str.ofString "raw", Str.ofString "S", Str.ofString "T", Str.ofString "count", Str.ofString "b", Str.ofString "n", Str.ofString "nt", Str.ofString "ch", Str.ofString "norm", Str.ofString "is_simple", Str.ofString "trailing", Str.ofString "tabsize", Str.ofString "il", Str.ofString "other", Str.ofString "longest_run_of_spaces", Str.ofString "ts", Str.ofString "indent_level", Str.ofString "script", Str.ofString "steps", Str.ofString "number", Str.ofString "low", Str.ofString "high", Str.ofString "back", Str.ofString "held", Str.ofString "sorter", Str.ofString "early", Str.ofString "late", Str.ofString "add", Str.ofString "gave", Str.ofString "ringed", Str.ofString "prepare", Str.ofString "waiting", Str.ofString "order", Str.ofString "is_active", Str.ofString "get_ready", Str.ofString "given", Str.ofString "behind", Str.ofString "due", Str.ofString "free", Str.ofString "chosen", Str.ofString "done", Str.ofString "deed", Str.ofString "spots", Str.ofString "text", Str.ofString "run", Str.ofString "size", Str.ofString "rows", Str.ofString "column", Str.ofString "row", Str.ofString "met", Str.ofString "turn", Str.ofString "ends", Str.ofString "plain", Str.ofString "strange", Str.ofString "orders", Str.ofString "many", Str.ofString "places", Str.ofString "one", Str.ofString "leads", Str.ofString "reached", Str.ofString "two", Str.ofString "less"]
noncomputable def nm1 : Nat → Str := nmOf nmL
noncomputable abbrev P1 (w : World) (H : Heap) (K : Frag) : Par := ⟨nm1, PySem.Challenge.pw_mr0354_01, w, H, K⟩
structure Top1 (w : World) (H : Heap) (K : Frag) (mg mb : Str → Option Value) : Prop where
  tp : TopOk (P1 w H K) mg mb
  hz : (H.get? sysModules).isSome = true
  hset : Slot "member_descriptor" "__set__" "member_descriptor.__set__"
  at__NodeInfo_node : AtS K 40 "node" 0
  at__NodeInfo_npredecessors : AtS K 40 "npredecessors" 1
  at__NodeInfo_successors : AtS K 40 "successors" 2
  fn_NodeInfo_init : FnOk (P1 w H K) 36 (nthS (bodyS (nthS mainS 4)) 1) (bdPos [0, 1])
  at_TS__node2info : AtD K 137 "_node2info"
  mk__NodeInfo : MakeF K 40 36
  kp__NodeInfo : keepIn K (.ref 40) = true
  g__NodeInfo : mg "_NodeInfo" = some (.ref 40)
  fn_TS__get_nodeinfo : FnOk (P1 w H K) 80 (nthS (bodyS (nthS mainS 6)) 1) (bdPos [0, 1])
  at_TS__ready_nodes : AtD K 137 "_ready_nodes"
  mt_TS__get_nodeinfo : MthF K 137 "_get_nodeinfo" 80
  kp_TS__get_nodeinfo : keepIn K (.ref 80) = true
  b_len : mb "len" = some (.builtin "len")
  n_len : mg "len" = Option.none
  fn_TS_add : FnOk (P1 w H K) 87 (nthS (bodyS (nthS mainS 6)) 2) (bdStar2 0 1 4)
  at_TS__npassedout : AtD K 137 "_npassedout"
  at_TS__nfinished : AtD K 137 "_nfinished"
  fn_TS_init : FnOk (P1 w H K) 73 (nthS (bodyS (nthS mainS 6)) 0) (bdDef1 0 10)
  b_set : mb "set" = some (.type "set")
  n_set : mg "set" = Option.none
  b_iter : mb "iter" = some (.builtin "iter")
  n_iter : mg "iter" = Option.none
  mat0 : Mat (P1 w H K) (Value.type "StopIteration") (Value.type "StopIteration")
  b_StopIteration : mb "StopIteration" = some (.type "StopIteration")
  n_StopIteration : mg "StopIteration" = Option.none
  fn_TS__find_cycle : FnOk (P1 w H K) 127 (nthS (bodyS (nthS mainS 6)) 8) (bdPos [0])
  mt_TS__find_cycle : MthF K 137 "_find_cycle" 127
  kp_TS__find_cycle : keepIn K (.ref 127) = true
  own_CE : OwnCls "CycleError" 55 [.type "ValueError", .type "Exception", .type "BaseException", .type "object"] "ValueError.__new__" mg H
  g_CycleError : mg "CycleError" = some (.ref 55)
  fn_TS_prepare : FnOk (P1 w H K) 92 (nthS (bodyS (nthS mainS 6)) 3) (bdPos [0])
  b_tuple : mb "tuple" = some (.type "tuple")
  n_tuple : mg "tuple" = Option.none
  g__NODE_OUT : ∃ t, mg "_NODE_OUT" = some (.int (-1) t)
  fn_TS_get_ready : FnOk (P1 w H K) 99 (nthS (bodyS (nthS mainS 6)) 4) (bdPos [0])
  b_bool : mb "bool" = some (.type "bool")
  n_bool : mg "bool" = Option.none
  fn_TS_is_active : FnOk (P1 w H K) 106 (nthS (bodyS (nthS mainS 6)) 5) (bdPos [0])
  g__NODE_DONE : ∃ t, mg "_NODE_DONE" = some (.int (-2) t)
  fn_TS_done : FnOk (P1 w H K) 120 (nthS (bodyS (nthS mainS 6)) 7) (bdStar1 0 21)
  at_Whitespace_raw : AtD K 203 "raw"
  ca_Whitespace_S : ∃ tk, findCls K (.ref 203) (.type "type") "S" = some (.val (.str ⟨([32] : List Nat).toArray⟩ tk))
  rd_Whitespace : readsIn K 203 (.type "type") = true
  g_Whitespace : mg "Whitespace" = some (.ref 203)
  ca_Whitespace_T : ∃ tk, findCls K (.ref 203) (.type "type") "T" = some (.val (.str ⟨([9] : List Nat).toArray⟩ tk))
  at_Whitespace_n : AtD K 203 "n"
  at_Whitespace_nt : AtD K 203 "nt"
  at_Whitespace_norm : AtD K 203 "norm"
  at_Whitespace_is_simple : AtD K 203 "is_simple"
  fn_Whitespace_init : FnOk (P1 w H K) 158 (nthS (bodyS (nthS mainS 8)) 1) (bdPos [0, 25])
  b_max : mb "max" = some (.builtin "max")
  n_max : mg "max" = Option.none
  fn_Whitespace_longest_run_of_spaces : FnOk (P1 w H K) 165 (nthS (bodyS (nthS mainS 8)) 2) (bdPos [0])
  b_range : mb "range" = some (.type "range")
  n_range : mg "range" = Option.none
  fn_Whitespace_indent_level : FnOk (P1 w H K) 172 (nthS (bodyS (nthS mainS 8)) 3) (bdPos [0, 37])
  mt_Whitespace_longest_run_of_spaces : MthF K 203 "longest_run_of_spaces" 165
  kp_Whitespace_longest_run_of_spaces : keepIn K (.ref 165) = true
  mt_Whitespace_indent_level : MthF K 203 "indent_level" 172
  kp_Whitespace_indent_level : keepIn K (.ref 172) = true
  fn_Whitespace_less : FnOk (P1 w H K) 193 (nthS (bodyS (nthS mainS 8)) 6) (bdPos [0, 39])
  b_min : mb "min" = some (.builtin "min")
  n_min : mg "min" = Option.none
  b_sum : mb "sum" = some (.builtin "sum")
  n_sum : mg "sum" = Option.none
  fn_law_steps : FnOk (P1 w H K) 214 (nthS mainS 10) (bdPos [43])
  mk_TS : MakeF K 137 73
  kp_TS : keepIn K (.ref 137) = true
  g_TS : mg "TopologicalSorter" = some (.ref 137)
  mt_TS_add : MthF K 137 "add" 87
  sg_TS_add : specialIn K (.ref 87) "__get__" = some (some (.builtin "function.__get__"))
  tk_TS_add : takesIn K (.ref 87) = some false
  ci_TS : (clsIn K 137).isSome = true
  fi_TS_add : fnIn K 87 = true
  kp_TS_add : keepIn K (.ref 87) = true
  mt_TS_prepare : MthF K 137 "prepare" 92
  kp_TS_prepare : keepIn K (.ref 92) = true
  mat1 : Mat (P1 w H K) (Value.ref 55) (Value.ref 55)
  mt_TS_is_active : MthF K 137 "is_active" 106
  kp_TS_is_active : keepIn K (.ref 106) = true
  mt_TS_get_ready : MthF K 137 "get_ready" 99
  kp_TS_get_ready : keepIn K (.ref 99) = true
  b_isinstance : mb "isinstance" = some (.builtin "isinstance")
  n_isinstance : mg "isinstance" = Option.none
  b_sorted : mb "sorted" = some (.builtin "sorted")
  n_sorted : mg "sorted" = Option.none
  mt_TS_done : MthF K 137 "done" 120
  kp_TS_done : keepIn K (.ref 120) = true
  fn_law_run : FnOk (P1 w H K) 219 (nthS mainS 11) (bdPos [44, 49])
  fn_law_text : FnOk (P1 w H K) 226 (nthS mainS 12) (bdPos [1, 68])
  fn_law_column : FnOk (P1 w H K) 233 (nthS mainS 13) (bdPos [68, 71])
  fn_law_met : FnOk (P1 w H K) 238 (nthS mainS 14) (bdPos [44, 1])
  kp_law_steps : keepIn K (.ref 214) = true
  g__law_steps : mg "_law_steps" = some (.ref 214)
  kp_law_run : keepIn K (.ref 219) = true
  g__law_run : mg "_law_run" = some (.ref 219)
  kp_law_text : keepIn K (.ref 226) = true
  g__law_text : mg "_law_text" = some (.ref 226)
  mk_Whitespace : MakeF K 203 158
  kp_Whitespace : keepIn K (.ref 203) = true
  b_list : mb "list" = some (.type "list")
  n_list : mg "list" = Option.none
  b_abs : mb "abs" = some (.builtin "abs")
  n_abs : mg "abs" = Option.none
  kp_law_column : keepIn K (.ref 233) = true
  g__law_column : mg "_law_column" = some (.ref 233)
  kp_law_met : keepIn K (.ref 238) = true
  g__law_met : mg "_law_met" = some (.ref 238)
  mt_Whitespace_less : MthF K 203 "less" 193
  kp_Whitespace_less : keepIn K (.ref 193) = true
  fn_law : FnOk (P1 w H K) 243 (nthS mainS 15) (bdPos [43])
variable {w : World} {H : Heap} {K : Frag} {ex : Nat → Value} {mg mb : Str → Option Value}
theorem inj1 : ∀ i j, nm1 i = nm1 j → i = j := nm_inj _ (by kernel_rfl)
set_option maxHeartbeats 4000000 in
theorem k_NodeInfo_init (F : Top1 w H K mg mb) (hex0 : ex 0 = .type "StopIteration") (hex1 : ex 1 = .ref 55)  : OkK (P1 w H K) (flyK ex) 2 (.ref 36) C_NodeInfo_init :=
 OkK.fn (d := 1) (nm := nm1) rfl F.tp F.fn_NodeInfo_init (BdIds.pos _) (by kernel_rfl)
 (SimSs.cons (SimS.asg (Sim.v rfl (by kernel_rfl)) (SimG.attr (OkSet.slot F.tp F.at__NodeInfo_node F.hset) (Sim.v rfl (by kernel_rfl))) (fun _ => rfl) (fun _ => rfl) (fun _ => rfl))
 (SimSs.cons (SimS.asg Sim.cInt (SimG.attr (OkSet.slot F.tp F.at__NodeInfo_npredecessors F.hset) (Sim.v rfl (by kernel_rfl))) (fun _ => rfl) (fun _ => rfl) (fun _ => rfl))
 (SimSs.cons (SimS.asg (Sim.new SimA.nil) (SimG.attr (OkSet.slot F.tp F.at__NodeInfo_successors F.hset) (Sim.v rfl (by kernel_rfl))) (fun _ => rfl) (fun _ => rfl) (fun _ => rfl))
 SimSs.nil)))
set_option maxHeartbeats 4000000 in
theorem k_TS__get_nodeinfo (F : Top1 w H K mg mb) (hex0 : ex 0 = .type "StopIteration") (hex1 : ex 1 = .ref 55) (h_NodeInfo_init : OkK (P1 w H K) (flyK ex) 2 (.ref 36) C_NodeInfo_init) : OkK (P1 w H K) (flyK ex) 4 (.ref 80) C_TS__get_nodeinfo :=
 OkK.fn (d := 3) (nm := nm1) rfl F.tp F.fn_TS__get_nodeinfo (BdIds.pos _) (by kernel_rfl)
 (SimSs.cons (SimS.ifNamed inj1 (i := 3) rfl (by kernel_rfl) (Sim.meth (Meth.dict PySem.F.slot_dict_get PySem.F.type_dict_get) (Sim.attr F.tp (i := 2) rfl F.at_TS__node2info (Sim.v rfl (by kernel_rfl)) (fun _ => rfl)) (SimR.of (SimA.cons (Sim.v rfl (by kernel_rfl)) SimA.nil (fun _ => rfl)) (fun _ => rfl)) (OkC.get F.hz) (KeepF.builtin _) (fun _ => rfl) (fun _ => rfl) (by decide +kernel) rfl) (SimSs.cons (SimS.asg2 (Sim.call (Sim.g F.tp (by kernel_rfl) F.g__NodeInfo) (SimR.of (SimA.cons (Sim.v rfl (by kernel_rfl)) SimA.nil (fun _ => rfl)) (fun _ => rfl)) ((OkK.makeS F.tp F.mk__NodeInfo (h_NodeInfo_init)).up (by decide)).c (KeepF.inK F.tp.kin F.kp__NodeInfo)) (SimG.item (Sim.attr F.tp (i := 2) rfl F.at_TS__node2info (Sim.v rfl (by kernel_rfl)) (fun _ => rfl)) (Sim.v rfl (by kernel_rfl))) (SimG.v inj1 rfl (by kernel_rfl)) (fun _ => rfl) (fun _ => rfl))
 SimSs.nil) SimSs.nil)
 (SimSs.cons (SimS.ret (Sim.v rfl (by kernel_rfl)))
 SimSs.nil))
set_option maxHeartbeats 4000000 in
theorem k_TS_add (F : Top1 w H K mg mb) (hex0 : ex 0 = .type "StopIteration") (hex1 : ex 1 = .ref 55) (h_TS__get_nodeinfo : OkK (P1 w H K) (flyK ex) 4 (.ref 80) C_TS__get_nodeinfo) : OkK (P1 w H K) (flyK ex) 5 (.ref 87) C_TS_add :=
 OkK.fn (d := 4) (nm := nm1) rfl F.tp F.fn_TS_add (BdIds.star2 _ _ _) (by kernel_rfl)
 (SimSs.cons (SimS.iff (SimT.cmp ok_isNot (Sim.attr F.tp (i := 5) rfl F.at_TS__ready_nodes (Sim.v rfl (by kernel_rfl)) (fun _ => rfl)) Sim.cNone rfl)
 (SimSs.cons SimS.never
 SimSs.nil)
 SimSs.nil)
 (SimSs.cons (SimS.asgN (i := 7) inj1 rfl (by kernel_rfl) (Sim.meth (Meth.own inj1 F.tp (j := 6) rfl F.mt_TS__get_nodeinfo) (Sim.v rfl (by kernel_rfl)) (SimR.of (SimA.cons (Sim.v rfl (by kernel_rfl)) SimA.nil (fun _ => rfl)) (fun _ => rfl)) ((h_TS__get_nodeinfo).up (by decide)).c (KeepF.inK F.tp.kin F.kp_TS__get_nodeinfo) (fun _ => rfl) (fun _ => rfl) (by decide +kernel) rfl) (fun env h => by cases env; cases h; rfl))
 (SimSs.cons (SimS.aug (OkGet.slot F.tp F.at__NodeInfo_npredecessors) (OkSet.slot F.tp F.at__NodeInfo_npredecessors F.hset) ok_iadd (Sim.v rfl (by kernel_rfl)) (Sim.call (Sim.b F.tp (by kernel_rfl) F.n_len F.b_len) (SimR.of (SimA.cons (Sim.v rfl (by kernel_rfl)) SimA.nil (fun _ => rfl)) (fun _ => rfl)) (OkC.len F.hz) (KeepF.builtin _)))
 (SimSs.cons (SimS.for F.hz (by decide) (Sim.v rfl (by kernel_rfl)) (SimG.v inj1 rfl (by kernel_rfl))
 (SimSs.cons (SimS.asgN (i := 9) inj1 rfl (by kernel_rfl) (Sim.meth (Meth.own inj1 F.tp (j := 6) rfl F.mt_TS__get_nodeinfo) (Sim.v rfl (by kernel_rfl)) (SimR.of (SimA.cons (Sim.v rfl (by kernel_rfl)) SimA.nil (fun _ => rfl)) (fun _ => rfl)) ((h_TS__get_nodeinfo).up (by decide)).c (KeepF.inK F.tp.kin F.kp_TS__get_nodeinfo) (fun _ => rfl) (fun _ => rfl) (by decide +kernel) rfl) (fun env h => by cases env; cases h; rfl))
 (SimSs.cons (SimS.exp (Sim.meth (Meth.list PySem.F.slot_list_append PySem.F.type_list_append) (Sim.slot F.tp F.at__NodeInfo_successors (Sim.v rfl (by kernel_rfl)) (fun _ => rfl)) (SimR.of (SimA.cons (Sim.v rfl (by kernel_rfl)) SimA.nil (fun _ => rfl)) (fun _ => rfl)) OkC.append (KeepF.builtin _) (fun _ => rfl) (fun _ => rfl) (by decide +kernel) rfl) (fun _ => rfl))
 SimSs.nil)) (fun _ _ => rfl) (gVar_hp 8))
 SimSs.nil))))
set_option maxHeartbeats 4000000 in
theorem k_TS_init (F : Top1 w H K mg mb) (hex0 : ex 0 = .type "StopIteration") (hex1 : ex 1 = .ref 55)  : OkK (P1 w H K) (flyK ex) 2 (.ref 73) C_TS_init :=
 OkK.fn (d := 1) (nm := nm1) rfl F.tp F.fn_TS_init (BdIds.def1 _ _) (by kernel_rfl)
 (SimSs.cons (SimS.asg Sim.dict (SimG.attr (OkSet.dict inj1 F.tp (i := 2) rfl F.at_TS__node2info) (Sim.v rfl (by kernel_rfl))) (fun _ => rfl) (fun _ => rfl) (fun _ => rfl))
 (SimSs.cons (SimS.asg Sim.cNone (SimG.attr (OkSet.dict inj1 F.tp (i := 5) rfl F.at_TS__ready_nodes) (Sim.v rfl (by kernel_rfl))) (fun _ => rfl) (fun _ => rfl) (fun _ => rfl))
 (SimSs.cons (SimS.asg Sim.cInt (SimG.attr (OkSet.dict inj1 F.tp (i := 11) rfl F.at_TS__npassedout) (Sim.v rfl (by kernel_rfl))) (fun _ => rfl) (fun _ => rfl) (fun _ => rfl))
 (SimSs.cons (SimS.asg Sim.cInt (SimG.attr (OkSet.dict inj1 F.tp (i := 12) rfl F.at_TS__nfinished) (Sim.v rfl (by kernel_rfl))) (fun _ => rfl) (fun _ => rfl) (fun _ => rfl))
 (SimSs.cons (SimS.iff (SimT.cmp ok_isNot (Sim.v rfl (by kernel_rfl)) Sim.cNone rfl)
 (SimSs.cons SimS.never
 SimSs.nil)
 SimSs.nil)
 SimSs.nil)))))
set_option maxHeartbeats 4000000 in
theorem k_TS__find_cycle (F : Top1 w H K mg mb) (hex0 : ex 0 = .type "StopIteration") (hex1 : ex 1 = .ref 55)  : OkK (P1 w H K) (flyK ex) 2 (.ref 127) C_TS__find_cycle :=
 OkK.fn (d := 1) (nm := nm1) rfl F.tp F.fn_TS__find_cycle (BdIds.pos _) (by kernel_rfl)
 (SimSs.cons (SimS.asgN (i := 13) inj1 rfl (by kernel_rfl) (Sim.attr F.tp (i := 2) rfl F.at_TS__node2info (Sim.v rfl (by kernel_rfl)) (fun _ => rfl)) (fun env h => by cases env; cases h; rfl))
 (SimSs.cons (SimS.asgN (i := 14) inj1 rfl (by kernel_rfl) (Sim.new SimA.nil) (fun env h => by cases env; cases h; rfl))
 (SimSs.cons (SimS.asgN (i := 15) inj1 rfl (by kernel_rfl) (Sim.new SimA.nil) (fun env h => by cases env; cases h; rfl))
 (SimSs.cons (SimS.asgN (i := 16) inj1 rfl (by kernel_rfl) (Sim.call (Sim.b F.tp (by kernel_rfl) F.n_set F.b_set) SimR.nil OkC.set0 (KeepF.type _)) (fun env h => by cases env; cases h; rfl))
 (SimSs.cons (SimS.asgN (i := 17) inj1 rfl (by kernel_rfl) Sim.dict (fun env h => by cases env; cases h; rfl))
 (SimSs.cons (SimS.for F.hz (by decide) (Sim.v rfl (by kernel_rfl)) (SimG.v inj1 rfl (by kernel_rfl))
 (SimSs.cons (SimS.iff (SimT.cmp (ok_in F.hz) (Sim.v rfl (by kernel_rfl)) (Sim.v rfl (by kernel_rfl)) rfl)
 (SimSs.cons SimS.cont
 SimSs.nil)
 SimSs.nil)
 (SimSs.cons (SimS.while (SimT.val Sim.cBool (fun _ _ => rfl))
 (SimSs.cons (SimS.iff (SimT.cmp (ok_in F.hz) (Sim.v rfl (by kernel_rfl)) (Sim.v rfl (by kernel_rfl)) rfl)
 (SimSs.cons (SimS.iff (SimT.cmp (ok_in F.hz) (Sim.v rfl (by kernel_rfl)) (Sim.v rfl (by kernel_rfl)) rfl)
 (SimSs.cons (SimS.ret (Sim.bin ok_add (Sim.cut (Sim.v rfl (by kernel_rfl)) (SimO.some (Sim.item (Sim.v rfl (by kernel_rfl)) (Sim.v rfl (by kernel_rfl)) (fun _ _ => ⟨_, rfl⟩))) SimO.none SimO.none (fun _ _ => ⟨_, rfl⟩)) (Sim.lst (SimA.cons (Sim.v rfl (by kernel_rfl)) SimA.nil (fun _ => rfl)))))
 SimSs.nil)
 SimSs.nil)
 SimSs.nil)
 (SimSs.cons (SimS.exp (Sim.meth Meth.setAdd (Sim.v rfl (by kernel_rfl)) (SimR.of (SimA.cons (Sim.v rfl (by kernel_rfl)) SimA.nil (fun _ => rfl)) (fun _ => rfl)) OkC.add (KeepF.builtin _) (fun _ => rfl) (fun _ => rfl) (by decide +kernel) rfl) (fun _ => rfl))
 (SimSs.cons (SimS.exp (Sim.meth (Meth.list PySem.F.slot_list_append PySem.F.type_list_append) (Sim.v rfl (by kernel_rfl)) (SimR.of (SimA.cons (Sim.getAttr OkGet.next (Sim.call (Sim.b F.tp (by kernel_rfl) F.n_iter F.b_iter) (SimR.of (SimA.cons (Sim.slot F.tp F.at__NodeInfo_successors (Sim.item (Sim.v rfl (by kernel_rfl)) (Sim.v rfl (by kernel_rfl)) (fun _ _ => ⟨_, rfl⟩)) (fun _ => rfl)) SimA.nil (fun _ => rfl)) (fun _ => rfl)) OkC.iter (KeepF.builtin _)) (fun _ => rfl)) SimA.nil (fun _ => rfl)) (fun _ => rfl)) OkC.append (KeepF.builtin _) (fun _ => rfl) (fun _ => rfl) (by decide +kernel) rfl) (fun _ => rfl))
 (SimSs.cons (SimS.asg (Sim.call (Sim.b F.tp (by kernel_rfl) F.n_len F.b_len) (SimR.of (SimA.cons (Sim.v rfl (by kernel_rfl)) SimA.nil (fun _ => rfl)) (fun _ => rfl)) (OkC.len F.hz) (KeepF.builtin _)) (SimG.item (Sim.v rfl (by kernel_rfl)) (Sim.v rfl (by kernel_rfl))) (fun _ => rfl) (fun _ => rfl) (fun _ => rfl))
 (SimSs.cons (SimS.exp (Sim.meth (Meth.list PySem.F.slot_list_append PySem.F.type_list_append) (Sim.v rfl (by kernel_rfl)) (SimR.of (SimA.cons (Sim.v rfl (by kernel_rfl)) SimA.nil (fun _ => rfl)) (fun _ => rfl)) OkC.append (KeepF.builtin _) (fun _ => rfl) (fun _ => rfl) (by decide +kernel) rfl) (fun _ => rfl))
 SimSs.nil)))))
 (SimSs.cons (SimS.while (SimT.val (Sim.v rfl (by kernel_rfl)) (fun _ _ => rfl))
 (SimSs.cons (SimS.try (SimSs.cons (SimS.asgN (i := 1) inj1 rfl (by kernel_rfl) (Sim.next (by decide) hex0 (Sim.item (Sim.v rfl (by kernel_rfl)) (Sim.neg Sim.cInt) (fun _ _ => ⟨_, rfl⟩)) (fun _ => rfl)) (fun env h => by cases env; cases h; rfl))
 (SimSs.cons SimS.brk
 SimSs.nil)) (NameIs.built F.tp (by kernel_rfl) (by kernel_rfl) F.n_StopIteration F.b_StopIteration) (hex0 ▸ F.mat0) (SimSs.cons (SimS.del (Sim.v rfl (by kernel_rfl)) (Sim.meth (Meth.list PySem.F.slot_list_pop PySem.F.type_list_pop) (Sim.v rfl (by kernel_rfl)) SimR.nil OkC.pop (KeepF.builtin _) (fun _ => rfl) (fun _ => rfl) (by decide +kernel) rfl))
 (SimSs.cons (SimS.exp (Sim.meth (Meth.list PySem.F.slot_list_pop PySem.F.type_list_pop) (Sim.v rfl (by kernel_rfl)) SimR.nil OkC.pop (KeepF.builtin _) (fun _ => rfl) (fun _ => rfl) (by decide +kernel) rfl) (fun _ => rfl))
 SimSs.nil)))
 SimSs.nil)
 (SimSs.cons SimS.brk
 SimSs.nil))
 SimSs.nil))
 SimSs.nil)
 SimSs.nil)) (fun _ _ => rfl) (gVar_hp 1))
 (SimSs.cons (SimS.ret Sim.cNone)
 SimSs.nil)))))))
set_option maxHeartbeats 4000000 in
theorem k_TS_prepare (F : Top1 w H K mg mb) (hex0 : ex 0 = .type "StopIteration") (hex1 : ex 1 = .ref 55) (h_TS__find_cycle : OkK (P1 w H K) (flyK ex) 2 (.ref 127) C_TS__find_cycle) : OkK (P1 w H K) (flyK ex) 3 (.ref 92) C_TS_prepare :=
 OkK.fn (d := 2) (nm := nm1) rfl F.tp F.fn_TS_prepare (BdIds.pos _) (by kernel_rfl)
 (SimSs.cons (SimS.iff (SimT.cmp ok_isNot (Sim.attr F.tp (i := 5) rfl F.at_TS__ready_nodes (Sim.v rfl (by kernel_rfl)) (fun _ => rfl)) Sim.cNone rfl)
 (SimSs.cons SimS.never
 SimSs.nil)
 SimSs.nil)
 (SimSs.cons (SimS.asg (Sim.compN F.hz (by decide) (fr := []) (.inl rfl) (CompFacts.of (nm := nm1) rfl (by kernel_rfl)) (Sim.meth (Meth.dict PySem.F.slot_dict_values PySem.F.type_dict_values) (Sim.attr F.tp (i := 2) rfl F.at_TS__node2info (Sim.v rfl (by kernel_rfl)) (fun _ => rfl)) SimR.nil (OkC.values F.hz) (KeepF.builtin _) (fun _ => rfl) (fun _ => rfl) (by decide +kernel) rfl) (SimG.v inj1 rfl (by kernel_rfl)) (Tgt.var 18) (SimF.one (SimT.cmp ok_eq (Sim.slot F.tp F.at__NodeInfo_npredecessors (Sim.v rfl (by kernel_rfl)) (fun _ => rfl)) Sim.cInt rfl)) (SimI.elt rfl (Sim.slot F.tp F.at__NodeInfo_node (Sim.v rfl (by kernel_rfl)) (fun _ => rfl))) (by decide +kernel) (fun _ _ => rfl)) (SimG.attr (OkSet.dict inj1 F.tp (i := 5) rfl F.at_TS__ready_nodes) (Sim.v rfl (by kernel_rfl))) (fun _ => rfl) (fun _ => rfl) (fun _ => rfl))
 (SimSs.cons (SimS.asgN (i := 20) inj1 rfl (by kernel_rfl) (Sim.meth (Meth.own inj1 F.tp (j := 19) rfl F.mt_TS__find_cycle) (Sim.v rfl (by kernel_rfl)) SimR.nil ((h_TS__find_cycle).up (by decide)).c (KeepF.inK F.tp.kin F.kp_TS__find_cycle) (fun _ => rfl) (fun _ => rfl) (by decide +kernel) rfl) (fun env h => by cases env; cases h; rfl))
 (SimSs.cons (SimS.iff (SimT.val (Sim.v rfl (by kernel_rfl)) (fun _ _ => rfl))
 (SimSs.cons (SimS.raise (by decide) (NameIs.glob F.tp (by kernel_rfl) (by kernel_rfl) F.g_CycleError) F.own_CE PySem.F.excBase_ValueError hex1 (SimR.of (SimA.cons (Sim.joined1 (Sim.cStr (l := [110, 111, 100, 101, 115, 32, 97, 114, 101, 32, 105, 110, 32, 97, 32, 99, 121, 99, 108, 101]) (by kernel_rfl))) (SimA.cons (Sim.v rfl (by kernel_rfl)) SimA.nil (fun _ => rfl)) (fun _ => rfl)) (fun _ => rfl)) (fun _ => rfl))
 SimSs.nil)
 SimSs.nil)
 SimSs.nil))))
set_option maxHeartbeats 4000000 in
theorem k_TS_get_ready (F : Top1 w H K mg mb) (hex0 : ex 0 = .type "StopIteration") (hex1 : ex 1 = .ref 55)  : OkK (P1 w H K) (flyK ex) 2 (.ref 99) C_TS_get_ready :=
 OkK.fn (d := 1) (nm := nm1) rfl F.tp F.fn_TS_get_ready (BdIds.pos _) (by kernel_rfl)
 (SimSs.cons (SimS.iff (SimT.cmp ok_is (Sim.attr F.tp (i := 5) rfl F.at_TS__ready_nodes (Sim.v rfl (by kernel_rfl)) (fun _ => rfl)) Sim.cNone rfl)
 (SimSs.cons SimS.never
 SimSs.nil)
 SimSs.nil)
 (SimSs.cons (SimS.asgN (i := 3) inj1 rfl (by kernel_rfl) (Sim.call (Sim.b F.tp (by kernel_rfl) F.n_tuple F.b_tuple) (SimR.of (SimA.cons (Sim.attr F.tp (i := 5) rfl F.at_TS__ready_nodes (Sim.v rfl (by kernel_rfl)) (fun _ => rfl)) SimA.nil (fun _ => rfl)) (fun _ => rfl)) OkC.tupL (KeepF.type _)) (fun env h => by cases env; cases h; rfl))
 (SimSs.cons (SimS.asgN (i := 13) inj1 rfl (by kernel_rfl) (Sim.attr F.tp (i := 2) rfl F.at_TS__node2info (Sim.v rfl (by kernel_rfl)) (fun _ => rfl)) (fun env h => by cases env; cases h; rfl))
 (SimSs.cons (SimS.for F.hz (by decide) (Sim.v rfl (by kernel_rfl)) (SimG.v inj1 rfl (by kernel_rfl))
 (SimSs.cons (SimS.asg (Sim.globInt F.tp (by kernel_rfl) (by kernel_rfl) F.g__NODE_OUT) (SimG.attr (OkSet.slot F.tp F.at__NodeInfo_npredecessors F.hset) (Sim.item (Sim.v rfl (by kernel_rfl)) (Sim.v rfl (by kernel_rfl)) (fun _ _ => ⟨_, rfl⟩))) (fun _ => rfl) (fun _ => rfl) (fun _ => rfl))
 SimSs.nil) (fun _ _ => rfl) (gVar_hp 1))
 (SimSs.cons (SimS.exp (Sim.meth (Meth.list PySem.F.slot_list_clear PySem.F.type_list_clear) (Sim.attr F.tp (i := 5) rfl F.at_TS__ready_nodes (Sim.v rfl (by kernel_rfl)) (fun _ => rfl)) SimR.nil OkC.clear (KeepF.builtin _) (fun _ => rfl) (fun _ => rfl) (by decide +kernel) rfl) (fun _ => rfl))
 (SimSs.cons (SimS.aug (OkGet.dict F.tp (i := 11) rfl F.at_TS__npassedout) (OkSet.dict inj1 F.tp (i := 11) rfl F.at_TS__npassedout) ok_iadd (Sim.v rfl (by kernel_rfl)) (Sim.call (Sim.b F.tp (by kernel_rfl) F.n_len F.b_len) (SimR.of (SimA.cons (Sim.v rfl (by kernel_rfl)) SimA.nil (fun _ => rfl)) (fun _ => rfl)) (OkC.len F.hz) (KeepF.builtin _)))
 (SimSs.cons (SimS.ret (Sim.v rfl (by kernel_rfl)))
 SimSs.nil)))))))
set_option maxHeartbeats 4000000 in
theorem k_TS_is_active (F : Top1 w H K mg mb) (hex0 : ex 0 = .type "StopIteration") (hex1 : ex 1 = .ref 55)  : OkK (P1 w H K) (flyK ex) 2 (.ref 106) C_TS_is_active :=
 OkK.fn (d := 1) (nm := nm1) rfl F.tp F.fn_TS_is_active (BdIds.pos _) (by kernel_rfl)
 (SimSs.cons (SimS.iff (SimT.cmp ok_is (Sim.attr F.tp (i := 5) rfl F.at_TS__ready_nodes (Sim.v rfl (by kernel_rfl)) (fun _ => rfl)) Sim.cNone rfl)
 (SimSs.cons SimS.never
 SimSs.nil)
 SimSs.nil)
 (SimSs.cons (SimS.ret (Sim.or2 (Sim.cmp ok_lt (Sim.attr F.tp (i := 12) rfl F.at_TS__nfinished (Sim.v rfl (by kernel_rfl)) (fun _ => rfl)) (Sim.attr F.tp (i := 11) rfl F.at_TS__npassedout (Sim.v rfl (by kernel_rfl)) (fun _ => rfl)) rfl) (Sim.call (Sim.b F.tp (by kernel_rfl) F.n_bool F.b_bool) (SimR.of (SimA.cons (Sim.attr F.tp (i := 5) rfl F.at_TS__ready_nodes (Sim.v rfl (by kernel_rfl)) (fun _ => rfl)) SimA.nil (fun _ => rfl)) (fun _ => rfl)) OkC.bool (KeepF.type _))))
 SimSs.nil))
set_option maxHeartbeats 4000000 in
theorem k_TS_done (F : Top1 w H K mg mb) (hex0 : ex 0 = .type "StopIteration") (hex1 : ex 1 = .ref 55)  : OkK (P1 w H K) (flyK ex) 2 (.ref 120) C_TS_done :=
 OkK.fn (d := 1) (nm := nm1) rfl F.tp F.fn_TS_done (BdIds.star1 _ _) (by kernel_rfl)
 (SimSs.cons (SimS.iff (SimT.cmp ok_is (Sim.attr F.tp (i := 5) rfl F.at_TS__ready_nodes (Sim.v rfl (by kernel_rfl)) (fun _ => rfl)) Sim.cNone rfl)
 (SimSs.cons SimS.never
 SimSs.nil)
 SimSs.nil)
 (SimSs.cons (SimS.asgN (i := 13) inj1 rfl (by kernel_rfl) (Sim.attr F.tp (i := 2) rfl F.at_TS__node2info (Sim.v rfl (by kernel_rfl)) (fun _ => rfl)) (fun env h => by cases env; cases h; rfl))
 (SimSs.cons (SimS.for F.hz (by decide) (Sim.v rfl (by kernel_rfl)) (SimG.v inj1 rfl (by kernel_rfl))
 (SimSs.cons (SimS.ifNamed inj1 (i := 7) rfl (by kernel_rfl) (Sim.meth (Meth.dict PySem.F.slot_dict_get PySem.F.type_dict_get) (Sim.v rfl (by kernel_rfl)) (SimR.of (SimA.cons (Sim.v rfl (by kernel_rfl)) SimA.nil (fun _ => rfl)) (fun _ => rfl)) (OkC.get F.hz) (KeepF.builtin _) (fun _ => rfl) (fun _ => rfl) (by decide +kernel) rfl) (SimSs.cons SimS.never
 SimSs.nil) SimSs.nil)
 (SimSs.cons (SimS.asgN (i := 22) inj1 rfl (by kernel_rfl) (Sim.slot F.tp F.at__NodeInfo_npredecessors (Sim.v rfl (by kernel_rfl)) (fun _ => rfl)) (fun env h => by cases env; cases h; rfl))
 (SimSs.cons (SimS.iff (SimT.cmp ok_ne (Sim.v rfl (by kernel_rfl)) (Sim.globInt F.tp (by kernel_rfl) (by kernel_rfl) F.g__NODE_OUT) rfl)
 (SimSs.cons (SimS.iff (SimT.cmp ok_ge (Sim.v rfl (by kernel_rfl)) Sim.cInt rfl)
 (SimSs.cons SimS.never
 SimSs.nil)
 (SimSs.cons (SimS.iff (SimT.cmp ok_eq (Sim.v rfl (by kernel_rfl)) (Sim.globInt F.tp (by kernel_rfl) (by kernel_rfl) F.g__NODE_DONE) rfl)
 (SimSs.cons SimS.never
 SimSs.nil)
 (SimSs.cons SimS.never
 SimSs.nil))
 SimSs.nil))
 SimSs.nil)
 SimSs.nil)
 (SimSs.cons (SimS.asg (Sim.globInt F.tp (by kernel_rfl) (by kernel_rfl) F.g__NODE_DONE) (SimG.attr (OkSet.slot F.tp F.at__NodeInfo_npredecessors F.hset) (Sim.v rfl (by kernel_rfl))) (fun _ => rfl) (fun _ => rfl) (fun _ => rfl))
 (SimSs.cons (SimS.for F.hz (by decide) (Sim.slot F.tp F.at__NodeInfo_successors (Sim.v rfl (by kernel_rfl)) (fun _ => rfl)) (SimG.v inj1 rfl (by kernel_rfl))
 (SimSs.cons (SimS.asgN (i := 24) inj1 rfl (by kernel_rfl) (Sim.item (Sim.v rfl (by kernel_rfl)) (Sim.v rfl (by kernel_rfl)) (fun _ _ => ⟨_, rfl⟩)) (fun env h => by cases env; cases h; rfl))
 (SimSs.cons (SimS.aug (OkGet.slot F.tp F.at__NodeInfo_npredecessors) (OkSet.slot F.tp F.at__NodeInfo_npredecessors F.hset) ok_isub (Sim.v rfl (by kernel_rfl)) Sim.cInt)
 (SimSs.cons (SimS.iff (SimT.cmp ok_eq (Sim.slot F.tp F.at__NodeInfo_npredecessors (Sim.v rfl (by kernel_rfl)) (fun _ => rfl)) Sim.cInt rfl)
 (SimSs.cons (SimS.exp (Sim.meth (Meth.list PySem.F.slot_list_append PySem.F.type_list_append) (Sim.attr F.tp (i := 5) rfl F.at_TS__ready_nodes (Sim.v rfl (by kernel_rfl)) (fun _ => rfl)) (SimR.of (SimA.cons (Sim.v rfl (by kernel_rfl)) SimA.nil (fun _ => rfl)) (fun _ => rfl)) OkC.append (KeepF.builtin _) (fun _ => rfl) (fun _ => rfl) (by decide +kernel) rfl) (fun _ => rfl))
 SimSs.nil)
 SimSs.nil)
 SimSs.nil))) (fun _ _ => rfl) (gVar_hp 23))
 (SimSs.cons (SimS.aug (OkGet.dict F.tp (i := 12) rfl F.at_TS__nfinished) (OkSet.dict inj1 F.tp (i := 12) rfl F.at_TS__nfinished) ok_iadd (Sim.v rfl (by kernel_rfl)) Sim.cInt)
 SimSs.nil)))))) (fun _ _ => rfl) (gVar_hp 1))
 SimSs.nil)))
set_option maxHeartbeats 4000000 in
theorem k_Whitespace_init (F : Top1 w H K mg mb) (hex0 : ex 0 = .type "StopIteration") (hex1 : ex 1 = .ref 55)  : OkK (P1 w H K) (flyK ex) 2 (.ref 158) C_Whitespace_init :=
 OkK.fn (d := 1) (nm := nm1) rfl F.tp F.fn_Whitespace_init (BdIds.pos _) (by kernel_rfl)
 (SimSs.cons (SimS.asg (Sim.v rfl (by kernel_rfl)) (SimG.attr (OkSet.dict inj1 F.tp (i := 26) rfl F.at_Whitespace_raw) (Sim.v rfl (by kernel_rfl))) (fun _ => rfl) (fun _ => rfl) (fun _ => rfl))
 (SimSs.cons (SimS.swap inj1 (i := 27) (j := 28) (by decide) (by show List.lookup (nm1 27) _ = _; decide +kernel) (by show List.lookup (nm1 28) _ = _; decide +kernel) (Sim.tup (SimA.cons (Sim.clsAttr F.tp (NameIs.glob F.tp (by kernel_rfl) (by kernel_rfl) F.g_Whitespace) F.rd_Whitespace F.ca_Whitespace_S.choose_spec) (SimA.cons (Sim.clsAttr F.tp (NameIs.glob F.tp (by kernel_rfl) (by kernel_rfl) F.g_Whitespace) F.rd_Whitespace F.ca_Whitespace_T.choose_spec) SimA.nil (fun _ => rfl)) (fun _ => rfl))) (fun _ => rfl) (fun env h => by cases env; cases h; rfl))
 (SimSs.cons (SimS.asgN (i := 29) inj1 rfl (by kernel_rfl) (Sim.new SimA.nil) (fun env h => by cases env; cases h; rfl))
 (SimSs.cons (SimS.asg3 Sim.cInt (SimG.v inj1 rfl (by kernel_rfl)) (SimG.v inj1 rfl (by kernel_rfl)) (SimG.v inj1 rfl (by kernel_rfl)) (fun _ => rfl) (fun _ => rfl))
 (SimSs.cons (SimS.for F.hz (by decide) (Sim.attr F.tp (i := 26) rfl F.at_Whitespace_raw (Sim.v rfl (by kernel_rfl)) (fun _ => rfl)) (SimG.v inj1 rfl (by kernel_rfl))
 (SimSs.cons (SimS.iff (SimT.cmp ok_eq (Sim.v rfl (by kernel_rfl)) (Sim.v rfl (by kernel_rfl)) rfl)
 (SimSs.cons (SimS.asgN (i := 31) inj1 rfl (by kernel_rfl) (Sim.bin ok_add (Sim.v rfl (by kernel_rfl)) Sim.cInt) (fun env h => by cases env; cases h; rfl))
 (SimSs.cons (SimS.asgN (i := 30) inj1 rfl (by kernel_rfl) (Sim.bin ok_add (Sim.v rfl (by kernel_rfl)) Sim.cInt) (fun env h => by cases env; cases h; rfl))
 SimSs.nil))
 (SimSs.cons (SimS.iff (SimT.cmp ok_eq (Sim.v rfl (by kernel_rfl)) (Sim.v rfl (by kernel_rfl)) rfl)
 (SimSs.cons (SimS.asgN (i := 31) inj1 rfl (by kernel_rfl) (Sim.bin ok_add (Sim.v rfl (by kernel_rfl)) Sim.cInt) (fun env h => by cases env; cases h; rfl))
 (SimSs.cons (SimS.asgN (i := 32) inj1 rfl (by kernel_rfl) (Sim.bin ok_add (Sim.v rfl (by kernel_rfl)) Sim.cInt) (fun env h => by cases env; cases h; rfl))
 (SimSs.cons (SimS.iff (SimT.cmp ok_ge (Sim.v rfl (by kernel_rfl)) (Sim.call (Sim.b F.tp (by kernel_rfl) F.n_len F.b_len) (SimR.of (SimA.cons (Sim.v rfl (by kernel_rfl)) SimA.nil (fun _ => rfl)) (fun _ => rfl)) (OkC.len F.hz) (KeepF.builtin _)) rfl)
 (SimSs.cons (SimS.asgN (i := 29) inj1 rfl (by kernel_rfl) (Sim.bin ok_addN (Sim.v rfl (by kernel_rfl)) (Sim.bin ok_mulA (Sim.lst (SimA.cons Sim.cInt SimA.nil (fun _ => rfl))) (Sim.bin ok_add (Sim.bin ok_sub (Sim.v rfl (by kernel_rfl)) (Sim.call (Sim.b F.tp (by kernel_rfl) F.n_len F.b_len) (SimR.of (SimA.cons (Sim.v rfl (by kernel_rfl)) SimA.nil (fun _ => rfl)) (fun _ => rfl)) (OkC.len F.hz) (KeepF.builtin _))) Sim.cInt))) (fun env h => by cases env; cases h; rfl))
 SimSs.nil)
 SimSs.nil)
 (SimSs.cons (SimS.asg (Sim.bin ok_add (Sim.item (Sim.v rfl (by kernel_rfl)) (Sim.v rfl (by kernel_rfl)) (fun _ _ => ⟨_, rfl⟩)) Sim.cInt) (SimG.item (Sim.v rfl (by kernel_rfl)) (Sim.v rfl (by kernel_rfl))) (fun _ => rfl) (fun _ => rfl) (fun _ => rfl))
 (SimSs.cons (SimS.asgN (i := 30) inj1 rfl (by kernel_rfl) Sim.cInt (fun env h => by cases env; cases h; rfl))
 SimSs.nil)))))
 (SimSs.cons SimS.brk
 SimSs.nil))
 SimSs.nil))
 SimSs.nil) (fun _ _ => rfl) (gVar_hp 33))
 (SimSs.cons (SimS.asg (Sim.v rfl (by kernel_rfl)) (SimG.attr (OkSet.dict inj1 F.tp (i := 31) rfl F.at_Whitespace_n) (Sim.v rfl (by kernel_rfl))) (fun _ => rfl) (fun _ => rfl) (fun _ => rfl))
 (SimSs.cons (SimS.asg (Sim.v rfl (by kernel_rfl)) (SimG.attr (OkSet.dict inj1 F.tp (i := 32) rfl F.at_Whitespace_nt) (Sim.v rfl (by kernel_rfl))) (fun _ => rfl) (fun _ => rfl) (fun _ => rfl))
 (SimSs.cons (SimS.asg (Sim.tup (SimA.cons (Sim.call (Sim.b F.tp (by kernel_rfl) F.n_tuple F.b_tuple) (SimR.of (SimA.cons (Sim.v rfl (by kernel_rfl)) SimA.nil (fun _ => rfl)) (fun _ => rfl)) OkC.tupL (KeepF.type _)) (SimA.cons (Sim.v rfl (by kernel_rfl)) SimA.nil (fun _ => rfl)) (fun _ => rfl))) (SimG.attr (OkSet.dict inj1 F.tp (i := 34) rfl F.at_Whitespace_norm) (Sim.v rfl (by kernel_rfl))) (fun _ => rfl) (fun _ => rfl) (fun _ => rfl))
 (SimSs.cons (SimS.asg (Sim.cmp ok_le (Sim.call (Sim.b F.tp (by kernel_rfl) F.n_len F.b_len) (SimR.of (SimA.cons (Sim.v rfl (by kernel_rfl)) SimA.nil (fun _ => rfl)) (fun _ => rfl)) (OkC.len F.hz) (KeepF.builtin _)) Sim.cInt rfl) (SimG.attr (OkSet.dict inj1 F.tp (i := 35) rfl F.at_Whitespace_is_simple) (Sim.v rfl (by kernel_rfl))) (fun _ => rfl) (fun _ => rfl) (fun _ => rfl))
 SimSs.nil)))))))))
set_option maxHeartbeats 4000000 in
theorem k_Whitespace_longest_run_of_spaces (F : Top1 w H K mg mb) (hex0 : ex 0 = .type "StopIteration") (hex1 : ex 1 = .ref 55)  : OkK (P1 w H K) (flyK ex) 2 (.ref 165) C_Whitespace_longest_run_of_spaces :=
 OkK.fn (d := 1) (nm := nm1) rfl F.tp F.fn_Whitespace_longest_run_of_spaces (BdIds.pos _) (by kernel_rfl)
 (SimSs.cons (SimS.asg (Sim.attr F.tp (i := 34) rfl F.at_Whitespace_norm (Sim.v rfl (by kernel_rfl)) (fun _ => rfl)) (SimG.tup (by decide) (SimGs.cons (SimG.v inj1 rfl (by kernel_rfl)) (SimGs.cons (SimG.v inj1 rfl (by kernel_rfl)) SimGs.nil)) (fun _ => rfl) rfl (gVars_ex [29, 36])) (fun _ => rfl) (fun _ => rfl) (fun _ => rfl))
 (SimSs.cons (SimS.ret (Sim.call (Sim.b F.tp (by kernel_rfl) F.n_max F.b_max) (SimR.of (SimA.cons (Sim.bin ok_sub (Sim.call (Sim.b F.tp (by kernel_rfl) F.n_len F.b_len) (SimR.of (SimA.cons (Sim.v rfl (by kernel_rfl)) SimA.nil (fun _ => rfl)) (fun _ => rfl)) (OkC.len F.hz) (KeepF.builtin _)) Sim.cInt) (SimA.cons (Sim.v rfl (by kernel_rfl)) SimA.nil (fun _ => rfl)) (fun _ => rfl)) (fun _ => rfl)) (OkC.max2 (by decide)) (KeepF.builtin _)))
 SimSs.nil))
set_option maxHeartbeats 4000000 in
theorem k_Whitespace_indent_level (F : Top1 w H K mg mb) (hex0 : ex 0 = .type "StopIteration") (hex1 : ex 1 = .ref 55)  : OkK (P1 w H K) (flyK ex) 2 (.ref 172) C_Whitespace_indent_level :=
 OkK.fn (d := 1) (nm := nm1) rfl F.tp F.fn_Whitespace_indent_level (BdIds.pos _) (by kernel_rfl)
 (SimSs.cons (SimS.asg (Sim.attr F.tp (i := 34) rfl F.at_Whitespace_norm (Sim.v rfl (by kernel_rfl)) (fun _ => rfl)) (SimG.tup (by decide) (SimGs.cons (SimG.v inj1 rfl (by kernel_rfl)) (SimGs.cons (SimG.v inj1 rfl (by kernel_rfl)) SimGs.nil)) (fun _ => rfl) rfl (gVars_ex [29, 36])) (fun _ => rfl) (fun _ => rfl) (fun _ => rfl))
 (SimSs.cons (SimS.asgN (i := 38) inj1 rfl (by kernel_rfl) Sim.cInt (fun env h => by cases env; cases h; rfl))
 (SimSs.cons (SimS.for F.hz (by decide) (Sim.call (Sim.b F.tp (by kernel_rfl) F.n_range F.b_range) (SimR.of (SimA.cons (Sim.v rfl (by kernel_rfl)) (SimA.cons (Sim.call (Sim.b F.tp (by kernel_rfl) F.n_len F.b_len) (SimR.of (SimA.cons (Sim.v rfl (by kernel_rfl)) SimA.nil (fun _ => rfl)) (fun _ => rfl)) (OkC.len F.hz) (KeepF.builtin _)) SimA.nil (fun _ => rfl)) (fun _ => rfl)) (fun _ => rfl)) OkC.range2 (KeepF.type _)) (SimG.v inj1 rfl (by kernel_rfl))
 (SimSs.cons (SimS.asgN (i := 38) inj1 rfl (by kernel_rfl) (Sim.bin ok_add (Sim.v rfl (by kernel_rfl)) (Sim.bin ok_mulA (Sim.bin ok_div (Sim.v rfl (by kernel_rfl)) (Sim.v rfl (by kernel_rfl))) (Sim.item (Sim.v rfl (by kernel_rfl)) (Sim.v rfl (by kernel_rfl)) (fun _ _ => ⟨_, rfl⟩)))) (fun env h => by cases env; cases h; rfl))
 SimSs.nil) (fun _ _ => rfl) (gVar_hp 18))
 (SimSs.cons (SimS.ret (Sim.bin ok_add (Sim.v rfl (by kernel_rfl)) (Sim.bin ok_mulA (Sim.v rfl (by kernel_rfl)) (Sim.bin ok_add (Sim.v rfl (by kernel_rfl)) (Sim.attr F.tp (i := 32) rfl F.at_Whitespace_nt (Sim.v rfl (by kernel_rfl)) (fun _ => rfl))))))
 SimSs.nil))))
set_option maxHeartbeats 4000000 in
theorem k_Whitespace_less (F : Top1 w H K mg mb) (hex0 : ex 0 = .type "StopIteration") (hex1 : ex 1 = .ref 55) (h_Whitespace_indent_level : OkK (P1 w H K) (flyK ex) 2 (.ref 172) C_Whitespace_indent_level) (h_Whitespace_longest_run_of_spaces : OkK (P1 w H K) (flyK ex) 2 (.ref 165) C_Whitespace_longest_run_of_spaces) : OkK (P1 w H K) (flyK ex) 3 (.ref 193) C_Whitespace_less :=
 OkK.fn (d := 2) (nm := nm1) rfl F.tp F.fn_Whitespace_less (BdIds.pos _) (by kernel_rfl)
 (SimSs.cons (SimS.iff (SimT.cmp ok_ge (Sim.attr F.tp (i := 31) rfl F.at_Whitespace_n (Sim.v rfl (by kernel_rfl)) (fun _ => rfl)) (Sim.attr F.tp (i := 31) rfl F.at_Whitespace_n (Sim.v rfl (by kernel_rfl)) (fun _ => rfl)) rfl)
 (SimSs.cons (SimS.ret Sim.cBool)
 SimSs.nil)
 SimSs.nil)
 (SimSs.cons (SimS.iff (SimT.and2 (SimT.val (Sim.attr F.tp (i := 35) rfl F.at_Whitespace_is_simple (Sim.v rfl (by kernel_rfl)) (fun _ => rfl)) (fun _ _ => rfl)) (SimT.val (Sim.attr F.tp (i := 35) rfl F.at_Whitespace_is_simple (Sim.v rfl (by kernel_rfl)) (fun _ => rfl)) (fun _ _ => rfl)))
 (SimSs.cons (SimS.ret (Sim.cmp ok_le (Sim.attr F.tp (i := 32) rfl F.at_Whitespace_nt (Sim.v rfl (by kernel_rfl)) (fun _ => rfl)) (Sim.attr F.tp (i := 32) rfl F.at_Whitespace_nt (Sim.v rfl (by kernel_rfl)) (fun _ => rfl)) rfl))
 SimSs.nil)
 SimSs.nil)
 (SimSs.cons (SimS.asgN (i := 31) inj1 rfl (by kernel_rfl) (Sim.bin ok_add (Sim.call (Sim.b F.tp (by kernel_rfl) F.n_max F.b_max) (SimR.of (SimA.cons (Sim.meth (Meth.own inj1 F.tp (j := 40) rfl F.mt_Whitespace_longest_run_of_spaces) (Sim.v rfl (by kernel_rfl)) SimR.nil ((h_Whitespace_longest_run_of_spaces).up (by decide)).c (KeepF.inK F.tp.kin F.kp_Whitespace_longest_run_of_spaces) (fun _ => rfl) (fun _ => rfl) (by decide +kernel) rfl) (SimA.cons (Sim.meth (Meth.own inj1 F.tp (j := 40) rfl F.mt_Whitespace_longest_run_of_spaces) (Sim.v rfl (by kernel_rfl)) SimR.nil ((h_Whitespace_longest_run_of_spaces).up (by decide)).c (KeepF.inK F.tp.kin F.kp_Whitespace_longest_run_of_spaces) (fun _ => rfl) (fun _ => rfl) (by decide +kernel) rfl) SimA.nil (fun _ => rfl)) (fun _ => rfl)) (fun _ => rfl)) (OkC.max2 (by decide)) (KeepF.builtin _)) Sim.cInt) (fun env h => by cases env; cases h; rfl))
 (SimSs.cons (SimS.for F.hz (by decide) (Sim.call (Sim.b F.tp (by kernel_rfl) F.n_range F.b_range) (SimR.of (SimA.cons Sim.cInt (SimA.cons (Sim.bin ok_add (Sim.v rfl (by kernel_rfl)) Sim.cInt) SimA.nil (fun _ => rfl)) (fun _ => rfl)) (fun _ => rfl)) OkC.range2 (KeepF.type _)) (SimG.v inj1 rfl (by kernel_rfl))
 (SimSs.cons (SimS.iff (SimT.cmp ok_ge (Sim.meth (Meth.own inj1 F.tp (j := 42) rfl F.mt_Whitespace_indent_level) (Sim.v rfl (by kernel_rfl)) (SimR.of (SimA.cons (Sim.v rfl (by kernel_rfl)) SimA.nil (fun _ => rfl)) (fun _ => rfl)) ((h_Whitespace_indent_level).up (by decide)).c (KeepF.inK F.tp.kin F.kp_Whitespace_indent_level) (fun _ => rfl) (fun _ => rfl) (by decide +kernel) rfl) (Sim.meth (Meth.own inj1 F.tp (j := 42) rfl F.mt_Whitespace_indent_level) (Sim.v rfl (by kernel_rfl)) (SimR.of (SimA.cons (Sim.v rfl (by kernel_rfl)) SimA.nil (fun _ => rfl)) (fun _ => rfl)) ((h_Whitespace_indent_level).up (by decide)).c (KeepF.inK F.tp.kin F.kp_Whitespace_indent_level) (fun _ => rfl) (fun _ => rfl) (by decide +kernel) rfl) rfl)
 (SimSs.cons (SimS.ret Sim.cBool)
 SimSs.nil)
 SimSs.nil)
 SimSs.nil) (fun _ _ => rfl) (gVar_hp 41))
 (SimSs.cons (SimS.ret Sim.cBool)
 SimSs.nil)))))
set_option maxHeartbeats 4000000 in
theorem k_law_steps (F : Top1 w H K mg mb) (hex0 : ex 0 = .type "StopIteration") (hex1 : ex 1 = .ref 55)  : OkK (P1 w H K) (flyK ex) 2 (.ref 214) C_law_steps :=
 OkK.fn (d := 1) (nm := nm1) rfl F.tp F.fn_law_steps (BdIds.pos _) (by kernel_rfl)
 (SimSs.cons (SimS.asgN (i := 44) inj1 rfl (by kernel_rfl) (Sim.new SimA.nil) (fun env h => by cases env; cases h; rfl))
 (SimSs.cons (SimS.for F.hz (by decide) (Sim.bin ok_add (Sim.lst (SimA.cons Sim.cInt SimA.nil (fun _ => rfl))) (Sim.cut (Sim.v rfl (by kernel_rfl)) SimO.none (SimO.some Sim.cInt) SimO.none (fun _ _ => ⟨_, rfl⟩))) (SimG.v inj1 rfl (by kernel_rfl))
 (SimSs.cons (SimS.asgN (i := 46) inj1 rfl (by kernel_rfl) (Sim.call (Sim.b F.tp (by kernel_rfl) F.n_min F.b_min) (SimR.of (SimA.cons (Sim.bin ok_mod (Sim.bin ok_mod (Sim.v rfl (by kernel_rfl)) Sim.cInt) Sim.cInt) (SimA.cons (Sim.bin ok_mod (Sim.bin ok_mod (Sim.bin ok_div (Sim.v rfl (by kernel_rfl)) Sim.cInt) Sim.cInt) Sim.cInt) SimA.nil (fun _ => rfl)) (fun _ => rfl)) (fun _ => rfl)) (OkC.min2 (by decide)) (KeepF.builtin _)) (fun env h => by cases env; cases h; rfl))
 (SimSs.cons (SimS.asgN (i := 47) inj1 rfl (by kernel_rfl) (Sim.call (Sim.b F.tp (by kernel_rfl) F.n_max F.b_max) (SimR.of (SimA.cons (Sim.bin ok_mod (Sim.bin ok_mod (Sim.v rfl (by kernel_rfl)) Sim.cInt) Sim.cInt) (SimA.cons (Sim.bin ok_mod (Sim.bin ok_mod (Sim.bin ok_div (Sim.v rfl (by kernel_rfl)) Sim.cInt) Sim.cInt) Sim.cInt) SimA.nil (fun _ => rfl)) (fun _ => rfl)) (fun _ => rfl)) (OkC.max2 (by decide)) (KeepF.builtin _)) (fun env h => by cases env; cases h; rfl))
 (SimSs.cons (SimS.asgN (i := 48) inj1 rfl (by kernel_rfl) (Sim.cmp ok_eq (Sim.bin ok_mod (Sim.bin ok_div (Sim.v rfl (by kernel_rfl)) Sim.cInt) Sim.cInt) Sim.cInt rfl) (fun env h => by cases env; cases h; rfl))
 (SimSs.cons (SimS.iff (SimT.or2 (SimT.cmp ok_ne (Sim.v rfl (by kernel_rfl)) (Sim.v rfl (by kernel_rfl)) rfl) (SimT.val (Sim.v rfl (by kernel_rfl)) (fun _ _ => rfl)))
 (SimSs.cons (SimS.exp (Sim.meth (Meth.list PySem.F.slot_list_append PySem.F.type_list_append) (Sim.v rfl (by kernel_rfl)) (SimR.of (SimA.cons (Sim.ite (SimT.cmp ok_eq (Sim.v rfl (by kernel_rfl)) (Sim.cmp ok_eq (Sim.bin ok_mod (Sim.call (Sim.b F.tp (by kernel_rfl) F.n_sum F.b_sum) (SimR.of (SimA.cons (Sim.v rfl (by kernel_rfl)) SimA.nil (fun _ => rfl)) (fun _ => rfl)) (OkC.sum (by decide)) (KeepF.builtin _)) Sim.cInt) Sim.cInt rfl) rfl) (Sim.tup (SimA.cons (Sim.v rfl (by kernel_rfl)) (SimA.cons (Sim.v rfl (by kernel_rfl)) SimA.nil (fun _ => rfl)) (fun _ => rfl))) (Sim.tup (SimA.cons (Sim.v rfl (by kernel_rfl)) (SimA.cons (Sim.v rfl (by kernel_rfl)) SimA.nil (fun _ => rfl)) (fun _ => rfl)))) SimA.nil (fun _ => rfl)) (fun _ => rfl)) OkC.append (KeepF.builtin _) (fun _ => rfl) (fun _ => rfl) (by decide +kernel) rfl) (fun _ => rfl))
 SimSs.nil)
 SimSs.nil)
 SimSs.nil)))) (fun _ _ => rfl) (gVar_hp 45))
 (SimSs.cons (SimS.ret (Sim.frz rfl (by kernel_rfl) (by kernel_rfl) (by kernel_rfl)))
 SimSs.nil)))
set_option maxHeartbeats 4000000 in
theorem k_law_run (F : Top1 w H K mg mb) (hex0 : ex 0 = .type "StopIteration") (hex1 : ex 1 = .ref 55) (h_TS_init : OkK (P1 w H K) (flyK ex) 2 (.ref 73) C_TS_init) (h_TS_add : OkK (P1 w H K) (flyK ex) 5 (.ref 87) C_TS_add) (h_TS_done : OkK (P1 w H K) (flyK ex) 2 (.ref 120) C_TS_done) (h_TS_get_ready : OkK (P1 w H K) (flyK ex) 2 (.ref 99) C_TS_get_ready) (h_TS_is_active : OkK (P1 w H K) (flyK ex) 2 (.ref 106) C_TS_is_active) (h_TS_prepare : OkK (P1 w H K) (flyK ex) 3 (.ref 92) C_TS_prepare) : OkK (P1 w H K) (flyK ex) 6 (.ref 219) C_law_run :=
 OkK.fn (d := 5) (nm := nm1) rfl F.tp F.fn_law_run (BdIds.pos _) (by kernel_rfl)
 (SimSs.cons (SimS.asgN (i := 50) inj1 rfl (by kernel_rfl) (Sim.call (Sim.g F.tp (by kernel_rfl) F.g_TS) SimR.nil ((OkK.make F.tp F.mk_TS (h_TS_init)).up (by decide)).c (KeepF.inK F.tp.kin F.kp_TS)) (fun env h => by cases env; cases h; rfl))
 (SimSs.cons (SimS.asgCompN inj1 F.hz (by decide) (i := 54) (fr := [50, 44]) (.inl rfl) rfl (by kernel_rfl) (CompFacts.of (nm := nm1) rfl (by kernel_rfl)) (Sim.lst (SimA.cons Sim.cInt (SimA.cons Sim.cInt (SimA.cons Sim.cInt (SimA.cons Sim.cInt SimA.nil (fun _ => rfl)) (fun _ => rfl)) (fun _ => rfl)) (fun _ => rfl))) (SimG.v inj1 rfl (by kernel_rfl)) (Tgt.var 1) SimF.nil (SimI.elt rfl (Sim.methStar inj1 F.tp (j := 53) rfl F.mt_TS_add F.sg_TS_add F.tk_TS_add F.ci_TS (by show copiedNames.contains (nm1 53) = false; decide +kernel) F.fi_TS_add (Sim.v rfl (by kernel_rfl)) (SimR.of (SimA.cons (Sim.v rfl (by kernel_rfl)) (SimA.star (Sim.comp F.hz (by decide) (fr := [1]) (.inl rfl) (CompFacts.of (nm := nm1) rfl (by kernel_rfl)) (Sim.v rfl (by kernel_rfl)) (SimG.tup (by decide) (SimGs.cons (SimG.v inj1 rfl (by kernel_rfl)) (SimGs.cons (SimG.v inj1 rfl (by kernel_rfl)) SimGs.nil)) (fun _ => rfl) rfl (gVars_ex [51, 52])) (Tgt.tup (by decide +kernel)) (SimF.one (SimT.cmp ok_eq (Sim.v rfl (by kernel_rfl)) (Sim.v rfl (by kernel_rfl)) rfl)) (SimI.elt rfl (Sim.v rfl (by kernel_rfl))) (by decide +kernel) (fun _ _ => rfl)) SimA.nil) (fun _ => rfl)) (fun _ => rfl)) ((h_TS_add).up (by decide)) (fun _ => rfl) (fun _ => rfl))) (by decide +kernel) (fun _ _ => rfl) (fun env h => by cases env; cases h; rfl))
 (SimSs.cons (SimS.exp (Sim.meth (Meth.list PySem.F.slot_list_extend PySem.F.type_list_extend) (Sim.v rfl (by kernel_rfl)) (SimR.of (SimA.cons (Sim.comp F.hz (by decide) (fr := [50]) (.inl rfl) (CompFacts.of (nm := nm1) rfl (by kernel_rfl)) (Sim.cut (Sim.v rfl (by kernel_rfl)) SimO.none (SimO.some Sim.cInt) SimO.none (fun _ _ => ⟨_, rfl⟩)) (SimG.tup (by decide) (SimGs.cons (SimG.v inj1 rfl (by kernel_rfl)) (SimGs.cons (SimG.v inj1 rfl (by kernel_rfl)) SimGs.nil)) (fun _ => rfl) rfl (gVars_ex [51, 52])) (Tgt.tup (by decide +kernel)) SimF.nil (SimI.elt rfl (Sim.meth (Meth.own inj1 F.tp (j := 53) rfl F.mt_TS_add) (Sim.v rfl (by kernel_rfl)) (SimR.of (SimA.cons (Sim.v rfl (by kernel_rfl)) (SimA.cons (Sim.v rfl (by kernel_rfl)) SimA.nil (fun _ => rfl)) (fun _ => rfl)) (fun _ => rfl)) ((h_TS_add).up (by decide)).c (KeepF.inK F.tp.kin F.kp_TS_add) (fun _ => rfl) (fun _ => rfl) (by decide +kernel) rfl)) (by decide +kernel) (fun _ _ => rfl)) SimA.nil (fun _ => rfl)) (fun _ => rfl)) OkC.extend (KeepF.builtin _) (fun _ => rfl) (fun _ => rfl) (by decide +kernel) rfl) (fun _ => rfl))
 (SimSs.cons (SimS.asgN (i := 55) inj1 rfl (by kernel_rfl) Sim.cBool (fun env h => by cases env; cases h; rfl))
 (SimSs.cons (SimS.try (SimSs.cons (SimS.exp (Sim.meth (Meth.list PySem.F.slot_list_append PySem.F.type_list_append) (Sim.v rfl (by kernel_rfl)) (SimR.of (SimA.cons (Sim.meth (Meth.own inj1 F.tp (j := 56) rfl F.mt_TS_prepare) (Sim.v rfl (by kernel_rfl)) SimR.nil ((h_TS_prepare).up (by decide)).c (KeepF.inK F.tp.kin F.kp_TS_prepare) (fun _ => rfl) (fun _ => rfl) (by decide +kernel) rfl) SimA.nil (fun _ => rfl)) (fun _ => rfl)) OkC.append (KeepF.builtin _) (fun _ => rfl) (fun _ => rfl) (by decide +kernel) rfl) (fun _ => rfl))
 SimSs.nil) (NameIs.glob F.tp (by kernel_rfl) (by kernel_rfl) F.g_CycleError) (hex1 ▸ F.mat1) (SimSs.cons (SimS.asgN (i := 55) inj1 rfl (by kernel_rfl) Sim.cBool (fun env h => by cases env; cases h; rfl))
 SimSs.nil))
 (SimSs.cons (SimS.asgN (i := 57) inj1 rfl (by kernel_rfl) (Sim.new SimA.nil) (fun env h => by cases env; cases h; rfl))
 (SimSs.cons (SimS.asgN (i := 58) inj1 rfl (by kernel_rfl) (Sim.new SimA.nil) (fun env h => by cases env; cases h; rfl))
 (SimSs.cons (SimS.while (SimT.cmp ok_is (Sim.meth (Meth.own inj1 F.tp (j := 59) rfl F.mt_TS_is_active) (Sim.v rfl (by kernel_rfl)) SimR.nil ((h_TS_is_active).up (by decide)).c (KeepF.inK F.tp.kin F.kp_TS_is_active) (fun _ => rfl) (fun _ => rfl) (by decide +kernel) rfl) Sim.cBool rfl)
 (SimSs.cons (SimS.asgN (i := 61) inj1 rfl (by kernel_rfl) (Sim.meth (Meth.own inj1 F.tp (j := 60) rfl F.mt_TS_get_ready) (Sim.v rfl (by kernel_rfl)) SimR.nil ((h_TS_get_ready).up (by decide)).c (KeepF.inK F.tp.kin F.kp_TS_get_ready) (fun _ => rfl) (fun _ => rfl) (by decide +kernel) rfl) (fun env h => by cases env; cases h; rfl))
 (SimSs.cons (SimS.exp (Sim.meth (Meth.list PySem.F.slot_list_extend PySem.F.type_list_extend) (Sim.v rfl (by kernel_rfl)) (SimR.of (SimA.cons (Sim.v rfl (by kernel_rfl)) SimA.nil (fun _ => rfl)) (fun _ => rfl)) OkC.extend (KeepF.builtin _) (fun _ => rfl) (fun _ => rfl) (by decide +kernel) rfl) (fun _ => rfl))
 (SimSs.cons (SimS.asgN (i := 62) inj1 rfl (by kernel_rfl) (Sim.comp F.hz (by decide) (fr := [58]) (.inl rfl) (CompFacts.of (nm := nm1) rfl (by kernel_rfl)) (Sim.v rfl (by kernel_rfl)) (SimG.tup (by decide) (SimGs.cons (SimG.v inj1 rfl (by kernel_rfl)) (SimGs.cons (SimG.v inj1 rfl (by kernel_rfl)) SimGs.nil)) (fun _ => rfl) rfl (gVars_ex [51, 52])) (Tgt.tup (by decide +kernel)) (SimF.one (SimT.cmp (ok_notIn F.hz) (Sim.v rfl (by kernel_rfl)) (Sim.v rfl (by kernel_rfl)) rfl)) (SimI.elt rfl (Sim.v rfl (by kernel_rfl))) (by decide +kernel) (fun _ _ => rfl)) (fun env h => by cases env; cases h; rfl))
 (SimSs.cons (SimS.asgComp inj1 F.hz (by decide) (i := 63) (fr := [58, 62]) (.inl rfl) rfl (by kernel_rfl) (CompFacts.of (nm := nm1) rfl (by kernel_rfl)) (Sim.call (Sim.b F.tp (by kernel_rfl) F.n_range F.b_range) (SimR.of (SimA.cons Sim.cInt SimA.nil (fun _ => rfl)) (fun _ => rfl)) OkC.range1 (KeepF.type _)) (SimG.v inj1 rfl (by kernel_rfl)) (Tgt.var 1) (SimF.one (SimT.and2 (SimT.cmp (ok_notIn F.hz) (Sim.v rfl (by kernel_rfl)) (Sim.v rfl (by kernel_rfl)) rfl) (SimT.cmp (ok_notIn F.hz) (Sim.v rfl (by kernel_rfl)) (Sim.v rfl (by kernel_rfl)) rfl))) (SimI.elt rfl (Sim.v rfl (by kernel_rfl))) (by decide +kernel) (fun _ _ => rfl) (fun env h => by cases env; cases h; rfl))
 (SimSs.cons (SimS.iff (SimT.or2 (SimT.not (SimT.val (Sim.call (Sim.b F.tp (by kernel_rfl) F.n_isinstance F.b_isinstance) (SimR.of (SimA.cons (Sim.v rfl (by kernel_rfl)) (SimA.cons (Sim.b F.tp (by kernel_rfl) F.n_tuple F.b_tuple) SimA.nil (fun _ => rfl)) (fun _ => rfl)) (fun _ => rfl)) OkC.isTup (KeepF.builtin _)) (fun _ _ => rfl))) (SimT.cmp ok_ne (Sim.call (Sim.b F.tp (by kernel_rfl) F.n_sorted F.b_sorted) (SimR.of (SimA.cons (Sim.v rfl (by kernel_rfl)) SimA.nil (fun _ => rfl)) (fun _ => rfl)) OkC.sortInts (KeepF.builtin _)) (Sim.v rfl (by kernel_rfl)) rfl))
 (SimSs.cons (SimS.ret (Sim.tup (SimA.cons (Sim.frz rfl (by kernel_rfl) (by kernel_rfl) (by kernel_rfl)) (SimA.cons (Sim.v rfl (by kernel_rfl)) (SimA.cons (Sim.lst (SimA.cons Sim.cInt SimA.nil (fun _ => rfl))) SimA.nil (fun _ => rfl)) (fun _ => rfl)) (fun _ => rfl))))
 SimSs.nil)
 SimSs.nil)
 (SimSs.cons (SimS.asgComp inj1 F.hz (by decide) (i := 64) (fr := [49]) (.inl rfl) rfl (by kernel_rfl) (CompFacts.of (nm := nm1) rfl (by kernel_rfl)) (Sim.v rfl (by kernel_rfl)) (SimG.v inj1 rfl (by kernel_rfl)) (Tgt.var 1) (SimF.one (SimT.cmp ok_ne (Sim.v rfl (by kernel_rfl)) (Sim.v rfl (by kernel_rfl)) rfl)) (SimI.elt rfl (Sim.v rfl (by kernel_rfl))) (by decide +kernel) (fun _ _ => rfl) (fun env h => by cases env; cases h; rfl))
 (SimSs.cons (SimS.asgN (i := 65) inj1 rfl (by kernel_rfl) (Sim.ite (SimT.cmp ok_ne (Sim.v rfl (by kernel_rfl)) (Sim.lst SimA.nil) rfl) (Sim.item (Sim.v rfl (by kernel_rfl)) Sim.cInt (fun _ _ => ⟨_, rfl⟩)) (Sim.v rfl (by kernel_rfl))) (fun env h => by cases env; cases h; rfl))
 (SimSs.cons (SimS.exp (Sim.meth (Meth.list PySem.F.slot_list_remove PySem.F.type_list_remove) (Sim.v rfl (by kernel_rfl)) (SimR.of (SimA.cons (Sim.v rfl (by kernel_rfl)) SimA.nil (fun _ => rfl)) (fun _ => rfl)) OkC.remove (KeepF.builtin _) (fun _ => rfl) (fun _ => rfl) (by decide +kernel) rfl) (fun _ => rfl))
 (SimSs.cons (SimS.exp (Sim.meth (Meth.list PySem.F.slot_list_append PySem.F.type_list_append) (Sim.v rfl (by kernel_rfl)) (SimR.of (SimA.cons (Sim.v rfl (by kernel_rfl)) SimA.nil (fun _ => rfl)) (fun _ => rfl)) OkC.append (KeepF.builtin _) (fun _ => rfl) (fun _ => rfl) (by decide +kernel) rfl) (fun _ => rfl))
 (SimSs.cons (SimS.exp (Sim.meth (Meth.list PySem.F.slot_list_append PySem.F.type_list_append) (Sim.v rfl (by kernel_rfl)) (SimR.of (SimA.cons (Sim.meth (Meth.own inj1 F.tp (j := 66) rfl F.mt_TS_done) (Sim.v rfl (by kernel_rfl)) (SimR.of (SimA.cons (Sim.v rfl (by kernel_rfl)) SimA.nil (fun _ => rfl)) (fun _ => rfl)) ((h_TS_done).up (by decide)).c (KeepF.inK F.tp.kin F.kp_TS_done) (fun _ => rfl) (fun _ => rfl) (by decide +kernel) rfl) SimA.nil (fun _ => rfl)) (fun _ => rfl)) OkC.append (KeepF.builtin _) (fun _ => rfl) (fun _ => rfl) (by decide +kernel) rfl) (fun _ => rfl))
 SimSs.nil))))))))))
 SimSs.nil)
 (SimSs.cons (SimS.iff (SimT.cmp ok_isNot (Sim.meth (Meth.own inj1 F.tp (j := 59) rfl F.mt_TS_is_active) (Sim.v rfl (by kernel_rfl)) SimR.nil ((h_TS_is_active).up (by decide)).c (KeepF.inK F.tp.kin F.kp_TS_is_active) (fun _ => rfl) (fun _ => rfl) (by decide +kernel) rfl) Sim.cBool rfl)
 (SimSs.cons (SimS.exp (Sim.meth (Meth.list PySem.F.slot_list_append PySem.F.type_list_append) (Sim.v rfl (by kernel_rfl)) (SimR.of (SimA.cons Sim.cInt SimA.nil (fun _ => rfl)) (fun _ => rfl)) OkC.append (KeepF.builtin _) (fun _ => rfl) (fun _ => rfl) (by decide +kernel) rfl) (fun _ => rfl))
 SimSs.nil)
 SimSs.nil)
 (SimSs.cons (SimS.ret (Sim.tup (SimA.cons (Sim.frz rfl (by kernel_rfl) (by kernel_rfl) (by kernel_rfl)) (SimA.cons (Sim.v rfl (by kernel_rfl)) (SimA.cons (Sim.comp F.hz (by decide) (fr := []) (.inl rfl) (CompFacts.of (nm := nm1) rfl (by kernel_rfl)) (Sim.v rfl (by kernel_rfl)) (SimG.v inj1 rfl (by kernel_rfl)) (Tgt.var 67) (SimF.one (SimT.cmp ok_isNot (Sim.v rfl (by kernel_rfl)) Sim.cNone rfl)) (SimI.elt rfl (Sim.v rfl (by kernel_rfl))) (by decide +kernel) (fun _ _ => rfl)) SimA.nil (fun _ => rfl)) (fun _ => rfl)) (fun _ => rfl))))
 SimSs.nil))))))))))
set_option maxHeartbeats 4000000 in
theorem k_law_text (F : Top1 w H K mg mb) (hex0 : ex 0 = .type "StopIteration") (hex1 : ex 1 = .ref 55)  : OkK (P1 w H K) (flyK ex) 2 (.ref 226) C_law_text :=
 OkK.fn (d := 1) (nm := nm1) rfl F.tp F.fn_law_text (BdIds.pos _) (by kernel_rfl)
 (SimSs.cons (SimS.asgN (i := 69) inj1 rfl (by kernel_rfl) (Sim.cStr (l := []) (by kernel_rfl)) (fun env h => by cases env; cases h; rfl))
 (SimSs.cons (SimS.for F.hz (by decide) (Sim.call (Sim.b F.tp (by kernel_rfl) F.n_range F.b_range) (SimR.of (SimA.cons Sim.cInt (SimA.cons (Sim.call (Sim.b F.tp (by kernel_rfl) F.n_len F.b_len) (SimR.of (SimA.cons (Sim.v rfl (by kernel_rfl)) SimA.nil (fun _ => rfl)) (fun _ => rfl)) (OkC.len F.hz) (KeepF.builtin _)) SimA.nil (fun _ => rfl)) (fun _ => rfl)) (fun _ => rfl)) OkC.range2 (KeepF.type _)) (SimG.v inj1 rfl (by kernel_rfl))
 (SimSs.cons (SimS.asgN (i := 71) inj1 rfl (by kernel_rfl) (Sim.bin ok_sub (Sim.bin ok_add (Sim.call (Sim.b F.tp (by kernel_rfl) F.n_len F.b_len) (SimR.of (SimA.cons (Sim.v rfl (by kernel_rfl)) SimA.nil (fun _ => rfl)) (fun _ => rfl)) (OkC.len F.hz) (KeepF.builtin _)) (Sim.v rfl (by kernel_rfl))) Sim.cInt) (fun env h => by cases env; cases h; rfl))
 (SimSs.cons (SimS.asgN (i := 72) inj1 rfl (by kernel_rfl) (Sim.bin ok_add (Sim.bin ok_mulA (Sim.lst (SimA.cons (Sim.bin ok_add (Sim.bin ok_mulA (Sim.cStr (l := [32]) (by kernel_rfl)) (Sim.v rfl (by kernel_rfl))) (Sim.cStr (l := [9]) (by kernel_rfl))) SimA.nil (fun _ => rfl))) (Sim.item (Sim.v rfl (by kernel_rfl)) (Sim.v rfl (by kernel_rfl)) (fun _ _ => ⟨_, rfl⟩))) (Sim.bin ok_mulA (Sim.lst (SimA.cons (Sim.bin ok_add (Sim.bin ok_mulA (Sim.cStr (l := [32]) (by kernel_rfl)) (Sim.bin ok_sub (Sim.v rfl (by kernel_rfl)) Sim.cInt)) (Sim.cStr (l := [9]) (by kernel_rfl))) SimA.nil (fun _ => rfl))) (Sim.bin ok_sub (Sim.bin ok_sub (Sim.call (Sim.b F.tp (by kernel_rfl) F.n_len F.b_len) (SimR.of (SimA.cons (Sim.v rfl (by kernel_rfl)) SimA.nil (fun _ => rfl)) (fun _ => rfl)) (OkC.len F.hz) (KeepF.builtin _)) Sim.cInt) (Sim.item (Sim.v rfl (by kernel_rfl)) (Sim.v rfl (by kernel_rfl)) (fun _ _ => ⟨_, rfl⟩))))) (fun env h => by cases env; cases h; rfl))
 (SimSs.cons (SimS.iff (SimT.cmp ok_eq (Sim.bin ok_mod (Sim.v rfl (by kernel_rfl)) Sim.cInt) Sim.cInt rfl)
 (SimSs.cons (SimS.asgN (i := 72) inj1 rfl (by kernel_rfl) (Sim.cut (Sim.v rfl (by kernel_rfl)) SimO.none SimO.none (SimO.some (Sim.neg Sim.cInt)) (fun _ _ => ⟨_, rfl⟩)) (fun env h => by cases env; cases h; rfl))
 SimSs.nil)
 SimSs.nil)
 (SimSs.cons (SimS.asgN (i := 69) inj1 rfl (by kernel_rfl) (Sim.bin ok_add (Sim.v rfl (by kernel_rfl)) (Sim.meth (Meth.str PySem.F.slot_str_join PySem.F.type_str_join) (Sim.cStr (l := []) (by kernel_rfl)) (SimR.of (SimA.cons (Sim.v rfl (by kernel_rfl)) SimA.nil (fun _ => rfl)) (fun _ => rfl)) OkC.join0 (KeepF.builtin _) (fun _ => rfl) (fun _ => rfl) (by decide +kernel) rfl)) (fun env h => by cases env; cases h; rfl))
 SimSs.nil)))) (fun _ _ => rfl) (gVar_hp 70))
 (SimSs.cons (SimS.ret (Sim.bin ok_add (Sim.bin ok_add (Sim.v rfl (by kernel_rfl)) (Sim.bin ok_mulA (Sim.cStr (l := [32]) (by kernel_rfl)) (Sim.item (Sim.v rfl (by kernel_rfl)) Sim.cInt (fun _ _ => ⟨_, rfl⟩)))) (Sim.cStr (l := [120, 32, 9]) (by kernel_rfl))))
 SimSs.nil)))
set_option maxHeartbeats 4000000 in
theorem k_law_column (F : Top1 w H K mg mb) (hex0 : ex 0 = .type "StopIteration") (hex1 : ex 1 = .ref 55)  : OkK (P1 w H K) (flyK ex) 2 (.ref 233) C_law_column :=
 OkK.fn (d := 1) (nm := nm1) rfl F.tp F.fn_law_column (BdIds.pos _) (by kernel_rfl)
 (SimSs.cons (SimS.asgN (i := 73) inj1 rfl (by kernel_rfl) (Sim.item (Sim.v rfl (by kernel_rfl)) Sim.cInt (fun _ _ => ⟨_, rfl⟩)) (fun env h => by cases env; cases h; rfl))
 (SimSs.cons (SimS.for F.hz (by decide) (Sim.call (Sim.b F.tp (by kernel_rfl) F.n_range F.b_range) (SimR.of (SimA.cons Sim.cInt (SimA.cons (Sim.call (Sim.b F.tp (by kernel_rfl) F.n_len F.b_len) (SimR.of (SimA.cons (Sim.v rfl (by kernel_rfl)) SimA.nil (fun _ => rfl)) (fun _ => rfl)) (OkC.len F.hz) (KeepF.builtin _)) SimA.nil (fun _ => rfl)) (fun _ => rfl)) (fun _ => rfl)) OkC.range2 (KeepF.type _)) (SimG.v inj1 rfl (by kernel_rfl))
 (SimSs.cons (SimS.asgN (i := 74) inj1 rfl (by kernel_rfl) (Sim.bin ok_sub (Sim.bin ok_add (Sim.call (Sim.b F.tp (by kernel_rfl) F.n_len F.b_len) (SimR.of (SimA.cons (Sim.v rfl (by kernel_rfl)) SimA.nil (fun _ => rfl)) (fun _ => rfl)) (OkC.len F.hz) (KeepF.builtin _)) (Sim.v rfl (by kernel_rfl))) Sim.cInt) (fun env h => by cases env; cases h; rfl))
 (SimSs.cons (SimS.asgN (i := 73) inj1 rfl (by kernel_rfl) (Sim.bin ok_add (Sim.v rfl (by kernel_rfl)) (Sim.bin ok_mulA (Sim.bin ok_sub (Sim.call (Sim.b F.tp (by kernel_rfl) F.n_len F.b_len) (SimR.of (SimA.cons (Sim.v rfl (by kernel_rfl)) SimA.nil (fun _ => rfl)) (fun _ => rfl)) (OkC.len F.hz) (KeepF.builtin _)) Sim.cInt) (Sim.bin ok_add (Sim.bin ok_mulA (Sim.bin ok_div (Sim.bin ok_sub (Sim.v rfl (by kernel_rfl)) Sim.cInt) (Sim.v rfl (by kernel_rfl))) (Sim.v rfl (by kernel_rfl))) (Sim.v rfl (by kernel_rfl))))) (fun env h => by cases env; cases h; rfl))
 (SimSs.cons (SimS.iff (SimT.cmp ok_eq (Sim.bin ok_mod (Sim.v rfl (by kernel_rfl)) (Sim.v rfl (by kernel_rfl))) Sim.cInt rfl)
 (SimSs.cons (SimS.asgN (i := 73) inj1 rfl (by kernel_rfl) (Sim.bin ok_add (Sim.v rfl (by kernel_rfl)) (Sim.bin ok_mulA (Sim.item (Sim.v rfl (by kernel_rfl)) (Sim.v rfl (by kernel_rfl)) (fun _ _ => ⟨_, rfl⟩)) (Sim.v rfl (by kernel_rfl)))) (fun env h => by cases env; cases h; rfl))
 SimSs.nil)
 SimSs.nil)
 SimSs.nil))) (fun _ _ => rfl) (gVar_hp 70))
 (SimSs.cons (SimS.ret (Sim.v rfl (by kernel_rfl)))
 SimSs.nil)))
set_option maxHeartbeats 4000000 in
theorem k_law_met (F : Top1 w H K mg mb) (hex0 : ex 0 = .type "StopIteration") (hex1 : ex 1 = .ref 55)  : OkK (P1 w H K) (flyK ex) 2 (.ref 238) C_law_met :=
 OkK.fn (d := 1) (nm := nm1) rfl F.tp F.fn_law_met (BdIds.pos _) (by kernel_rfl)
 (SimSs.cons (SimS.asgN (i := 75) inj1 rfl (by kernel_rfl) (Sim.lst SimA.nil) (fun env h => by cases env; cases h; rfl))
 (SimSs.cons (SimS.for F.hz (by decide) (Sim.call (Sim.b F.tp (by kernel_rfl) F.n_range F.b_range) (SimR.of (SimA.cons Sim.cInt SimA.nil (fun _ => rfl)) (fun _ => rfl)) OkC.range1 (KeepF.type _)) (SimG.v inj1 rfl (by kernel_rfl))
 (SimSs.cons (SimS.asgN (i := 75) inj1 rfl (by kernel_rfl) (Sim.bin ok_add (Sim.v rfl (by kernel_rfl)) (Sim.comp F.hz (by decide) (fr := [75, 1]) (.inl rfl) (CompFacts.of (nm := nm1) rfl (by kernel_rfl)) (Sim.v rfl (by kernel_rfl)) (SimG.tup (by decide) (SimGs.cons (SimG.v inj1 rfl (by kernel_rfl)) (SimGs.cons (SimG.v inj1 rfl (by kernel_rfl)) SimGs.nil)) (fun _ => rfl) rfl (gVars_ex [51, 52])) (Tgt.tup (by decide +kernel)) (SimF.one (SimT.and2 (SimT.or2 (SimT.cmp ok_eq (Sim.v rfl (by kernel_rfl)) (Sim.v rfl (by kernel_rfl)) rfl) (SimT.cmp (ok_in F.hz) (Sim.v rfl (by kernel_rfl)) (Sim.v rfl (by kernel_rfl)) rfl)) (SimT.cmp (ok_notIn F.hz) (Sim.v rfl (by kernel_rfl)) (Sim.v rfl (by kernel_rfl)) rfl))) (SimI.elt rfl (Sim.v rfl (by kernel_rfl))) (by decide +kernel) (fun _ _ => rfl))) (fun env h => by cases env; cases h; rfl))
 SimSs.nil) (fun _ _ => rfl) (gVar_hp 76))
 (SimSs.cons (SimS.ret (Sim.v rfl (by kernel_rfl)))
 SimSs.nil)))
set_option maxHeartbeats 4000000 in
theorem k_law (F : Top1 w H K mg mb) (hex0 : ex 0 = .type "StopIteration") (hex1 : ex 1 = .ref 55) (h_Whitespace_init : OkK (P1 w H K) (flyK ex) 2 (.ref 158) C_Whitespace_init) (h_Whitespace_indent_level : OkK (P1 w H K) (flyK ex) 2 (.ref 172) C_Whitespace_indent_level) (h_Whitespace_less : OkK (P1 w H K) (flyK ex) 3 (.ref 193) C_Whitespace_less) (h_law_column : OkK (P1 w H K) (flyK ex) 2 (.ref 233) C_law_column) (h_law_met : OkK (P1 w H K) (flyK ex) 2 (.ref 238) C_law_met) (h_law_run : OkK (P1 w H K) (flyK ex) 6 (.ref 219) C_law_run) (h_law_steps : OkK (P1 w H K) (flyK ex) 2 (.ref 214) C_law_steps) (h_law_text : OkK (P1 w H K) (flyK ex) 2 (.ref 226) C_law_text) : OkK (P1 w H K) (flyK ex) 7 (.ref 243) C_law :=
 OkK.fn (d := 6) (nm := nm1) rfl F.tp F.fn_law (BdIds.pos _) (by kernel_rfl)
 (SimSs.cons (SimS.asgN (i := 44) inj1 rfl (by kernel_rfl) (Sim.call (Sim.g F.tp (by kernel_rfl) F.g__law_steps) (SimR.of (SimA.cons (Sim.v rfl (by kernel_rfl)) SimA.nil (fun _ => rfl)) (fun _ => rfl)) ((h_law_steps).up (by decide)).c (KeepF.inK F.tp.kin F.kp_law_steps)) (fun env h => by cases env; cases h; rfl))
 (SimSs.cons (SimS.asgN (i := 77) inj1 rfl (by kernel_rfl) (Sim.lst (SimA.cons Sim.cInt (SimA.cons Sim.cInt (SimA.cons Sim.cInt (SimA.cons Sim.cInt SimA.nil (fun _ => rfl)) (fun _ => rfl)) (fun _ => rfl)) (fun _ => rfl))) (fun env h => by cases env; cases h; rfl))
 (SimSs.cons (SimS.for F.hz (by decide) (Sim.call (Sim.b F.tp (by kernel_rfl) F.n_range F.b_range) (SimR.of (SimA.cons Sim.cInt SimA.nil (fun _ => rfl)) (fun _ => rfl)) OkC.range1 (KeepF.type _)) (SimG.v inj1 rfl (by kernel_rfl))
 (SimSs.cons (SimS.asgN (i := 77) inj1 rfl (by kernel_rfl) (Sim.comp F.hz (by decide) (fr := [44, 77]) (.inl rfl) (CompFacts.of (nm := nm1) rfl (by kernel_rfl)) (Sim.call (Sim.b F.tp (by kernel_rfl) F.n_range F.b_range) (SimR.of (SimA.cons Sim.cInt SimA.nil (fun _ => rfl)) (fun _ => rfl)) OkC.range1 (KeepF.type _)) (SimG.v inj1 rfl (by kernel_rfl)) (Tgt.var 1) (SimF.one (SimT.cmp ok_ne (Sim.comp F.hz (by decide) (fr := [1, 77]) (.inl rfl) (CompFacts.of (nm := nm1) rfl (by kernel_rfl)) (Sim.v rfl (by kernel_rfl)) (SimG.tup (by decide) (SimGs.cons (SimG.v inj1 rfl (by kernel_rfl)) (SimGs.cons (SimG.v inj1 rfl (by kernel_rfl)) SimGs.nil)) (fun _ => rfl) rfl (gVars_ex [51, 52])) (Tgt.tup (by decide +kernel)) (SimF.one (SimT.and2 (SimT.cmp ok_eq (Sim.v rfl (by kernel_rfl)) (Sim.v rfl (by kernel_rfl)) rfl) (SimT.cmp (ok_in F.hz) (Sim.v rfl (by kernel_rfl)) (Sim.v rfl (by kernel_rfl)) rfl))) (SimI.elt rfl (Sim.v rfl (by kernel_rfl))) (by decide +kernel) (fun _ _ => rfl)) (Sim.lst SimA.nil) rfl)) (SimI.elt rfl (Sim.v rfl (by kernel_rfl))) (by decide +kernel) (fun _ _ => rfl)) (fun env h => by cases env; cases h; rfl))
 SimSs.nil) (fun _ _ => rfl) (gVar_hp 76))
 (SimSs.cons (SimS.asg (Sim.call (Sim.g F.tp (by kernel_rfl) F.g__law_run) (SimR.of (SimA.cons (Sim.v rfl (by kernel_rfl)) (SimA.cons (Sim.neg Sim.cInt) SimA.nil (fun _ => rfl)) (fun _ => rfl)) (fun _ => rfl)) ((h_law_run).up (by decide)).c (KeepF.inK F.tp.kin F.kp_law_run)) (SimG.tup (by decide) (SimGs.cons (SimG.v inj1 rfl (by kernel_rfl)) (SimGs.cons (SimG.v inj1 rfl (by kernel_rfl)) (SimGs.cons (SimG.v inj1 rfl (by kernel_rfl)) SimGs.nil))) (fun _ => rfl) rfl (gVars_ex [78, 55, 79])) (fun _ => rfl) (fun _ => rfl) (fun _ => rfl))
 (SimSs.cons (SimS.iff (SimT.or2 (SimT.cmp ok_ne (Sim.v rfl (by kernel_rfl)) (Sim.lst SimA.nil) rfl) (SimT.cmp ok_isNot (Sim.v rfl (by kernel_rfl)) (Sim.cmp ok_ne (Sim.v rfl (by kernel_rfl)) (Sim.lst SimA.nil) rfl) rfl))
 (SimSs.cons (SimS.ret Sim.cBool)
 SimSs.nil)
 SimSs.nil)
 (SimSs.cons (SimS.iff (SimT.cmp ok_ne (Sim.call (Sim.b F.tp (by kernel_rfl) F.n_sorted F.b_sorted) (SimR.of (SimA.cons (Sim.v rfl (by kernel_rfl)) SimA.nil (fun _ => rfl)) (fun _ => rfl)) OkC.sortInts (KeepF.builtin _)) (Sim.comp F.hz (by decide) (fr := [77]) (.inl rfl) (CompFacts.of (nm := nm1) rfl (by kernel_rfl)) (Sim.call (Sim.b F.tp (by kernel_rfl) F.n_range F.b_range) (SimR.of (SimA.cons Sim.cInt SimA.nil (fun _ => rfl)) (fun _ => rfl)) OkC.range1 (KeepF.type _)) (SimG.v inj1 rfl (by kernel_rfl)) (Tgt.var 1) (SimF.one (SimT.cmp (ok_notIn F.hz) (Sim.v rfl (by kernel_rfl)) (Sim.v rfl (by kernel_rfl)) rfl)) (SimI.elt rfl (Sim.v rfl (by kernel_rfl))) (by decide +kernel) (fun _ _ => rfl)) rfl)
 (SimSs.cons (SimS.ret Sim.cBool)
 SimSs.nil)
 SimSs.nil)
 (SimSs.cons (SimS.asgN (i := 80) inj1 rfl (by kernel_rfl) (Sim.comp F.hz (by decide) (fr := [44]) (.inl rfl) (CompFacts.of (nm := nm1) rfl (by kernel_rfl)) (Sim.v rfl (by kernel_rfl)) (SimG.v inj1 rfl (by kernel_rfl)) (Tgt.var 49) SimF.nil (SimI.elt rfl (Sim.item (Sim.call (Sim.g F.tp (by kernel_rfl) F.g__law_run) (SimR.of (SimA.cons (Sim.v rfl (by kernel_rfl)) (SimA.cons (Sim.v rfl (by kernel_rfl)) SimA.nil (fun _ => rfl)) (fun _ => rfl)) (fun _ => rfl)) ((h_law_run).up (by decide)).c (KeepF.inK F.tp.kin F.kp_law_run)) Sim.cInt (fun _ _ => ⟨_, rfl⟩))) (by decide +kernel) (fun _ _ => rfl)) (fun env h => by cases env; cases h; rfl))
 (SimSs.cons (SimS.asgN (i := 81) inj1 rfl (by kernel_rfl) (Sim.call (Sim.b F.tp (by kernel_rfl) F.n_len F.b_len) (SimR.of (SimA.cons (Sim.v rfl (by kernel_rfl)) SimA.nil (fun _ => rfl)) (fun _ => rfl)) (OkC.len F.hz) (KeepF.builtin _)) (fun env h => by cases env; cases h; rfl))
 (SimSs.cons (SimS.asgN (i := 82) inj1 rfl (by kernel_rfl) (Sim.comp F.hz (by decide) (fr := [80]) (.inl rfl) (CompFacts.of (nm := nm1) rfl (by kernel_rfl)) (Sim.v rfl (by kernel_rfl)) (SimG.v inj1 rfl (by kernel_rfl)) (Tgt.var 1) SimF.nil (SimI.elt rfl (Sim.comp F.hz (by decide) (fr := [1]) (.inl rfl) (CompFacts.of (nm := nm1) rfl (by kernel_rfl)) (Sim.v rfl (by kernel_rfl)) (SimG.v inj1 rfl (by kernel_rfl)) (Tgt.var 58) SimF.nil (SimI.elt rfl (Sim.meth (Meth.list PySem.F.slot_list_index PySem.F.type_list_index) (Sim.v rfl (by kernel_rfl)) (SimR.of (SimA.cons (Sim.v rfl (by kernel_rfl)) SimA.nil (fun _ => rfl)) (fun _ => rfl)) OkC.index (KeepF.builtin _) (fun _ => rfl) (fun _ => rfl) (by decide +kernel) rfl)) (by decide +kernel) (fun _ _ => rfl))) (by decide +kernel) (fun _ _ => rfl)) (fun env h => by cases env; cases h; rfl))
 (SimSs.cons (SimS.asgComp inj1 F.hz (by decide) (i := 84) (fr := [78, 82]) (.inl rfl) rfl (by kernel_rfl) (CompFacts.of (nm := nm1) rfl (by kernel_rfl)) (Sim.call (Sim.b F.tp (by kernel_rfl) F.n_range F.b_range) (SimR.of (SimA.cons (Sim.v rfl (by kernel_rfl)) SimA.nil (fun _ => rfl)) (fun _ => rfl)) OkC.range1 (KeepF.type _)) (SimG.v inj1 rfl (by kernel_rfl)) (Tgt.var 83) SimF.nil (SimI.elt rfl (Sim.call (Sim.g F.tp (by kernel_rfl) F.g_Whitespace) (SimR.of (SimA.cons (Sim.call (Sim.g F.tp (by kernel_rfl) F.g__law_text) (SimR.of (SimA.cons (Sim.item (Sim.v rfl (by kernel_rfl)) (Sim.v rfl (by kernel_rfl)) (fun _ _ => ⟨_, rfl⟩)) (SimA.cons (Sim.item (Sim.v rfl (by kernel_rfl)) (Sim.v rfl (by kernel_rfl)) (fun _ _ => ⟨_, rfl⟩)) SimA.nil (fun _ => rfl)) (fun _ => rfl)) (fun _ => rfl)) ((h_law_text).up (by decide)).c (KeepF.inK F.tp.kin F.kp_law_text)) SimA.nil (fun _ => rfl)) (fun _ => rfl)) ((OkK.makeF F.tp F.mk_Whitespace (h_Whitespace_init)).up (by decide)).c (KeepF.inK F.tp.kin F.kp_Whitespace))) (by decide +kernel) (fun _ _ => rfl) (fun env h => by cases env; cases h; rfl))
 (SimSs.cons (SimS.for F.hz (by decide) (Sim.call (Sim.b F.tp (by kernel_rfl) F.n_range F.b_range) (SimR.of (SimA.cons (Sim.v rfl (by kernel_rfl)) SimA.nil (fun _ => rfl)) (fun _ => rfl)) OkC.range1 (KeepF.type _)) (SimG.v inj1 rfl (by kernel_rfl))
 (SimSs.cons (SimS.for F.hz (by decide) (Sim.bin ok_add (Sim.call (Sim.b F.tp (by kernel_rfl) F.n_list F.b_list) (SimR.of (SimA.cons (Sim.call (Sim.b F.tp (by kernel_rfl) F.n_range F.b_range) (SimR.of (SimA.cons Sim.cInt (SimA.cons (Sim.bin ok_mulA Sim.cInt (Sim.v rfl (by kernel_rfl))) SimA.nil (fun _ => rfl)) (fun _ => rfl)) (fun _ => rfl)) OkC.range2 (KeepF.type _)) SimA.nil (fun _ => rfl)) (fun _ => rfl)) (OkC.listR (by decide)) (KeepF.type _)) (Sim.lst (SimA.cons (Sim.bin ok_add (Sim.bin ok_sub (Sim.bin ok_mulA Sim.cInt (Sim.v rfl (by kernel_rfl))) Sim.cInt) (Sim.call (Sim.b F.tp (by kernel_rfl) F.n_abs F.b_abs) (SimR.of (SimA.cons (Sim.call (Sim.b F.tp (by kernel_rfl) F.n_sum F.b_sum) (SimR.of (SimA.cons (Sim.v rfl (by kernel_rfl)) SimA.nil (fun _ => rfl)) (fun _ => rfl)) (OkC.sum (by decide)) (KeepF.builtin _)) SimA.nil (fun _ => rfl)) (fun _ => rfl)) OkC.abs (KeepF.builtin _))) SimA.nil (fun _ => rfl)))) (SimG.v inj1 rfl (by kernel_rfl))
 (SimSs.cons (SimS.iff (SimT.cmp ok_ne (Sim.meth (Meth.own inj1 F.tp (j := 42) rfl F.mt_Whitespace_indent_level) (Sim.item (Sim.v rfl (by kernel_rfl)) (Sim.v rfl (by kernel_rfl)) (fun _ _ => ⟨_, rfl⟩)) (SimR.of (SimA.cons (Sim.v rfl (by kernel_rfl)) SimA.nil (fun _ => rfl)) (fun _ => rfl)) ((h_Whitespace_indent_level).up (by decide)).c (KeepF.inK F.tp.kin F.kp_Whitespace_indent_level) (fun _ => rfl) (fun _ => rfl) (by decide +kernel) rfl) (Sim.call (Sim.g F.tp (by kernel_rfl) F.g__law_column) (SimR.of (SimA.cons (Sim.item (Sim.v rfl (by kernel_rfl)) (Sim.v rfl (by kernel_rfl)) (fun _ _ => ⟨_, rfl⟩)) (SimA.cons (Sim.v rfl (by kernel_rfl)) SimA.nil (fun _ => rfl)) (fun _ => rfl)) (fun _ => rfl)) ((h_law_column).up (by decide)).c (KeepF.inK F.tp.kin F.kp_law_column)) rfl)
 (SimSs.cons (SimS.ret Sim.cBool)
 SimSs.nil)
 SimSs.nil)
 SimSs.nil) (fun _ _ => rfl) (gVar_hp 71))
 (SimSs.cons (SimS.asgN (i := 85) inj1 rfl (by kernel_rfl) (Sim.call (Sim.g F.tp (by kernel_rfl) F.g__law_met) (SimR.of (SimA.cons (Sim.v rfl (by kernel_rfl)) (SimA.cons (Sim.item (Sim.v rfl (by kernel_rfl)) (Sim.v rfl (by kernel_rfl)) (fun _ _ => ⟨_, rfl⟩)) SimA.nil (fun _ => rfl)) (fun _ => rfl)) (fun _ => rfl)) ((h_law_met).up (by decide)).c (KeepF.inK F.tp.kin F.kp_law_met)) (fun env h => by cases env; cases h; rfl))
 (SimSs.cons (SimS.for F.hz (by decide) (Sim.call (Sim.b F.tp (by kernel_rfl) F.n_range F.b_range) (SimR.of (SimA.cons (Sim.v rfl (by kernel_rfl)) SimA.nil (fun _ => rfl)) (fun _ => rfl)) OkC.range1 (KeepF.type _)) (SimG.v inj1 rfl (by kernel_rfl))
 (SimSs.cons (SimS.iff (SimT.cmp ok_isNot (Sim.meth (Meth.own inj1 F.tp (j := 87) rfl F.mt_Whitespace_less) (Sim.item (Sim.v rfl (by kernel_rfl)) (Sim.v rfl (by kernel_rfl)) (fun _ _ => ⟨_, rfl⟩)) (SimR.of (SimA.cons (Sim.item (Sim.v rfl (by kernel_rfl)) (Sim.v rfl (by kernel_rfl)) (fun _ _ => ⟨_, rfl⟩)) SimA.nil (fun _ => rfl)) (fun _ => rfl)) ((h_Whitespace_less).up (by decide)).c (KeepF.inK F.tp.kin F.kp_Whitespace_less) (fun _ => rfl) (fun _ => rfl) (by decide +kernel) rfl) (Sim.cmp (ok_in F.hz) (Sim.item (Sim.v rfl (by kernel_rfl)) (Sim.v rfl (by kernel_rfl)) (fun _ _ => ⟨_, rfl⟩)) (Sim.v rfl (by kernel_rfl)) rfl) rfl)
 (SimSs.cons (SimS.ret Sim.cBool)
 SimSs.nil)
 SimSs.nil)
 SimSs.nil) (fun _ _ => rfl) (gVar_hp 86))
 SimSs.nil))) (fun _ _ => rfl) (gVar_hp 83))
 (SimSs.cons (SimS.ret Sim.cBool)
 SimSs.nil))))))))))))
end Mine
namespace Mine.Hd
open PySem PySem.W PySem.W.X PySem.Calls PyProof.Rows
noncomputable def mth (i j : Nat) : Stmt := nthS (bodyS (nthS mainS i)) j
noncomputable def s (x : Str) (t : Tok) : Value := .str x t
noncomputable def e (P : Params) (x : Str) (t : Tok) (v : Value) : DictEntry := ⟨PyData.keyHash P x, .str x t, v⟩
noncomputable def tu (l : List Value) : Obj := { cls := .type "tuple", data := .seq ⟨l⟩ }
noncomputable def fi (l : List Value) : Obj := { cls := .none, data := .fields ⟨l⟩ }
noncomputable def co (a b c : Str) (n : Nat) (l x f y : Int) (z : Int) (bb : Value) : List Value → Obj
  | [r1, r2, v1, v2, v3, v4] => { cls := .type "code", data := .fields #[.str a n, .str b (n+1), .str c (n+2), .int l 0, .int x 0, .int 0 0, .int 0 0, .int f 0, r1, bb, .int y 0, r2, v1, v2, v3, v4, .int z 0, .int l 0, .str c (z.toNat+1)] }
  | _ => default
noncomputable def fo (st : Stmt) (n q : Str) (g : Addr) (d pm cd : Value) : FuncData := ⟨n, q, argsS st, .stmts (bodyS st), scopeS st, g, [], d, .none, .none, pm, none, cd, .none, 0⟩
noncomputable def i12 (P : Params) : Obj := fi []
noncomputable def O (P : Params) : List Obj := [
boot_o_0 P,
boot_o_1 P,
boot_o_2 P,
⟨(.type "dict"),none,(.dict #[e P "__name__" 165 (s "law_mr0354_01" 478),e P "__doc__" 166 .none,e P "__package__" 167 .none,e P "__loader__" 168 (.builtin "__main__.__loader__#opaque"),e P "__spec__" 169 .none,e P "__annotations__" 170 (.ref 6),e P "__builtins__" 171 (.ref 4),e P "__file__" 173 (s "/claim/cut.py" 172),e P "__cached__" 174 .none,e P "_wall" 193 (.ref 21),e P "_NODE_OUT" 198 (.int (-1) 197),e P "_NODE_DONE" 201 (.int (-2) 200),e P "_NodeInfo" 238 (.ref 40),e P "CycleError" 256 (.ref 55),e P "TopologicalSorter" 375 (.ref 137),e P "Whitespace" 477 (.ref 203),e P "_law_steps" 491 (.ref 214),e P "_law_run" 497 (.ref 219),e P "_law_text" 509 (.ref 226),e P "_law_column" 520 (.ref 233),e P "_law_met" 526 (.ref 238),e P "law" 532 (.ref 243)] 22),#[]⟩,
boot_o_4 P,
boot_o_5 P,
boot_o_6 P,
boot_o_7 P,
boot_o_8 P,
boot_o_9 P,
boot_o_10 P,
tu [],
fi [(.int 1 0),(.int 0 0),(.ref 20),(.int 7 0),(.int 0 0),(.ref 27),(.int 14 0),(.int 0 0),(.ref 51),(.int 16 0),(.int 0 0),(.ref 64),(.int 123 0),(.int 0 0),(.ref 147),(.int 180 0),(.int 0 0),(.ref 213),(.int 189 0),(.int 0 0),(.ref 218),(.int 215 0),(.int 0 0),(.ref 225),(.int 224 0),(.int 0 0),(.ref 232),(.int 232 0),(.int 0 0),(.ref 237),(.int 237 0),(.int 0 0),(.ref 242)],
co "<module>" "<module>" "/claim/cut.py" 182 1 0 0 181 185 (.bool false) [(.ref 11),(.ref 12),.none,.none,.none,.none],
⟨(.type "frame"),none,.plain,#[(some (.ref 13)),(some (.ref 3)),(some (.ref 3)),none,(some (s "__main__" 164)),none,(some (.ref 0))]⟩,
tu [],
fi [],
tu [(s "k" 190)],
tu [],
⟨.none,none,(.func (fo (nthS mainS 0) "_wall" "_wall" 0 .none .none .none)),#[]⟩,
co "_wall" "_wall" "/claim/cut.py" 187 1 1 3 181 191 (.bool true) [(.ref 15),(.ref 16),.none,(.ref 17),(.ref 18),(.ref 19)],
⟨(.type "function"),none,(.func (fo (nthS mainS 0) "_wall" "_wall" 3 .none (s "__main__" 164) (.ref 20))),#[]⟩,
tu [],
⟨(.type "builtin_function_or_method"),none,(.fields #[(.builtin "type.__prepare__"),(.type "type")]),#[]⟩,
⟨(.type "dict"),none,(.dict #[e P "__module__" 209 (s "cpy313.graphlib" 194),e P "__qualname__" 211 (s "_NodeInfo" 210),e P "__firstlineno__" 213 (.int 7 212),e P "__slots__" 217 (.ref 29),e P "__init__" 225 (.ref 36),e P "__static_attributes__" 229 (.ref 37)] 6),#[]⟩,
tu [],
fi [(.int 10 0),(.int 4 0),(.ref 35)],
co "_NodeInfo" "_NodeInfo" "/claim/cut.py" 204 7 0 0 181 207 (.bool false) [(.ref 25),(.ref 26),.none,.none,.none,.none],
⟨(.type "frame"),none,.plain,#[(some (.ref 27)),(some (.ref 3)),(some (.ref 24)),none,(some (s "cpy313.graphlib" 194)),none,(some (.ref 0))]⟩,
tu [(s "node" 214),(s "npredecessors" 215),(s "successors" 216)],
tu [],
fi [],
tu [(s "self" 221),(s "node" 222)],
tu [],
⟨.none,none,(.func (fo (mth 4 1) "__init__" "_NodeInfo.__init__" 0 .none .none .none)),#[]⟩,
co "__init__" "_NodeInfo.__init__" "/claim/cut.py" 218 10 2 3 181 223 (.bool true) [(.ref 30),(.ref 31),.none,(.ref 32),(.ref 33),(.ref 34)],
⟨(.type "function"),none,(.func (fo (mth 4 1) "__init__" "_NodeInfo.__init__" 3 .none (s "cpy313.graphlib" 194) (.ref 35))),#[]⟩,
tu [(s "node" 226),(s "npredecessors" 227),(s "successors" 228)],
⟨(.type "list"),none,(.seq #[(s "node" 214),(s "npredecessors" 215),(s "successors" 216)] 1),#[]⟩,
⟨(.type "dict"),none,(.dict #[e P "__module__" 209 (s "cpy313.graphlib" 194),e P "__firstlineno__" 213 (.int 7 212),e P "__slots__" 217 (.ref 29),e P "__init__" 225 (.ref 36),e P "__static_attributes__" 229 (.ref 37),e P "node" 231 (.ref 41),e P "npredecessors" 233 (.ref 42),e P "successors" 235 (.ref 43),e P "__doc__" 236 .none] 5),#[]⟩,
⟨(.type "type"),none,(.cls ⟨"_NodeInfo",[(.type "object")],[(.ref 40),(.type "object")],39,"_NodeInfo",false,["node","npredecessors","successors"],[],false,none,false⟩),#[none,none,(some (s "_NodeInfo" 202)),(some (s "_NodeInfo" 210)),(some (.builtin "object.__new__")),(some (.bool false))]⟩,
⟨(.type "member_descriptor"),none,(.fields #[(s "node" 230),(.ref 40),(.builtin "proto.slot"),(.builtin "proto.slot#set"),(.int 2 0)]),#[]⟩,
⟨(.type "member_descriptor"),none,(.fields #[(s "npredecessors" 232),(.ref 40),(.builtin "proto.slot"),(.builtin "proto.slot#set"),(.int 1 0)]),#[]⟩,
⟨(.type "member_descriptor"),none,(.fields #[(s "successors" 234),(.ref 40),(.builtin "proto.slot"),(.builtin "proto.slot#set"),(.int 0 0)]),#[]⟩,
⟨(.type "super"),none,(.fields #[(.ref 40),(.ref 40),(.ref 40)]),#[]⟩,
⟨(.type "builtin_function_or_method"),none,(.fields #[(.builtin "object.__init_subclass__"),(.ref 40)]),#[]⟩,
tu [(.type "ValueError")],
⟨(.type "builtin_function_or_method"),none,(.fields #[(.builtin "type.__prepare__"),(.type "type")]),#[]⟩,
⟨(.type "dict"),none,(.dict #[e P "__module__" 246 (s "cpy313.graphlib" 194),e P "__qualname__" 248 (s "CycleError" 247),e P "__firstlineno__" 250 (.int 14 249),e P "__static_attributes__" 251 (.ref 53)] 4),#[]⟩,
tu [],
fi [],
co "CycleError" "CycleError" "/claim/cut.py" 241 14 0 0 181 244 (.bool false) [(.ref 49),(.ref 50),.none,.none,.none,.none],
⟨(.type "frame"),none,.plain,#[(some (.ref 51)),(some (.ref 3)),(some (.ref 48)),none,(some (s "cpy313.graphlib" 194)),none,(some (.ref 0))]⟩,
tu [],
⟨(.type "dict"),none,(.dict #[e P "__module__" 246 (s "cpy313.graphlib" 194),e P "__firstlineno__" 250 (.int 14 249),e P "__static_attributes__" 251 (.ref 53),e P "__weakref__" 253 (.ref 56),e P "__doc__" 254 .none] 3),#[]⟩,
⟨(.type "type"),none,(.cls ⟨"CycleError",[(.type "ValueError")],[(.ref 55),(.type "ValueError"),(.type "Exception"),(.type "BaseException"),(.type "object")],54,"CycleError",true,[],[],false,none,false⟩),#[(some (.ref 46)),none,(some (s "CycleError" 239)),(some (s "CycleError" 247)),(some (.builtin "ValueError.__new__")),(some (.bool true))]⟩,
⟨(.type "getset_descriptor"),none,(.fields #[(s "__weakref__" 252),(.ref 55),(.builtin "ExceptionGroup.__weakref__"),.none]),#[]⟩,
⟨(.type "super"),none,(.fields #[(.ref 55),(.ref 55),(.ref 55)]),#[]⟩,
⟨(.type "builtin_function_or_method"),none,(.fields #[(.builtin "object.__init_subclass__"),(.ref 55)]),#[]⟩,
tu [],
⟨(.type "builtin_function_or_method"),none,(.fields #[(.builtin "type.__prepare__"),(.type "type")]),#[]⟩,
⟨(.type "dict"),none,(.dict #[e P "__module__" 264 (s "cpy313.graphlib" 194),e P "__qualname__" 266 (s "TopologicalSorter" 265),e P "__firstlineno__" 268 (.int 16 267),e P "__init__" 278 (.ref 73),e P "_get_nodeinfo" 287 (.ref 80),e P "add" 299 (.ref 87),e P "prepare" 305 (.ref 92),e P "get_ready" 315 (.ref 99),e P "is_active" 322 (.ref 106),e P "__bool__" 329 (.ref 113),e P "done" 343 (.ref 120),e P "_find_cycle" 356 (.ref 127),e P "static_order" 363 (.ref 134),e P "__static_attributes__" 368 (.ref 135)] 14),#[]⟩,
tu [],
fi [(.int 18 0),(.int 4 0),(.ref 72),(.int 27 0),(.int 4 0),(.ref 79),(.int 32 0),(.int 4 0),(.ref 86),(.int 41 0),(.int 4 0),(.ref 91),(.int 49 0),(.int 4 0),(.ref 98),(.int 60 0),(.int 4 0),(.ref 105),(.int 65 0),(.int 4 0),(.ref 112),(.int 68 0),(.int 4 0),(.ref 119),(.int 91 0),(.int 4 0),(.ref 126),(.int 120 0),(.int 4 0),(.ref 133)],
co "TopologicalSorter" "TopologicalSorter" "/claim/cut.py" 259 16 0 0 181 262 (.bool false) [(.ref 62),(.ref 63),.none,.none,.none,.none],
⟨(.type "frame"),none,.plain,#[(some (.ref 64)),(some (.ref 3)),(some (.ref 61)),none,(some (s "cpy313.graphlib" 194)),none,(some (.ref 0))]⟩,
tu [.none],
tu [],
fi [],
tu [(s "self" 272),(s "graph" 273),(s "node" 274),(s "predecessors" 275)],
tu [],
⟨.none,none,(.func (fo (mth 6 0) "__init__" "TopologicalSorter.__init__" 0 .none .none .none)),#[]⟩,
co "__init__" "TopologicalSorter.__init__" "/claim/cut.py" 269 18 2 3 181 276 (.bool true) [(.ref 67),(.ref 68),.none,(.ref 69),(.ref 70),(.ref 71)],
⟨(.type "function"),none,(.func (fo (mth 6 0) "__init__" "TopologicalSorter.__init__" 3 (.ref 66) (s "cpy313.graphlib" 194) (.ref 72))),#[]⟩,
tu [],
fi [],
tu [(s "self" 282),(s "node" 283),(s "result" 284)],
tu [],
⟨.none,none,(.func (fo (mth 6 1) "_get_nodeinfo" "TopologicalSorter._get_nodeinfo" 0 .none .none .none)),#[]⟩,
co "_get_nodeinfo" "TopologicalSorter._get_nodeinfo" "/claim/cut.py" 279 27 2 3 181 285 (.bool true) [(.ref 74),(.ref 75),.none,(.ref 76),(.ref 77),(.ref 78)],
⟨(.type "function"),none,(.func (fo (mth 6 1) "_get_nodeinfo" "TopologicalSorter._get_nodeinfo" 3 .none (s "cpy313.graphlib" 194) (.ref 79))),#[]⟩,
tu [],
fi [],
tu [(s "self" 291),(s "node" 292),(s "predecessors" 293),(s "nodeinfo" 294),(s "pred" 295),(s "pred_info" 296)],
tu [],
⟨.none,none,(.func (fo (mth 6 2) "add" "TopologicalSorter.add" 0 .none .none .none)),#[]⟩,
co "add" "TopologicalSorter.add" "/claim/cut.py" 288 32 2 7 181 297 (.bool true) [(.ref 81),(.ref 82),.none,(.ref 83),(.ref 84),(.ref 85)],
⟨(.type "function"),none,(.func (fo (mth 6 2) "add" "TopologicalSorter.add" 3 .none (s "cpy313.graphlib" 194) (.ref 86))),#[]⟩,
tu [],
fi [],
⟨.none,none,(.func (fo (mth 6 3) "prepare" "TopologicalSorter.prepare" 0 .none .none .none)),#[]⟩,
co "prepare" "TopologicalSorter.prepare" "/claim/cut.py" 300 41 1 3 181 303 (.bool true) [(.ref 88),(.ref 89),.none,.none,.none,(.ref 90)],
⟨(.type "function"),none,(.func (fo (mth 6 3) "prepare" "TopologicalSorter.prepare" 3 .none (s "cpy313.graphlib" 194) (.ref 91))),#[]⟩,
tu [],
fi [],
tu [(s "self" 309),(s "result" 310),(s "n2i" 311),(s "node" 312)],
tu [],
⟨.none,none,(.func (fo (mth 6 4) "get_ready" "TopologicalSorter.get_ready" 0 .none .none .none)),#[]⟩,
co "get_ready" "TopologicalSorter.get_ready" "/claim/cut.py" 306 49 1 3 181 313 (.bool true) [(.ref 93),(.ref 94),.none,(.ref 95),(.ref 96),(.ref 97)],
⟨(.type "function"),none,(.func (fo (mth 6 4) "get_ready" "TopologicalSorter.get_ready" 3 .none (s "cpy313.graphlib" 194) (.ref 98))),#[]⟩,
tu [],
fi [],
tu [(s "self" 319)],
tu [],
⟨.none,none,(.func (fo (mth 6 5) "is_active" "TopologicalSorter.is_active" 0 .none .none .none)),#[]⟩,
co "is_active" "TopologicalSorter.is_active" "/claim/cut.py" 316 60 1 3 181 320 (.bool true) [(.ref 100),(.ref 101),.none,(.ref 102),(.ref 103),(.ref 104)],
⟨(.type "function"),none,(.func (fo (mth 6 5) "is_active" "TopologicalSorter.is_active" 3 .none (s "cpy313.graphlib" 194) (.ref 105))),#[]⟩,
tu [],
fi [],
tu [(s "self" 326)],
tu [],
⟨.none,none,(.func (fo (mth 6 6) "__bool__" "TopologicalSorter.__bool__" 0 .none .none .none)),#[]⟩,
co "__bool__" "TopologicalSorter.__bool__" "/claim/cut.py" 323 65 1 3 181 327 (.bool true) [(.ref 107),(.ref 108),.none,(.ref 109),(.ref 110),(.ref 111)],
⟨(.type "function"),none,(.func (fo (mth 6 6) "__bool__" "TopologicalSorter.__bool__" 3 .none (s "cpy313.graphlib" 194) (.ref 112))),#[]⟩,
tu [],
fi [],
tu [(s "self" 333),(s "nodes" 334),(s "n2i" 335),(s "node" 336),(s "nodeinfo" 337),(s "stat" 338),(s "successor" 339),(s "successor_info" 340)],
tu [],
⟨.none,none,(.func (fo (mth 6 7) "done" "TopologicalSorter.done" 0 .none .none .none)),#[]⟩,
co "done" "TopologicalSorter.done" "/claim/cut.py" 330 68 1 7 181 341 (.bool true) [(.ref 114),(.ref 115),.none,(.ref 116),(.ref 117),(.ref 118)],
⟨(.type "function"),none,(.func (fo (mth 6 7) "done" "TopologicalSorter.done" 3 .none (s "cpy313.graphlib" 194) (.ref 119))),#[]⟩,
tu [],
fi [],
tu [(s "self" 347),(s "n2i" 348),(s "stack" 349),(s "itstack" 350),(s "seen" 351),(s "node2stacki" 352),(s "node" 353)],
tu [],
⟨.none,none,(.func (fo (mth 6 8) "_find_cycle" "TopologicalSorter._find_cycle" 0 .none .none .none)),#[]⟩,
co "_find_cycle" "TopologicalSorter._find_cycle" "/claim/cut.py" 344 91 1 3 181 354 (.bool true) [(.ref 121),(.ref 122),.none,(.ref 123),(.ref 124),(.ref 125)],
⟨(.type "function"),none,(.func (fo (mth 6 8) "_find_cycle" "TopologicalSorter._find_cycle" 3 .none (s "cpy313.graphlib" 194) (.ref 126))),#[]⟩,
tu [],
fi [],
tu [(s "self" 360)],
tu [],
⟨.none,none,(.func (fo (mth 6 9) "static_order" "TopologicalSorter.static_order" 0 .none .none .none)),#[]⟩,
co "static_order" "TopologicalSorter.static_order" "/claim/cut.py" 357 120 1 3 181 361 (.bool true) [(.ref 128),(.ref 129),.none,(.ref 130),(.ref 131),(.ref 132)],
⟨(.type "function"),none,(.func (fo (mth 6 9) "static_order" "TopologicalSorter.static_order" 3 .none (s "cpy313.graphlib" 194) (.ref 133))),#[]⟩,
tu [(s "_nfinished" 364),(s "_node2info" 365),(s "_npassedout" 366),(s "_ready_nodes" 367)],
⟨(.type "dict"),none,(.dict #[e P "__module__" 264 (s "cpy313.graphlib" 194),e P "__firstlineno__" 268 (.int 16 267),e P "__init__" 278 (.ref 73),e P "_get_nodeinfo" 287 (.ref 80),e P "add" 299 (.ref 87),e P "prepare" 305 (.ref 92),e P "get_ready" 315 (.ref 99),e P "is_active" 322 (.ref 106),e P "__bool__" 329 (.ref 113),e P "done" 343 (.ref 120),e P "_find_cycle" 356 (.ref 127),e P "static_order" 363 (.ref 134),e P "__static_attributes__" 368 (.ref 135),e P "__dict__" 370 (.ref 138),e P "__weakref__" 372 (.ref 139),e P "__doc__" 373 .none] 4),#[]⟩,
⟨(.type "type"),none,(.cls ⟨"TopologicalSorter",[(.type "object")],[(.ref 137),(.type "object")],136,"TopologicalSorter",true,[],[],false,none,false⟩),#[none,none,(some (s "TopologicalSorter" 257)),(some (s "TopologicalSorter" 265)),(some (.builtin "object.__new__")),(some (.bool true))]⟩,
⟨(.type "getset_descriptor"),none,(.fields #[(s "__dict__" 369),(.ref 137),(.builtin "function.__dict__"),(.builtin "function.__dict__#set")]),#[]⟩,
⟨(.type "getset_descriptor"),none,(.fields #[(s "__weakref__" 371),(.ref 137),(.builtin "ExceptionGroup.__weakref__"),.none]),#[]⟩,
⟨(.type "super"),none,(.fields #[(.ref 137),(.ref 137),(.ref 137)]),#[]⟩,
⟨(.type "builtin_function_or_method"),none,(.fields #[(.builtin "object.__init_subclass__"),(.ref 137)]),#[]⟩,
tu [],
⟨(.type "builtin_function_or_method"),none,(.fields #[(.builtin "type.__prepare__"),(.type "type")]),#[]⟩,
⟨(.type "dict"),none,(.dict #[e P "__module__" 385 (s "cpy313.tabnanny" 376),e P "__qualname__" 387 (s "Whitespace" 386),e P "__firstlineno__" 389 (.int 123 388),e P "S" 393 (s " " 391),e P "T" 394 (s "\u0009" 392),e P "__init__" 409 (.ref 158),e P "longest_run_of_spaces" 418 (.ref 165),e P "indent_level" 430 (.ref 172),e P "equal" 438 (.ref 179),e P "not_equal_witness" 446 (.ref 186),e P "less" 456 (.ref 193),e P "not_less_witness" 464 (.ref 200),e P "__static_attributes__" 470 (.ref 201)] 13),#[]⟩,
tu [],
fi [(.int 126 0),(.int 4 0),(.ref 157),(.int 149 0),(.int 4 0),(.ref 164),(.int 153 0),(.int 4 0),(.ref 171),(.int 160 0),(.int 4 0),(.ref 178),(.int 163 0),(.int 4 0),(.ref 185),(.int 166 0),(.int 4 0),(.ref 192),(.int 177 0),(.int 4 0),(.ref 199)],
co "Whitespace" "Whitespace" "/claim/cut.py" 380 123 0 0 181 383 (.bool false) [(.ref 145),(.ref 146),.none,.none,.none,.none],
⟨(.type "frame"),none,.plain,#[(some (.ref 147)),(some (.ref 3)),(some (.ref 144)),none,(some (s "cpy313.tabnanny" 376)),none,(some (.ref 0))]⟩,
⟨(.type "str_ascii_iterator"),none,(.fields #[.none,(.int 2 0)]),#[]⟩,
tu [],
⟨(.type "StopIteration"),none,(.fields #[(.ref 150),.none,.none,.none,(.bool false),.none]),#[]⟩,
tu [],
fi [],
tu [(s "self" 398),(s "ws" 399),(s "S" 400),(s "T" 401),(s "count" 402),(s "b" 403),(s "n" 404),(s "nt" 405),(s "ch" 406)],
tu [],
⟨.none,none,(.func (fo (mth 8 1) "__init__" "Whitespace.__init__" 0 .none .none .none)),#[]⟩,
co "__init__" "Whitespace.__init__" "/claim/cut.py" 395 126 2 3 181 407 (.bool true) [(.ref 152),(.ref 153),.none,(.ref 154),(.ref 155),(.ref 156)],
⟨(.type "function"),none,(.func (fo (mth 8 1) "__init__" "Whitespace.__init__" 3 .none (s "cpy313.tabnanny" 376) (.ref 157))),#[]⟩,
tu [],
fi [],
tu [(s "self" 413),(s "count" 414),(s "trailing" 415)],
tu [],
⟨.none,none,(.func (fo (mth 8 2) "longest_run_of_spaces" "Whitespace.longest_run_of_spaces" 0 .none .none .none)),#[]⟩,
co "longest_run_of_spaces" "Whitespace.longest_run_of_spaces" "/claim/cut.py" 410 149 1 3 181 416 (.bool true) [(.ref 159),(.ref 160),.none,(.ref 161),(.ref 162),(.ref 163)],
⟨(.type "function"),none,(.func (fo (mth 8 2) "longest_run_of_spaces" "Whitespace.longest_run_of_spaces" 3 .none (s "cpy313.tabnanny" 376) (.ref 164))),#[]⟩,
tu [],
fi [],
tu [(s "self" 422),(s "tabsize" 423),(s "count" 424),(s "trailing" 425),(s "il" 426),(s "i" 427)],
tu [],
⟨.none,none,(.func (fo (mth 8 3) "indent_level" "Whitespace.indent_level" 0 .none .none .none)),#[]⟩,
co "indent_level" "Whitespace.indent_level" "/claim/cut.py" 419 153 2 3 181 428 (.bool true) [(.ref 166),(.ref 167),.none,(.ref 168),(.ref 169),(.ref 170)],
⟨(.type "function"),none,(.func (fo (mth 8 3) "indent_level" "Whitespace.indent_level" 3 .none (s "cpy313.tabnanny" 376) (.ref 171))),#[]⟩,
tu [],
fi [],
tu [(s "self" 434),(s "other" 435)],
tu [],
⟨.none,none,(.func (fo (mth 8 4) "equal" "Whitespace.equal" 0 .none .none .none)),#[]⟩,
co "equal" "Whitespace.equal" "/claim/cut.py" 431 160 2 3 181 436 (.bool true) [(.ref 173),(.ref 174),.none,(.ref 175),(.ref 176),(.ref 177)],
⟨(.type "function"),none,(.func (fo (mth 8 4) "equal" "Whitespace.equal" 3 .none (s "cpy313.tabnanny" 376) (.ref 178))),#[]⟩,
tu [],
fi [],
tu [(s "self" 442),(s "other" 443)],
tu [],
⟨.none,none,(.func (fo (mth 8 5) "not_equal_witness" "Whitespace.not_equal_witness" 0 .none .none .none)),#[]⟩,
co "not_equal_witness" "Whitespace.not_equal_witness" "/claim/cut.py" 439 163 2 3 181 444 (.bool true) [(.ref 180),(.ref 181),.none,(.ref 182),(.ref 183),(.ref 184)],
⟨(.type "function"),none,(.func (fo (mth 8 5) "not_equal_witness" "Whitespace.not_equal_witness" 3 .none (s "cpy313.tabnanny" 376) (.ref 185))),#[]⟩,
tu [],
fi [],
tu [(s "self" 450),(s "other" 451),(s "n" 452),(s "ts" 453)],
tu [],
⟨.none,none,(.func (fo (mth 8 6) "less" "Whitespace.less" 0 .none .none .none)),#[]⟩,
co "less" "Whitespace.less" "/claim/cut.py" 447 166 2 3 181 454 (.bool true) [(.ref 187),(.ref 188),.none,(.ref 189),(.ref 190),(.ref 191)],
⟨(.type "function"),none,(.func (fo (mth 8 6) "less" "Whitespace.less" 3 .none (s "cpy313.tabnanny" 376) (.ref 192))),#[]⟩,
tu [],
fi [],
tu [(s "self" 460),(s "other" 461)],
tu [],
⟨.none,none,(.func (fo (mth 8 7) "not_less_witness" "Whitespace.not_less_witness" 0 .none .none .none)),#[]⟩,
co "not_less_witness" "Whitespace.not_less_witness" "/claim/cut.py" 457 177 2 3 181 462 (.bool true) [(.ref 194),(.ref 195),.none,(.ref 196),(.ref 197),(.ref 198)],
⟨(.type "function"),none,(.func (fo (mth 8 7) "not_less_witness" "Whitespace.not_less_witness" 3 .none (s "cpy313.tabnanny" 376) (.ref 199))),#[]⟩,
tu [(s "is_simple" 465),(s "n" 466),(s "norm" 467),(s "nt" 468),(s "raw" 469)],
⟨(.type "dict"),none,(.dict #[e P "__module__" 385 (s "cpy313.tabnanny" 376),e P "__firstlineno__" 389 (.int 123 388),e P "S" 393 (s " " 391),e P "T" 394 (s "\u0009" 392),e P "__init__" 409 (.ref 158),e P "longest_run_of_spaces" 418 (.ref 165),e P "indent_level" 430 (.ref 172),e P "equal" 438 (.ref 179),e P "not_equal_witness" 446 (.ref 186),e P "less" 456 (.ref 193),e P "not_less_witness" 464 (.ref 200),e P "__static_attributes__" 470 (.ref 201),e P "__dict__" 472 (.ref 204),e P "__weakref__" 474 (.ref 205),e P "__doc__" 475 .none] 4),#[]⟩,
⟨(.type "type"),none,(.cls ⟨"Whitespace",[(.type "object")],[(.ref 203),(.type "object")],202,"Whitespace",true,[],[],false,none,false⟩),#[none,none,(some (s "Whitespace" 378)),(some (s "Whitespace" 386)),(some (.builtin "object.__new__")),(some (.bool true))]⟩,
⟨(.type "getset_descriptor"),none,(.fields #[(s "__dict__" 471),(.ref 203),(.builtin "function.__dict__"),(.builtin "function.__dict__#set")]),#[]⟩,
⟨(.type "getset_descriptor"),none,(.fields #[(s "__weakref__" 473),(.ref 203),(.builtin "ExceptionGroup.__weakref__"),.none]),#[]⟩,
⟨(.type "super"),none,(.fields #[(.ref 203),(.ref 203),(.ref 203)]),#[]⟩,
⟨(.type "builtin_function_or_method"),none,(.fields #[(.builtin "object.__init_subclass__"),(.ref 203)]),#[]⟩,
tu [],
fi [],
tu [(s "script" 483),(s "steps" 484),(s "number" 485),(s "low" 486),(s "high" 487),(s "back" 488)],
tu [],
⟨.none,none,(.func (fo (nthS mainS 10) "_law_steps" "_law_steps" 0 .none .none .none)),#[]⟩,
co "_law_steps" "_law_steps" "/claim/cut.py" 480 180 1 3 181 489 (.bool true) [(.ref 208),(.ref 209),.none,(.ref 210),(.ref 211),(.ref 212)],
⟨(.type "function"),none,(.func (fo (nthS mainS 10) "_law_steps" "_law_steps" 3 .none (s "law_mr0354_01" 478) (.ref 213))),#[]⟩,
tu [],
fi [],
⟨.none,none,(.func (fo (nthS mainS 11) "_law_run" "_law_run" 0 .none .none .none)),#[]⟩,
co "_law_run" "_law_run" "/claim/cut.py" 492 189 2 3 181 495 (.bool true) [(.ref 215),(.ref 216),.none,.none,.none,(.ref 217)],
⟨(.type "function"),none,(.func (fo (nthS mainS 11) "_law_run" "_law_run" 3 .none (s "law_mr0354_01" 478) (.ref 218))),#[]⟩,
tu [],
fi [],
tu [(s "node" 501),(s "spots" 502),(s "text" 503),(s "run" 504),(s "size" 505),(s "rows" 506)],
tu [],
⟨.none,none,(.func (fo (nthS mainS 12) "_law_text" "_law_text" 0 .none .none .none)),#[]⟩,
co "_law_text" "_law_text" "/claim/cut.py" 498 215 2 3 181 507 (.bool true) [(.ref 220),(.ref 221),.none,(.ref 222),(.ref 223),(.ref 224)],
⟨(.type "function"),none,(.func (fo (nthS mainS 12) "_law_text" "_law_text" 3 .none (s "law_mr0354_01" 478) (.ref 225))),#[]⟩,
tu [],
fi [],
tu [(s "spots" 513),(s "size" 514),(s "column" 515),(s "run" 516),(s "row" 517)],
tu [],
⟨.none,none,(.func (fo (nthS mainS 13) "_law_column" "_law_column" 0 .none .none .none)),#[]⟩,
co "_law_column" "_law_column" "/claim/cut.py" 510 224 2 3 181 518 (.bool true) [(.ref 227),(.ref 228),.none,(.ref 229),(.ref 230),(.ref 231)],
⟨(.type "function"),none,(.func (fo (nthS mainS 13) "_law_column" "_law_column" 3 .none (s "law_mr0354_01" 478) (.ref 232))),#[]⟩,
tu [],
fi [],
⟨.none,none,(.func (fo (nthS mainS 14) "_law_met" "_law_met" 0 .none .none .none)),#[]⟩,
co "_law_met" "_law_met" "/claim/cut.py" 521 232 2 3 181 524 (.bool true) [(.ref 234),(.ref 235),.none,.none,.none,(.ref 236)],
⟨(.type "function"),none,(.func (fo (nthS mainS 14) "_law_met" "_law_met" 3 .none (s "law_mr0354_01" 478) (.ref 237))),#[]⟩,
tu [],
fi [],
⟨.none,none,(.func (fo (nthS mainS 15) "law" "law" 0 .none .none .none)),#[]⟩,
co "law" "law" "/claim/cut.py" 527 237 1 3 181 530 (.bool true) [(.ref 239),(.ref 240),.none,.none,.none,(.ref 241)],
⟨(.type "function"),none,(.func (fo (nthS mainS 15) "law" "law" 3 .none (s "law_mr0354_01" 478) (.ref 242))),#[]⟩]
noncomputable def nth : List Obj → Nat → Option Obj
  | [], _ => none
  | o :: _, 0 => some o
  | _ :: l, n + 1 => nth l n
noncomputable def bt (l : List Obj) : Nat → Nat → Nat → BT
  | 0, _, _ => .nil
  | n + 1, a, b => match nth l b with
    | none => .nil
    | some o => .node o (bt l n (2 * a) (a + b)) (bt l n (2 * a) (2 * a + b))
noncomputable def ob (P : Params) (i : Nat) : Obj := match nth (O P) i with | some o => o | none => default
noncomputable def fdO (o : Obj) : FuncData := match o.data with | .func f => f | _ => default
noncomputable def T0 (P : Params) : BT := bt [boot_o_0 P,boot_o_1 P,boot_o_2 P,boot_o_3 P,boot_o_4 P,boot_o_5 P,boot_o_6 P,boot_o_7 P,boot_o_8 P,boot_o_9 P,boot_o_10 P,tu [],i12 P,ob P 13,ob P 14] 9 1 0
noncomputable def T1 (P : Params) : BT := bt (O P) 9 1 0
noncomputable def K (P : Params) : Frag := (List.range 244).zip (O P)
abbrev rw := PySem.Challenge.rw_mr0354_01
abbrev row : OpenRow := OpenLaw.row rw
abbrev pr : Program := (OpenRow.toRowW (OpenLaw.row rw)).1
noncomputable def env : Env := { scope := pr.main.scope, locals := mainNs, globals := mainNs, cells := [], code := .ref 13, frame := some 14 }
noncomputable def cd : Code := .body (behindTheImports pr) env
noncomputable def S0 (w : World) (os : OsState) : SharedT := { tree := T0 w.params, n := 15, life := {}, gens := #[], drawn := {}, toks := 187, os := os }
noncomputable def S1 (w : World) (os : OsState) : SharedT := { tree := T1 w.params, n := 244, life := {}, gens := #[], drawn := {}, toks := 533, os := os }
noncomputable def H1 (P : Params) : Heap := absHeap (T1 P) 244 {}
noncomputable abbrev p0 : Pos := ⟨0,0,0,0⟩
noncomputable abbrev p1 : Pos := ⟨237,0,259,15⟩
noncomputable abbrev ann : Option Value := some (.ref 6)
theorem said : OpenLaw.wellSaid rw = true := by
  rw [Fast.te9446332074065402090]; kernel_rfl
theorem pre : ∀ w : World, (fun os => topGo treeTable pr w 11 ann 12 ⟨boot_heap w.params, #[], boot_drawn, boot_toks, os⟩ (topStub pr)) = fun os => some ((S0 w os).abs, ⟨denote treeTable cd, cd, p0, [topFrame p0]⟩) := by
  intro w; rw [Fast.te15667345088766844465, Fast.te14364793385576792824, Fast.te11892475500146522536]; kernel_rfl
theorem block : ∀ w : World, (fun os => segRun treeTable pr w 11 ann 1 1 (S0 w os).abs (blockOf (behindTheImports pr) env cd p0 [topFrame p0])) = fun os => some (.next, (S0 w os).abs, cd, p0) := by
  intro w; rw [Fast.te14374325043358763698, Fast.te14364793385576792824]; kernel_rfl
noncomputable def Run (w : World) : Prop := (fun os => segRunT treeTable pr w 11 ann 1 2000 (S0 w os) (piecesOf (behindTheImports pr) env cd p0 [topFrame p0])) = fun os => some (.next, S1 w os, cd, p1)
theorem run_f (w : World) : Run (w.withFollow "special-get-raises" false) := by
  unfold Run; rw [Fast.te10110043849684766642, Fast.te14364793385576792824]; kernel_rfl
theorem run_t (w : World) : Run (w.withFollow "special-get-raises" true) := by
  unfold Run; rw [Fast.te10110043849684766642, Fast.te14364793385576792824]; kernel_rfl
theorem fin : ∀ w : World, (fun os => topRun treeTable pr w 11 ann 2 (S1 w os).abs ⟨doneF .next, cd, p1, [topFrame p0]⟩) = fun os => some ⟨H1 w.params, #[], {}, 533, os⟩ := by
  intro w; rw [Fast.te14082659384304107361, Fast.te14364793385576792824]; kernel_rfl
theorem run (w : World) (os : OsState) : topRun treeTable pr w 11 ann (Nat.add 12 (Nat.add 1 (Nat.add 2000 2))) ⟨boot_heap w.params, #[], boot_drawn, boot_toks, os⟩ (topStub pr) = some ⟨H1 w.params, #[], {}, 533, os⟩ :=
  go_top (congrFun (pre w) os) (piece_block (congrFun (block w) os) (by
    have h := piece_app (rest := []) (segRun_of (congrFun (byRow2 "special-get-raises" (P := Run) run_f run_t w) os)) (piece_nil (congrFun (fin w) os))
    rw [List.append_nil] at h
    exact h))
noncomputable def q : Program := view pr [0, 2, 3, 4, 5, 6, 8, 10, 11, 12, 13, 14, 15]
noncomputable def loose : List Str := [Str.ofString "_NodeInfo", Str.ofString "Whitespace"]
noncomputable abbrev Xt : Shared → Bool := fun s => xlAt q [] s && recOk (RowW.records row.toRowW) s
noncomputable abbrev Yf (s : Shared) : Heap × Nat := (s.heap, s.toks)
noncomputable abbrev Ya (w : World) : Heap × Nat := (H1 w.params, 533)
theorem size : ∀ w : World, ((boot_heap w.params).isNs mainGlobals && (#[] : Array GenState).size == 0, (boot_heap w.params).objs.size, (boot_heap w.params).nsMap mainGlobals "__annotations__") = (true, 11, ann) := by
  intro w; rw [Fast.te8920871248978507458]; kernel_rfl
theorem looks1 : ∀ w : World, (fun os => (staticsOk (importedModules pr.main.body) (boot_heap w.params) (H1 w.params) && namesBound pr (H1 w.params) && gensDone ⟨H1 w.params, #[], {}, 533, os⟩ && laidKept (boot_heap w.params) (H1 w.params))) = fun _ => true := by
  intro w; rw [Fast.te5923862056798008813]; kernel_rfl
theorem looks2 : ∀ w : World, (fun os => openSeen q loose (importedModules pr.main.body) Xt true ⟨H1 w.params, #[], {}, 533, os⟩) = fun _ => openGood q loose := by
  intro w; rw [Fast.te4187177175401517315, Fast.te5923862056798008813]; kernel_rfl
theorem left : LeftO pr q loose Xt Yf Ya 3588 :=
  LeftO.of_pieces (boot_open rfl (by decide) fun s => rfl) size run (by decide) fun w => funext fun os => Prod.ext (congrFun (looks1 w) os) (Prod.ext (congrFun (looks2 w) os) rfl)
theorem kin (P : Params) : ((K P).map (·.1)).map (H1 P).get? = (K P).map fun p => some p.2 := by kernel_rfl
theorem kx {w : World} {s₀ : Shared} (h : Yf s₀ = Ya w) : (K w.params).In s₀.heap := by
  have := congrArg Prod.fst h
  rw [show s₀.heap = H1 w.params from this]
  exact Frag.in_of rfl (kin _)
noncomputable def dl : DefRec := { name := "law", params := argsS (nthS mainS 15), body := bodyS (nthS mainS 15), scope := scopeS (nthS mainS 15), pos := posS (nthS mainS 15) }
theorem hdef : defOf q row.name = some (dl, []) := by kernel_rfl
theorem hthe : row.prog.theDef row.name = some (dl.params, dl.body, dl.scope) := by kernel_rfl
theorem hkw : kwWritten? dl.params.kwonlyargs dl.params.kw_defaults = some [] := by kernel_rfl
theorem hwit : row.toRowW.promised := by w_witness2
theorem holds (call : WalkX q loose (XL q []) Yf Ya row.toRowW dl [] fun f vs => PySem.call f vs) : rw.Holds :=
  holds_law said fun h => holds_openX left (fun s e => xl_of s (Bool.and_eq_true_iff.mp e).1) XL.keeps hdef hthe hkw (fun s e => recFacts_of (Bool.and_eq_true_iff.mp e).2) rfl h (by decide +kernel) ⟨rfl, rfl, rfl, rfl, rfl, by decide +kernel⟩ hwit call
end Mine.Hd
namespace Mine
variable {w : World} {H : Heap} {K : Frag} {ex : Nat → Value} {mg mb : Str → Option Value}
noncomputable def ex1 : Nat → Value | 0 => .type "StopIteration" | _ => .ref 55
theorem k_all (F : Top1 w H K mg mb) : OkK (P1 w H K) (flyK ex1) 7 (.ref 243) C_law := by
  have h_NodeInfo_init := k_NodeInfo_init (ex := ex1) F rfl rfl
  have h_TS__get_nodeinfo := k_TS__get_nodeinfo (ex := ex1) F rfl rfl h_NodeInfo_init
  have h_TS_add := k_TS_add (ex := ex1) F rfl rfl h_TS__get_nodeinfo
  have h_TS_init := k_TS_init (ex := ex1) F rfl rfl
  have h_TS__find_cycle := k_TS__find_cycle (ex := ex1) F rfl rfl
  have h_TS_prepare := k_TS_prepare (ex := ex1) F rfl rfl h_TS__find_cycle
  have h_TS_get_ready := k_TS_get_ready (ex := ex1) F rfl rfl
  have h_TS_is_active := k_TS_is_active (ex := ex1) F rfl rfl
  have h_TS_done := k_TS_done (ex := ex1) F rfl rfl
  have h_Whitespace_init := k_Whitespace_init (ex := ex1) F rfl rfl
  have h_Whitespace_longest_run_of_spaces := k_Whitespace_longest_run_of_spaces (ex := ex1) F rfl rfl
  have h_Whitespace_indent_level := k_Whitespace_indent_level (ex := ex1) F rfl rfl
  have h_Whitespace_less := k_Whitespace_less (ex := ex1) F rfl rfl h_Whitespace_indent_level h_Whitespace_longest_run_of_spaces
  have h_law_steps := k_law_steps (ex := ex1) F rfl rfl
  have h_law_run := k_law_run (ex := ex1) F rfl rfl h_TS_init h_TS_add h_TS_done h_TS_get_ready h_TS_is_active h_TS_prepare
  have h_law_text := k_law_text (ex := ex1) F rfl rfl
  have h_law_column := k_law_column (ex := ex1) F rfl rfl
  have h_law_met := k_law_met (ex := ex1) F rfl rfl
  have h_law := k_law (ex := ex1) F rfl rfl h_Whitespace_init h_Whitespace_indent_level h_Whitespace_less h_law_column h_law_met h_law_run h_law_steps h_law_text
  exact h_law
end Mine
namespace Mine
open PySem PySem.W PySem.W.X PySem.Calls PyProof.Rows PySem.W.ZRun
theorem lay_are {R : WRecords} {cl : Str → Option Addr} {P : Params} {ord : List DictEntry → List DictEntry} : ∀ (ns : List Int) (s : Shared) (r : List Value × Shared), layAllW R cl P ord (ofPys (ns.map PyData.int)) s = some r → IntsAre r.1 ns
  | [], s, r, e => by
    have : layAllW R cl P ord (ofPys (List.map PyData.int [])) s = some ([], s) := by simp [ofPys, layAllW]
    rw [this] at e
    cases e; exact .nil
  | n :: ns, s, r, e => by
    simp only [List.map_cons, ofPys, ofPy, layAllW, layW] at e
    cases q : layAllW R cl P ord (ofPys (List.map PyData.int ns)) { s with toks := s.toks + 1 } with
    | none => rw [q] at e; cases e
    | some r' =>
      rw [q] at e
      cases e
      exact .cons _ _ (lay_are ns { s with toks := s.toks + 1 } r' q)
theorem script_plain {R : WRecords} {w : World} {s₀ s₁ : Shared} {ns : List Int} {a : Addr} {as : List Addr} (L : Laid R w s₀ s₁ [ofPy (PyData.list (ns.map PyData.int))] [.ref a] as) : ∃ vs, s₁.heap.PlainList a vs ∧ IntsAre vs.toList ns := by
  obtain ⟨ord, _, e⟩ := L.laid
  simp only [ofPy, layAllW, layW] at e
  cases q : layAllW R (classAt s₀.heap) w.params ord (ofPys (List.map PyData.int ns)) s₀ with
  | none => rw [q] at e; cases e
  | some r =>
    rw [q] at e
    have hh := lay_are ns s₀ r q
    simp only [Option.some.injEq, Prod.mk.injEq, List.cons.injEq, Value.ref.injEq] at e
    obtain ⟨⟨ea, _⟩, es⟩ := e
    rw [← es, ← ea]
    refine ⟨r.1.toArray, ⟨_, Heap.get?_push_size _ rfl⟩, by simpa using hh⟩
theorem VRs_ints {P : Par} {F : Addr → Prop} {h : Heap} : ∀ {vs : List Value} {ns : List Int}, IntsAre vs ns → VRs P.nm F h (ns.map .int) vs
  | _, _, .nil => by simp [VRse]
  | _, _, .cons n t r => by simp only [List.map_cons, VRse]; exact ⟨_, _, rfl, vInt, VRs_ints r⟩
theorem glue {P : Par} {ex : Nat → Value} {d : Nat} {f : Value} {Dc : DC} (h : OkK P (flyK ex) d f Dc) (hd : d ≤ 100) {s₁ : Shared} (hH : P.H₀ = s₁.heap) (hg : s₁.gens = #[]) {a : Addr} {vs : Array Value} {ns : List Int} (hpl : s₁.heap.PlainList a vs) (hi : IntsAre vs.toList ns)
    (hlaw : Dc [.lst (ns.map .int)] (fun v _ => v = .bool true) noXA (fun _ => Option.none)) {c : ClaimW} {cl : Str → Option Addr} {mean : ExcName → Option Value} {args : List WData} (hr : ∀ cls, c.raises args cls = false) (hp : c.post args (.bool true) args = true) :
    wpAny P.M callerA (call f [.ref a]) (fun v s' => GoodWG c cl mean args s₁ (.ok (.ret v)) s') (fun e s' => GoodWG c cl mean args s₁ (.error e) s') s₁ := by
  have ok : HeapOk P no1 (fun _ => Option.none) s₁ := ⟨fun _ _ e => by (cases e), fun _ e => absurd rfl e, fun b o e => by rw [← hH]; exact e, fun _ e => absurd rfl e, fun _ e => e.elim, fun _ e => e.elim, hg⟩
  have rm : Room d callerA := ⟨by show 1 + 300 + d < 1000; lia, by show 4 + 8 * d + 128 < 9900; lia, fun _ => rfl⟩
  have fs : Fs callerA no1 s₁ := ⟨[], rfl, fun _ h => (nomatch h)⟩
  have r : P.VRs no1 (fun _ => Option.none) s₁.heap [.lst (ns.map .int)] [.ref a] := by
    simp only [VRse, VRe]
    exact ⟨_, _, rfl, ⟨a, vs, rfl, ⟨rfl, fun z => z⟩, hpl, VRs_ints hi⟩, rfl⟩
  refine wpAny_mono (h.c callerA s₁ _ _ _ no1 _ _ rm fs ok r hlaw) (fun v s' hq  => ?_) (by rintro e s' ⟨hp', _, _, k, hk, _⟩; exact hk.elim)
  obtain ⟨hp', e, ok', u, hu, hv⟩ := hq
  subst hu
  simp only [VRe] at hv
  subst hv
  exact ⟨.inl ⟨_, _, [], rfl, hr, ReadsW.bool true, hp, fun _ => ⟨List.nodup_nil, fun _ hm => (nomatch hm)⟩⟩, .of_keep fun b o g => ok'.base b o (by rw [hH]; exact g), e.os, by rw [ok'.gens]; exact AllBare.empty⟩
end Mine
namespace Mine
end Mine
namespace Mine
noncomputable def chkSc (sc : Scope) : Bool := (sc.kind == .function) && !sc.isGenerator && !sc.isCoroutine && decide (sc.names.map (·.1)).Nodup && sc.names.all fun p => p.2 != .free
structure FnRaw (P : Par) (a : Addr) (st : Stmt) (o : Obj) (fd : FuncData) : Prop where
  ho : P.H₀.get? a = some o
  hd : o.data = .func fd
  code : P.H₀.CodeRec fd.code fd.qualname
  hb : fd.body = .stmts (bodyS st)
  hs : fd.scope = scopeS st
  cl : fd.closure = []
  gl : fd.globals = mainGlobals
  bl : fd.builtins = builtinsNs
  ck : chkSc (scopeS st) = true
theorem FnRaw.facts {P : Par} {a : Addr} {st : Stmt} {o : Obj} {fd : FuncData} (r : FnRaw P a st o fd) : FunFacts P a fd (bodyS st) := by
  have ck := r.ck
  unfold chkSc at ck
  simp only [Bool.and_eq_true, beq_iff_eq, Bool.not_eq_true', decide_eq_true_eq] at ck
  obtain ⟨⟨⟨⟨h1, h2⟩, h3⟩, h4⟩, h5⟩ := ck
  refine ⟨⟨o, r.ho, r.hd⟩, r.code, r.hb, r.cl, r.gl, r.bl, by rw [r.hs]; exact h1, by rw [r.hs]; exact h2, by rw [r.hs]; exact h3, by rw [r.hs]; exact h4, fun n h => ?_⟩
  rw [r.hs] at h
  have := List.all_eq_true.mp h5 _ h
  simp at this
theorem FnOk.pos1 {P : Par} {a : Addr} {st : Stmt} {o : Obj} {fd : FuncData} {i : Nat} (r : FnRaw P a st o fd) (h : ∀ x, bindArgs fd ⟨[x], []⟩ = pure [(P.nm i, x)]) : FnOk P a st (bdPos [i]) :=
  ⟨fd, r.facts, r.hs, BindOk.pos fun xs hx => by obtain ⟨x, rfl⟩ := List.length_eq_one_iff.mp hx; exact h x⟩
theorem FnOk.pos2 {P : Par} {a : Addr} {st : Stmt} {o : Obj} {fd : FuncData} {i j : Nat} (r : FnRaw P a st o fd) (h : ∀ x y, bindArgs fd ⟨[x, y], []⟩ = pure [(P.nm i, x), (P.nm j, y)]) : FnOk P a st (bdPos [i, j]) :=
  ⟨fd, r.facts, r.hs, BindOk.pos fun xs hx => by cases xs with | nil => cases hx | cons x t => obtain ⟨y, rfl⟩ := List.length_eq_one_iff.mp (Nat.succ.inj hx); exact h x y⟩
theorem FnOk.star1 {P : Par} {a : Addr} {st : Stmt} {o : Obj} {fd : FuncData} {i j : Nat} (r : FnRaw P a st o fd) (h : ∀ x rest, bindArgs fd ⟨x :: rest, []⟩ = newTuple rest >>= fun t => pure [(P.nm i, x), (P.nm j, t)]) : FnOk P a st (bdStar1 i j) :=
  ⟨fd, r.facts, r.hs, BindOk.star1 h⟩
theorem FnOk.star2 {P : Par} {a : Addr} {st : Stmt} {o : Obj} {fd : FuncData} {i j k : Nat} (r : FnRaw P a st o fd) (h : ∀ x y rest, bindArgs fd ⟨x :: y :: rest, []⟩ = newTuple rest >>= fun t => pure [(P.nm i, x), (P.nm j, y), (P.nm k, t)]) : FnOk P a st (bdStar2 i j k) :=
  ⟨fd, r.facts, r.hs, BindOk.star2 h⟩
theorem FnOk.def1 {P : Par} {a : Addr} {st : Stmt} {o : Obj} {fd : FuncData} {i j : Nat} {mg mb : Str → Option Value} (tp : TopOk P mg mb) (r : FnRaw P a st o fd) (h : ∀ s x, P.K.In s.heap → BindsTo s fd ⟨[x], []⟩ [(P.nm i, x), (P.nm j, .none)]) : FnOk P a st (bdDef1 i j) :=
  ⟨fd, r.facts, r.hs, BindOk.def1 tp h⟩
end Mine
namespace Mine
noncomputable def tokC : Option CFound → Tok
  | some (.val (.str _ t)) => t
  | _ => 0
theorem ex_str {x : Option CFound} {l : List Nat} (h : x = some (.val (.str ⟨l.toArray⟩ (tokC x)))) : ∃ tk, x = some (.val (.str ⟨l.toArray⟩ tk)) := ⟨_, h⟩
noncomputable def tokI : Option (Option Value) → Tok
  | some (some (.int _ t)) => t
  | _ => 0
theorem ex_int {K : Frag} {h : Heap} {mg : Str → Option Value} {n : Str} {i : Int} (X : K.In h) (G : h.Ns mainGlobals mg) (e : nsIn K mainGlobals n = some (some (.int i (tokI (nsIn K mainGlobals n))))) : ∃ t, mg n = some (.int i t) := ⟨_, mg_of X G e⟩
end Mine
namespace Mine
theorem exOf {α : Type} {x : Option α} {a : α} {p : α → Prop} (h : x = some a) : (∃ v, x = some v ∧ p v) = p a := propext ⟨fun q => by obtain ⟨v, e, q⟩ := q; cases h.symm.trans e; exact q, fun q => ⟨a, h, q⟩⟩
theorem exV {α : Type} {a : α} {p : α → Prop} : (∃ v, some a = some v ∧ p v) = p a := exOf rfl
theorem exV1 {α β : Type} {a : α} {p : α → β → Prop} : (∃ v b, some a = some v ∧ p v b) = ∃ b, p a b := propext ⟨fun q => by obtain ⟨v, b, e, q⟩ := q; cases e; exact ⟨b, q⟩, fun q => by obtain ⟨b, q⟩ := q; exact ⟨a, b, rfl, q⟩⟩
theorem exV3 {α β γ δ : Type} {a : α} {p : α → β → γ → δ → Prop} : (∃ v b c d, some a = some v ∧ p v b c d) = ∃ b c d, p a b c d := propext ⟨fun q => by obtain ⟨v, b, c, d, e, q⟩ := q; cases e; exact ⟨b, c, d, q⟩, fun q => by obtain ⟨b, c, d, q⟩ := q; exact ⟨a, b, c, d, rfl, q⟩⟩
theorem exI {a : Int} {p : Int → Prop} : (∃ v, V.int a = .int v ∧ p v) = p a := propext ⟨fun q => by obtain ⟨v, e, q⟩ := q; cases e; exact q, fun q => ⟨a, rfl, q⟩⟩
theorem exI2 {a b : Int} {p : Int → Int → Prop} : (∃ c d, [V.int a, V.int b] = [.int c, .int d] ∧ p c d) = p a b := propext ⟨fun q => by obtain ⟨v, w, e, q⟩ := q; cases e; exact q, fun q => ⟨a, b, rfl, q⟩⟩
theorem exL1 {β : Type} {a : V} {p : V → β → Prop} : (∃ v b, [a] = [v] ∧ p v b) = ∃ b, p a b := propext ⟨fun q => by obtain ⟨v, b, e, q⟩ := q; cases e; exact ⟨b, q⟩, fun q => by obtain ⟨b, q⟩ := q; exact ⟨a, b, rfl, q⟩⟩
theorem exL2 {β γ : Type} {a : V} {p : V → β → γ → Prop} : (∃ v b c, [a] = [v] ∧ p v b c) = ∃ b c, p a b c := propext ⟨fun q => by obtain ⟨v, b, c, e, q⟩ := q; cases e; exact ⟨b, c, q⟩, fun q => by obtain ⟨b, c, q⟩ := q; exact ⟨a, b, c, rfl, q⟩⟩
theorem minI (a b : Int) : (if b < a then b else a) = min a b := by split <;> lia
theorem maxI (a b : Int) : (if b > a then b else a) = max a b := by split <;> lia
section
variable {Q : Fw → Loc → Hp → Prop} {X : XS} {loc : Loc} {hp : Hp} {QE : V → Hp → Prop} {XE : XA} {QA : List V → Hp → Prop} {QT : Bool → Hp → Prop} {QG : Loc → Hp → Prop}
@[simp ↓] theorem e_sSeq {a b : DS} : sSeq a b Q X loc hp = a (fun w loc1 hp1 => match w with | .next => b Q X loc1 hp1 | w => Q w loc1 hp1) X loc hp := rfl
@[simp ↓] theorem e_sAsg {e : DE} {t : DA} : sAsg e t Q X loc hp = e (fun v hp1 => t v (fun loc' hp2 => Q .next loc' hp2) X loc hp1) (fun k hp' => X k loc hp') loc hp := rfl
@[simp ↓] theorem e_sAsg2 {e : DE} {t u : DA} : sAsg2 e t u Q X loc hp = e (fun v hp1 => t v (fun loc2 hp2 => u v (fun loc3 hp3 => Q .next loc3 hp3) X loc2 hp2) X loc hp1) (fun k hp' => X k loc hp') loc hp := rfl
@[simp ↓] theorem e_sAsg3 {e : DE} {t u w : DA} : sAsg3 e t u w Q X loc hp = e (fun v hp1 => t v (fun loc2 hp2 => u v (fun loc3 hp3 => w v (fun loc4 hp4 => Q .next loc4 hp4) X loc3 hp3) X loc2 hp2) X loc hp1) (fun k hp' => X k loc hp') loc hp := rfl
@[simp ↓] theorem e_sRet {e : DE} : sRet e Q X loc hp = e (fun v hp1 => Q (.ret v) loc hp1) (fun k hp' => X k loc hp') loc hp := rfl
@[simp ↓] theorem e_sExp {e : DE} : sExp e Q X loc hp = e (fun v hp1 => Q .next loc hp1) (fun k hp' => X k loc hp') loc hp := rfl
@[simp ↓] theorem e_sSkip : sSkip Q X loc hp = Q .next loc hp := rfl
@[simp ↓] theorem e_sBrk : sBrk Q X loc hp = Q .brk loc hp := rfl
@[simp ↓] theorem e_sCont : sCont Q X loc hp = Q .cont loc hp := rfl
@[simp ↓] theorem e_sIf {t : DT} {a b : DS} : sIf t a b Q X loc hp = t (fun c hp1 => if c then a Q X loc hp1 else b Q X loc hp1) (fun k hp' => X k loc hp') loc hp := rfl
@[simp ↓] theorem e_sIfN {i : Nat} {e : DE} {a b : DS} : sIfN i e a b Q X loc hp = e (fun v hp1 => ∃ c, isOne v .none = some c ∧ if c then a Q X (upd loc i v) hp1 else b Q X (upd loc i v) hp1) (fun k hp' => X k loc hp') loc hp := rfl
@[simp ↓] theorem e_sSwap {i j : Nat} {e : DE} : sSwap i j e Q X loc hp = e (fun v hp1 => ∃ u w, v = .tup [u, w] ∧ Q .next (upd (upd loc j w) i u) hp1) (fun k hp' => X k loc hp') loc hp := rfl
@[simp ↓] theorem e_sAug {g : V → (V → Hp → Prop) → Hp → Prop} {f : V → V → (Hp → Prop) → Hp → Prop} {b : B2} {o e : DE} : sAug g f b o e Q X loc hp = o (fun ov hp1 => g ov (fun old hp2 => e (fun u hp3 => b old u (fun w hp4 => f ov w (fun hp5 => Q .next loc hp5) hp4) hp3) (fun k hp' => X k loc hp') loc hp2) hp1) (fun k hp' => X k loc hp') loc hp := rfl
@[simp ↓] theorem e_sFor {e : DE} {t : DA} {b : DS} : sFor e t b Q X loc hp = e (fun v hp1 => ∃ vs, iterOf hp1 v = some vs ∧ fLoop v hp1 t b Q vs loc hp1) (fun k hp' => X k loc hp') loc hp := rfl
@[simp ↓] theorem e_sTry {k0 : Nat} {b h : DS} : sTry k0 b h Q X loc hp = b Q (fun k loc' hp' => k = k0 ∧ h Q noX loc' hp') loc hp := rfl
@[simp ↓] theorem e_sRaise {k : Nat} {a : DEs} : sRaise k a Q X loc hp = a (fun vs hp1 => vs.length ≤ lim ∧ X k loc hp1) (fun k hp' => X k loc hp') loc hp := rfl
@[simp ↓] theorem e_sDel {o i : DE} : sDel o i Q X loc hp = o (fun ov hp1 => i (fun iv hp2 => bDelI ov iv (fun hp3 => Q .next loc hp3) hp2) (fun k hp' => X k loc hp') loc hp1) (fun k hp' => X k loc hp') loc hp := rfl
@[simp ↓] theorem e_gVar {i : Nat} {v : V} : gVar i v QG X loc hp = QG (upd loc i v) hp := rfl
@[simp ↓] theorem e_gSet {f : V → V → (Hp → Prop) → Hp → Prop} {o : DE} {v : V} : gSet f o v QG X loc hp = o (fun ov hp1 => f ov v (fun hp2 => QG loc hp2) hp1) (fun k hp' => X k loc hp') loc hp := rfl
@[simp ↓] theorem e_gItem {o i : DE} {v : V} : gItem o i v QG X loc hp = o (fun ov hp1 => i (fun iv hp2 => bSetI ov iv v (fun hp3 => QG loc hp3) hp2) (fun k hp' => X k loc hp') loc hp1) (fun k hp' => X k loc hp') loc hp := rfl
@[simp ↓] theorem e_gTup {ts : List DA} {v : V} : gTup ts v QG X loc hp = ∃ us, v = .tup us ∧ gSeq ts us QG X loc hp := rfl
@[simp ↓] theorem e_dVar {i : Nat} : dVar i QE XE loc hp = ∃ v, loc i = some v ∧ QE v hp := rfl
@[simp ↓] theorem e_dCon {v : V} : dCon v QE XE loc hp = QE v hp := rfl
@[simp ↓] theorem e_dBin {b : B2} {l r : DE} : dBin b l r QE XE loc hp = l (fun x hp1 => r (fun y hp2 => b x y QE hp2) XE loc hp1) XE loc hp := rfl
@[simp ↓] theorem e_dAttr {f : V → (V → Hp → Prop) → Hp → Prop} {o : DE} : dAttr f o QE XE loc hp = o (fun v hp1 => f v QE hp1) XE loc hp := rfl
@[simp ↓] theorem e_dTup {a : DEs} : dTup a QE XE loc hp = a (fun vs hp1 => vs.length ≤ lim ∧ QE (.tup vs) hp1) XE loc hp := rfl
@[simp ↓] theorem e_dLst {a : DEs} : dLst a QE XE loc hp = a (fun vs hp1 => vs.length ≤ lim ∧ QE (.lst vs) hp1) XE loc hp := rfl
@[simp ↓] theorem e_dNew {a : DEs} : dNew a QE XE loc hp = a (fun vs hp1 => vs.length ≤ lim ∧ ∀ l, hp1 l = Option.none → QE (.ref l) (upd hp1 l (.lst vs))) XE loc hp := rfl
@[simp ↓] theorem e_dDict : dDict QE XE loc hp = ∀ l, hp l = Option.none → ∀ ep, QE (.ref l) (upd hp l (.dict [] ep)) := rfl
@[simp ↓] theorem e_dCall {Dc : DC} {a : DEs} : dCall Dc a QE XE loc hp = a (fun vs hp1 => Dc vs QE XE hp1) XE loc hp := rfl
@[simp ↓] theorem e_dMeth {isR : Hp → V → Prop} {Dc : DC} {o : DE} {a : DEs} : dMeth isR Dc o a QE XE loc hp = o (fun r hp1 => isR hp1 r ∧ a (fun vs hp2 => Dc (r :: vs) QE XE hp2) XE loc hp1) XE loc hp := rfl
@[simp ↓] theorem e_aNil : aNil QA XE loc hp = QA [] hp := rfl
@[simp ↓] theorem e_aCons {e : DE} {r : DEs} : aCons e r QA XE loc hp = e (fun v hp1 => r (fun vs hp2 => QA (v :: vs) hp2) XE loc hp1) XE loc hp := rfl
@[simp ↓] theorem e_aStar {e : DE} {r : DEs} : aStar e r QA XE loc hp = e (fun v hp1 => ∃ us, itemsOf hp1 v = some us ∧ us.length ≤ lim ∧ r (fun vs hp2 => QA (us ++ vs) hp2) XE loc hp1) XE loc hp := rfl
@[simp ↓] theorem e_dNeg {a : DE} : dNeg a QE XE loc hp = a (fun v hp1 => ∃ i, v = .int i ∧ QE (.int (-i)) hp1) XE loc hp := rfl
@[simp ↓] theorem e_dIte {t : DT} {a b : DE} : dIte t a b QE XE loc hp = t (fun c hp1 => if c then a QE XE loc hp1 else b QE XE loc hp1) XE loc hp := rfl
@[simp ↓] theorem e_dOr2 {a b : DE} : dOr2 a b QE XE loc hp = a (fun v hp1 => ∃ c, truthOf hp1 v = some c ∧ (∀ vs, listOf hp1 v = some vs → vs.length ≤ lim) ∧ if c then QE v hp1 else b QE XE loc hp1) XE loc hp := rfl
@[simp ↓] theorem e_dFrz {i : Nat} : dFrz i QE XE loc hp = ∃ a us, loc i = some (.ref a) ∧ hp a = some (.lst us) ∧ QE (.lst us) (del hp a) := rfl
@[simp ↓] theorem e_dCut {o l u st : DE} : dCut o l u st QE XE loc hp = o (fun ov hp1 => l (fun lv hp2 => u (fun uv hp3 => st (fun kv hp4 => bCut ov lv uv kv QE hp4) XE loc hp3) XE loc hp2) XE loc hp1) XE loc hp := rfl
@[simp ↓] theorem e_dNext {e : DE} : dNext e QE XE loc hp = e (fun v hp1 => ∃ I l k us, v = .nxt I ∧ hp1 I = some (.it l k) ∧ hp1 l = some (.lst us) ∧ match us[k]? with
  | some u => QE u (upd hp1 I (.it l (k + 1)))
  | Option.none => XE 0 (del hp1 I)) XE loc hp := rfl
@[simp ↓] theorem e_dComp {fr : List Nat} {src : DE} {t : DA} {f : DT} {inner : CD} : dComp fr src t f inner QE XE loc hp = src (fun v hp1 => ∃ vs, iterOf hp1 v = some vs ∧ cLp v hp1 t f inner (fun acc hp' => QE (.lst acc) hp') vs [] (keepL fr loc) hp1) XE loc hp := rfl
@[simp ↓] theorem e_dCompN {fr : List Nat} {src : DE} {t : DA} {f : DT} {inner : CD} : dCompN fr src t f inner QE XE loc hp = src (fun v hp1 => ∃ vs, iterOf hp1 v = some vs ∧ cLp v hp1 t f inner (fun acc hp' => ∀ l, hp' l = Option.none → QE (.ref l) (upd hp' l (.lst acc))) vs [] (keepL fr loc) hp1) XE loc hp := rfl
@[simp ↓] theorem e_tTru {t : DE} : tTru t QT XE loc hp = t (fun v hp1 => ∃ b, truthOf hp1 v = some b ∧ (∀ vs, listOf hp1 v = some vs → vs.length ≤ lim) ∧ QT b hp1) XE loc hp := rfl
@[simp ↓] theorem e_tBin {b : B2} {l r : DE} : tBin b l r QT XE loc hp = l (fun x hp1 => r (fun y hp2 => b x y (fun v hp3 => ∃ c, v = .bool c ∧ QT c hp3) hp2) XE loc hp1) XE loc hp := rfl
@[simp ↓] theorem e_tNot {t : DT} : tNot t QT XE loc hp = t (fun b hp1 => QT (!b) hp1) XE loc hp := rfl
@[simp ↓] theorem e_tAnd {a b : DT} : tAnd a b QT XE loc hp = a (fun c hp1 => if c then b QT XE loc hp1 else QT false hp1) XE loc hp := rfl
@[simp ↓] theorem e_tOr {a b : DT} : tOr a b QT XE loc hp = a (fun c hp1 => if c then QT true hp1 else b QT XE loc hp1) XE loc hp := rfl
@[simp ↓] theorem e_fNone : fNone QT XE loc hp = QT true hp := rfl
@[simp ↓] theorem e_bIs {x y : V} : bIs x y QE hp = ∃ b, isOne x y = some b ∧ QE (.bool b) hp := rfl
@[simp ↓] theorem e_bIsNot {x y : V} : bIsNot x y QE hp = ∃ b, isOne x y = some b ∧ QE (.bool (!b)) hp := rfl
@[simp ↓] theorem e_bInt {f : Int → Int → Int} {a b : Int} : bInt f (.int a) (.int b) QE hp = QE (.int (f a b)) hp := rfl
@[simp ↓] theorem e_bCmp {f : Int → Int → Bool} {a b : Int} : bCmp f (.int a) (.int b) QE hp = QE (.bool (f a b)) hp := rfl
@[simp ↓] theorem e_bAdd {a b : Int} : bAdd (.int a) (.int b) QE hp = QE (.int (a + b)) hp := rfl
@[simp ↓] theorem e_bAddS {a b : List Nat} : bAdd (.str a) (.str b) QE hp = (a.length + b.length ≤ lim ∧ QE (.str (a ++ b)) hp) := rfl
@[simp ↓] theorem e_bAddL {a b : List V} : bAdd (.lst a) (.lst b) QE hp = (a.length + b.length ≤ lim ∧ QE (.lst (a ++ b)) hp) := by
  exact exV1.trans exV
@[simp ↓] theorem e_bMod {a b : Int} : bMod (.int a) (.int b) QE hp = (b ≠ 0 ∧ QE (.int (a.fmod b)) hp) := rfl
@[simp ↓] theorem e_bDiv {a b : Int} : bDiv (.int a) (.int b) QE hp = ((b ≠ 0 ∧ (a.natAbs < 1073741824 ∨ b.natAbs < 1073741824)) ∧ QE (.int (a.fdiv b)) hp) := rfl
@[simp ↓] theorem e_bMulA {a b : Int} : bMulA (.int a) (.int b) QE hp = ((small a ∨ small b) ∧ QE (.int (a * b)) hp) := rfl
@[simp ↓] theorem e_bMulS {a : List Nat} {n : Int} : bMulA (.str a) (.int n) QE hp = (-(10 ^ 9) < n ∧ n < 10 ^ 9 ∧ a.length * n.toNat ≤ lim ∧ QE (.str (List.replicate n.toNat a).flatten) hp) := rfl
@[simp ↓] theorem e_bMulL {a : List V} {n : Int} : bMulA (.lst a) (.int n) QE hp = (-(10 ^ 9) < n ∧ n < 10 ^ 9 ∧ a.length * n.toNat ≤ lim ∧ QE (.lst (List.replicate n.toNat a).flatten) hp) := by
  exact exI.trans exV
@[simp ↓] theorem e_bItemL {a : List V} {k : Int} : bItem (.lst a) (.int k) QE hp = (a.length ≤ lim ∧ ∃ v, itemAt a k = some v ∧ QE v hp) := by
  exact exI
@[simp ↓] theorem e_bItemT {a : List V} {k : Int} : bItem (.tup a) (.int k) QE hp = (a.length ≤ lim ∧ ∃ v, itemAt a k = some v ∧ QE v hp) := by
  exact exI
@[simp ↓] theorem e_bCutL {a : List V} {l u st : V} : bCut (.lst a) l u st QE hp = ∃ lo hi k, a.length ≤ lim ∧ partOf l = some lo ∧ partOf u = some hi ∧ partOf st = some k ∧ k ≠ some 0 ∧ QE (.lst (cutV a lo hi k)) hp := by
  exact exV3
@[simp ↓] theorem e_dMin2 {a b : Int} : dMin2 [.int a, .int b] QE XE hp = QE (.int (min a b)) hp := by
  exact exI2.trans (congrArg (fun c => QE (.int c) hp) (minI a b))
@[simp ↓] theorem e_dMax2 {a b : Int} : dMax2 [.int a, .int b] QE XE hp = QE (.int (max a b)) hp := by
  exact exI2.trans (congrArg (fun c => QE (.int c) hp) (maxI a b))
@[simp ↓] theorem e_dLenL {a : List V} : dLen [.lst a] QE XE hp = (a.length ≤ lim ∧ QE (.int a.length) hp) := exL1.trans exV
@[simp ↓] theorem e_dLenT {a : List V} : dLen [.tup a] QE XE hp = (a.length ≤ lim ∧ QE (.int a.length) hp) := exL1.trans exV
@[simp ↓] theorem e_dLenS {a : List Nat} : dLen [.str a] QE XE hp = (a.length ≤ lim ∧ QE (.int a.length) hp) := exL1.trans exV
@[simp ↓] theorem e_dRange1 {a : Int} : dRange1 [.int a] QE XE hp = QE (.rng 0 a) hp := by simp [dRange1]
@[simp ↓] theorem e_dRange2 {a b : Int} : dRange2 [.int a, .int b] QE XE hp = QE (.rng a b) hp := by
  exact exI2
@[simp ↓] theorem e_dAbs {a : Int} : dAbs [.int a] QE XE hp = QE (.int (if a < 0 then -a else a)) hp := by simp [dAbs]
end
theorem eqvI (x k : Int) : PyData.eqv (.int x) (.int k) = decide (x = k) := rfl
theorem intsOf_map : ∀ ns : List Int, intsOf (ns.map .int) = some ns
  | [] => rfl
  | n :: ns => congrArg (Option.map (n :: ·)) (intsOf_map ns)
theorem toD0s_ints : ∀ ns : List Int, toD0s (ns.map .int) = some (ns.map .int)
  | [] => rfl
  | n :: ns => by
    show (some (PyData.int n)).bind (fun d => (toD0s (ns.map .int)).map (d :: ·)) = _
    rw [toD0s_ints ns]; rfl
theorem toD_ints {hp : Hp} (ns : List Int) : toD hp (.lst (ns.map .int)) = some (.list (ns.map .int)) := by
  show (toD0s _).map _ = _
  rw [toD0s_ints]; rfl
theorem toD_ref {hp : Hp} {a : Addr} {ns : List Int} (h : hp a = some (.lst (ns.map .int))) : toD hp (.ref a) = some (.list (ns.map .int)) := by
  show ((lstAt hp a).bind toD0s).map _ = _
  rw [lstAt_of h, Option.bind_some, toD0s_ints]; rfl
theorem lay_ints0 : ∀ ns : List Int, PyData.canLayAll0 (ns.map .int) = true ∧ PyData.depthAll (ns.map .int) = 0
  | [] => ⟨rfl, rfl⟩
  | n :: ns => by have := lay_ints0 ns; simp [PyData.canLayAll0, PyData.canLay0, PyData.depthAll, PyData.depth, this]
theorem shaped_ints (ns : List Int) : SeqAt.shaped (.list (ns.map .int)) = true := by
  simp [SeqAt.shaped, PyData.canLay0, PyData.depth, lay_ints0 ns]
theorem shaped_int (n : Int) : SeqAt.shaped (.int n) = true := by simp [SeqAt.shaped, PyData.canLay0, PyData.depth]
theorem shaped_bool (n : Bool) : SeqAt.shaped (.bool n) = true := by simp [SeqAt.shaped, PyData.canLay0, PyData.depth]
theorem eqv_ints : ∀ xs ys : List Int, PyData.eqvAll (xs.map .int) (ys.map .int) = decide (xs = ys)
  | [], [] => rfl
  | [], y :: ys => rfl
  | x :: xs, [] => rfl
  | x :: xs, y :: ys => by
    simp only [List.map_cons, PyData.eqvAll, PyData.eqv, eqv_ints xs ys, List.cons.injEq, Bool.decide_and]
    rfl
section
variable {Q : V → Hp → Prop} {hp : Hp} {XE : XA}
theorem eq_int {a b : Int} (h : Q (.bool (decide (a = b))) hp) : bEq (.int a) (.int b) Q hp := ⟨_, _, rfl, rfl, shaped_int _, shaped_int _, h⟩
theorem ne_int {a b : Int} (h : Q (.bool (decide (a ≠ b))) hp) : bNe (.int a) (.int b) Q hp := by
  refine ⟨_, _, rfl, rfl, shaped_int _, shaped_int _, ?_⟩
  have : (!PyData.eqv (.int a) (.int b)) = decide (a ≠ b) := by rw [eqvI]; by_cases h : a = b <;> simp [h]
  rw [this]; exact h
theorem eq_ints {a b : List Int} (h : Q (.bool (decide (a = b))) hp) : bEq (.lst (a.map .int)) (.lst (b.map .int)) Q hp := by
  refine ⟨.list (a.map .int), .list (b.map .int), ?_, ?_, shaped_ints _, shaped_ints _, ?_⟩
  · exact toD_ints _
  · exact toD_ints _
  · simpa [PyData.eqv, eqv_ints] using h
theorem ne_ints {a b : List Int} (h : Q (.bool (decide (a ≠ b))) hp) : bNe (.lst (a.map .int)) (.lst (b.map .int)) Q hp := by
  refine ⟨.list (a.map .int), .list (b.map .int), ?_, ?_, shaped_ints _, shaped_ints _, ?_⟩
  · exact toD_ints _
  · exact toD_ints _
  · simpa [PyData.eqv, eqv_ints] using h
theorem anyI (k : Int) : ∀ xs : List Int, (xs.map PyData.int).any (fun y => PyData.eqv y (.int k)) = decide (k ∈ xs)
  | [] => by simp
  | x :: xs => by
    rw [List.map_cons, List.any_cons, anyI k xs, eqvI]
    by_cases h : x = k
    · simp [h]
    · have : ¬ k = x := fun z => h z.symm
      simp [h, this]
theorem inL {k : Int} {xs : List Int} : inRes hp (.int k) (.lst (xs.map .int)) (decide (k ∈ xs)) := by
  refine ⟨xs.map .int, .int k, ?_, rfl, shaped_ints _, shaped_int _, (anyI k xs).symm⟩
  exact toD_ints _
theorem inR {a : Addr} {k : Int} {xs : List Int} (h : hp a = some (.lst (xs.map .int))) : inRes hp (.int k) (.ref a) (decide (k ∈ xs)) := by
  refine (inRes_o h).mpr ⟨xs.map .int, .int k, ?_, rfl, shaped_ints _, shaped_int _, (anyI k xs).symm⟩
  exact toD_ref h
theorem in_ints {k : Int} {xs : List Int} (h : Q (.bool (decide (k ∈ xs))) hp) : bIn (.int k) (.lst (xs.map .int)) Q hp := ⟨_, inL, h⟩
theorem notIn_ints {k : Int} {xs : List Int} (h : Q (.bool (decide (k ∉ xs))) hp) : bNotIn (.int k) (.lst (xs.map .int)) Q hp := ⟨_, inL, by simpa using h⟩
theorem notIn_ref {a : Addr} {k : Int} {xs : List Int} (e : hp a = some (.lst (xs.map .int))) (h : Q (.bool (decide (k ∉ xs))) hp) : bNotIn (.int k) (.ref a) Q hp := ⟨_, inR e, by simpa using h⟩
end
section
variable {Q : V → Hp → Prop} {hp : Hp} {XE : XA} {QT : Bool → Hp → Prop}
theorem eqvB (x k : Bool) : PyData.eqv (.bool x) (.bool k) = decide (x = k) := by cases x <;> cases k <;> rfl
@[simp ↓] theorem e_eqI {a b : Int} : bEq (.int a) (.int b) Q hp = Q (.bool (decide (a = b))) hp := by
  apply propext; constructor
  · rintro ⟨x, y, h1, h2, _, _, h⟩
    cases h1; cases h2; rw [← eqvI]; exact h
  · exact eq_int
@[simp ↓] theorem e_eqB {a b : Bool} : bEq (.bool a) (.bool b) Q hp = Q (.bool (decide (a = b))) hp := by
  apply propext; constructor
  · rintro ⟨x, y, h1, h2, _, _, h⟩
    cases h1; cases h2; rw [← eqvB]; exact h
  · intro h; exact ⟨_, _, rfl, rfl, shaped_bool _, shaped_bool _, by rw [eqvB]; exact h⟩
@[simp ↓] theorem e_neI {a b : Int} : bNe (.int a) (.int b) Q hp = Q (.bool (decide (a ≠ b))) hp := by
  have e : (!PyData.eqv (.int a) (.int b)) = decide (a ≠ b) := by rw [eqvI]; by_cases h : a = b <;> simp [h]
  apply propext; constructor
  · rintro ⟨x, y, h1, h2, _, _, h⟩
    cases h1; cases h2; rw [← e]; exact h
  · exact ne_int
@[simp ↓] theorem e_eqLs {a b : List Int} : bEq (.lst (a.map .int)) (.lst (b.map .int)) Q hp = Q (.bool (decide (a = b))) hp := by
  apply propext; constructor
  · rintro ⟨x, y, h1, h2, _, _, h⟩
    rw [toD_ints] at h1 h2; cases h1; cases h2; simpa [PyData.eqv, eqv_ints] using h
  · exact eq_ints
@[simp ↓] theorem e_neLs {a b : List Int} : bNe (.lst (a.map .int)) (.lst (b.map .int)) Q hp = Q (.bool (decide (a ≠ b))) hp := by
  apply propext; constructor
  · rintro ⟨x, y, h1, h2, _, _, h⟩
    rw [toD_ints] at h1 h2; cases h1; cases h2; simpa [PyData.eqv, eqv_ints] using h
  · exact ne_ints
@[simp ↓] theorem e_neL0 {a : List Int} : bNe (.lst (a.map .int)) (.lst []) Q hp = Q (.bool (decide (a ≠ []))) hp := e_neLs (b := [])
@[simp ↓] theorem e_inL {k : Int} {xs : List Int} : bIn (.int k) (.lst (xs.map .int)) Q hp = Q (.bool (decide (k ∈ xs))) hp := by
  apply propext; constructor
  · rintro ⟨r, ⟨ds, d, h1, h2, _, _, h⟩, q⟩
    rw [toD_ints] at h1; cases h1; cases h2; rw [anyI] at h; subst h; exact q
  · exact in_ints
@[simp ↓] theorem e_notInL {k : Int} {xs : List Int} : bNotIn (.int k) (.lst (xs.map .int)) Q hp = Q (.bool (decide (k ∉ xs))) hp := by
  apply propext; constructor
  · rintro ⟨r, ⟨ds, d, h1, h2, _, _, h⟩, q⟩
    rw [toD_ints] at h1; cases h1; cases h2; rw [anyI] at h; subst h; simpa using q
  · exact notIn_ints
@[simp ↓] theorem e_inL0 {k : Int} : bIn (.int k) (.lst []) Q hp = Q (.bool false) hp := by
  exact e_inL (Q := Q) (hp := hp) (k := k) (xs := [])
@[simp ↓] theorem e_notInL0 {k : Int} : bNotIn (.int k) (.lst []) Q hp = Q (.bool true) hp := by
  exact e_notInL (Q := Q) (hp := hp) (k := k) (xs := [])
@[simp ↓] theorem e_dSum {ns : List Int} : dSum [.lst (ns.map .int)] Q XE hp = Q (.int ns.sum) hp := exL2.trans (exV1.trans (exOf (intsOf_map ns)))
@[simp ↓] theorem e_dSortZ {ns : List Int} : dSortZ [.lst (ns.map .int)] Q XE hp = (ns.length < 64 ∧ Q (.lst ((sortZ ns).map .int)) hp) := (exL2.trans (exV1.trans (exOf (intsOf_map ns)))).trans (by rw [List.length_map])
@[simp] theorem part_none : partOf .none = some Option.none := rfl
@[simp] theorem part_int {i : Int} : partOf (.int i) = some (some i) := rfl
@[simp] theorem truth_bool {b : Bool} : truthOf hp (.bool b) = some b := rfl
@[simp] theorem truth_none : truthOf hp .none = some false := rfl
@[simp] theorem truth_lst {vs : List V} : truthOf hp (.lst vs) = some (!vs.isEmpty) := rfl
@[simp] theorem list_bool {b : Bool} : listOf hp (.bool b) = Option.none := rfl
@[simp] theorem list_int {b : Int} : listOf hp (.int b) = Option.none := rfl
@[simp] theorem list_none : listOf hp .none = Option.none := rfl
@[simp] theorem list_lst {vs : List V} : listOf hp (.lst vs) = some vs := rfl
@[simp] theorem items_lst {vs : List V} : itemsOf hp (.lst vs) = some vs := rfl
@[simp] theorem items_tup {vs : List V} : itemsOf hp (.tup vs) = some vs := rfl
@[simp] theorem iter_lst {vs : List V} : iterOf hp (.lst vs) = some vs := rfl
@[simp] theorem iter_tup {vs : List V} : iterOf hp (.tup vs) = some vs := rfl
@[simp] theorem one_nn : isOne .none .none = some true := rfl
@[simp] theorem one_bb {a b : Bool} : isOne (.bool a) (.bool b) = some (a == b) := rfl
@[simp] theorem one_rn {a : Addr} : isOne (.ref a) .none = some false := rfl
@[simp] theorem one_ln {a : List V} : isOne (.lst a) .none = some false := rfl
@[simp] theorem one_in {a : Int} : isOne (.int a) .none = some false := rfl
@[simp] theorem same_lst {a : List V} {hp hp' : Hp} : same (.lst a) hp hp' = True := rfl
@[simp] theorem same_tup {a : List V} {hp hp' : Hp} : same (.tup a) hp hp' = True := rfl
@[simp] theorem same_rng {a b : Int} {hp hp' : Hp} : same (.rng a b) hp hp' = True := rfl
@[simp] theorem same_str {a : List Nat} {hp hp' : Hp} : same (.str a) hp hp' = True := rfl
theorem e_append {a : Addr} {us : List V} {v : V} (h : hp a = some (.lst us)) (hl : us.length ≤ lim) (q : Q .none (upd hp a (.lst (us ++ [v])))) : dAppend [.ref a, v] Q XE hp := ⟨_, _, _, rfl, h, hl, q⟩
theorem isLst_ref {a : Addr} {us : List V} (h : hp a = some (.lst us)) : isLst hp (.ref a) := ⟨us, listOf_ref h⟩
@[simp] theorem isLst_lst {us : List V} : isLst hp (.lst us) = True := by simp [isLst]
@[simp ↓ high] theorem ex_bool {b : Bool} {K : Bool → Prop} : (∃ c, V.bool b = V.bool c ∧ K c) = K b := by
  apply propext; constructor
  · rintro ⟨c, h, k⟩; cases h; exact k
  · intro k; exact ⟨b, rfl, k⟩
@[simp ↓ high] theorem ex_int' {b : Int} {K : Int → Prop} : (∃ c, V.int b = V.int c ∧ K c) = K b := by
  apply propext; constructor
  · rintro ⟨c, h, k⟩; cases h; exact k
  · intro k; exact ⟨b, rfl, k⟩
@[simp ↓ high] theorem ex_tup {b : List V} {K : List V → Prop} : (∃ c, V.tup b = V.tup c ∧ K c) = K b := by
  apply propext; constructor
  · rintro ⟨c, h, k⟩; cases h; exact k
  · intro k; exact ⟨b, rfl, k⟩
theorem rd {o : Option V} {x : V} {K : V → Prop} (h : o = some x) : (∃ v, o = some v ∧ K v) = K x := by
  apply propext; constructor
  · rintro ⟨c, e, k⟩; rw [h] at e; cases e; exact k
  · intro k; exact ⟨x, h, k⟩
@[simp ↓ high] theorem rd_upd {loc : Loc} {j i : Nat} {x : V} {K : V → Prop} : (∃ v, upd loc j x i = some v ∧ K v) = if i = j then K x else ∃ v, loc i = some v ∧ K v := by
  split
  · rename_i h; subst h; exact rd (upd_same ..)
  · rename_i h; rw [upd_ne h]
theorem locOf_cons (ps : List (Nat × V)) (j i : Nat) (x : V) : locOf ((j, x) :: ps) i = if i = j then some x else locOf ps i := by
  by_cases h : i = j
  · simp [locOf, h]
  · simp [locOf, List.lookup_cons, show (i == j) = false by simpa using h, h]
@[simp ↓ high] theorem rd_loc {ps : List (Nat × V)} {j i : Nat} {x : V} {K : V → Prop} : (∃ v, locOf ((j, x) :: ps) i = some v ∧ K v) = if i = j then K x else ∃ v, locOf ps i = some v ∧ K v := by
  split
  · rename_i h; subst h; exact rd (by simp [locOf])
  · rename_i h
    have : locOf ((j, x) :: ps) i = locOf ps i := by simp [locOf, List.lookup_cons, show (i == j) = false by simpa using h]
    rw [this]
@[simp ↓ high] theorem rd_keep {fr : List Nat} {loc : Loc} {i : Nat} {K : V → Prop} : (∃ v, keepL fr loc i = some v ∧ K v) = if i ∈ fr then ∃ v, loc i = some v ∧ K v else False := by
  unfold keepL
  split
  · rfl
  · simp
@[simp ↓ high] theorem it_lst {vs : List V} {K : List V → Prop} : (∃ us, iterOf hp (.lst vs) = some us ∧ K us) = K vs := exV
@[simp ↓ high] theorem it_tup {vs : List V} {K : List V → Prop} : (∃ us, iterOf hp (.tup vs) = some us ∧ K us) = K vs := exV
theorem it_of {v : V} {vs : List V} {K : List V → Prop} (h : iterOf hp v = some vs) : (∃ us, iterOf hp v = some us ∧ K us) = K vs := exOf h
@[simp ↓ high] theorem is_lst {vs : List V} {K : List V → Prop} : (∃ us, itemsOf hp (.lst vs) = some us ∧ K us) = K vs := exV
@[simp ↓ high] theorem tr_bool {c : Bool} {K : Bool → Prop} : (∃ b, truthOf hp (.bool c) = some b ∧ (∀ vs, listOf hp (.bool c) = some vs → vs.length ≤ lim) ∧ K b) = K c := by simp
@[simp ↓ high] theorem tr_none {K : Bool → Prop} : (∃ b, truthOf hp .none = some b ∧ (∀ vs, listOf hp .none = some vs → vs.length ≤ lim) ∧ K b) = K false := by simp
@[simp ↓ high] theorem tr_lst {us : List V} {K : Bool → Prop} : (∃ b, truthOf hp (.lst us) = some b ∧ (∀ vs, listOf hp (.lst us) = some vs → vs.length ≤ lim) ∧ K b) = (us.length ≤ lim ∧ K (!us.isEmpty)) := by
  apply propext; constructor
  · rintro ⟨b, h1, h2, h3⟩; cases h1; exact ⟨h2 _ rfl, h3⟩
  · rintro ⟨h1, h2⟩; exact ⟨_, rfl, fun vs e => by cases e; exact h1, h2⟩
theorem tr_ref {a : Addr} {us : List V} {K : Bool → Prop} (h : hp a = some (.lst us)) : (∃ b, truthOf hp (.ref a) = some b ∧ (∀ vs, listOf hp (.ref a) = some vs → vs.length ≤ lim) ∧ K b) = (us.length ≤ lim ∧ K (!us.isEmpty)) := by
  have e1 : truthOf hp (.ref a) = some (!us.isEmpty) := congrArg (fun o => match o with | some (O.lst vs) => some (!vs.isEmpty) | _ => Option.none) h
  have e2 : listOf hp (.ref a) = some us := listOf_ref h
  apply propext; constructor
  · rintro ⟨b, h1, h2, h3⟩; rw [e1] at h1; cases h1; exact ⟨h2 _ e2, h3⟩
  · rintro ⟨h1, h2⟩; exact ⟨_, e1, fun vs e => by rw [e2] at e; cases e; exact h1, h2⟩
@[simp ↓ high] theorem on_nn {K : Bool → Prop} : (∃ b, isOne .none .none = some b ∧ K b) = K true := exV
@[simp ↓ high] theorem on_rn {a : Addr} {K : Bool → Prop} : (∃ b, isOne (.ref a) .none = some b ∧ K b) = K false := exV
@[simp ↓ high] theorem on_ln {a : List V} {K : Bool → Prop} : (∃ b, isOne (.lst a) .none = some b ∧ K b) = K false := exV
@[simp ↓ high] theorem on_in {a : Int} {K : Bool → Prop} : (∃ b, isOne (.int a) .none = some b ∧ K b) = K false := exV
@[simp ↓ high] theorem on_bb {a c : Bool} {K : Bool → Prop} : (∃ b, isOne (.bool a) (.bool c) = some b ∧ K b) = K (a == c) := exV
@[simp ↓ high] theorem e_gSeq0 {QG : Loc → Hp → Prop} {X : XS} {loc : Loc} : gSeq (List.map gVar []) [] QG X loc hp = QG loc hp := rfl
@[simp ↓ high] theorem e_gSeq1 {QG : Loc → Hp → Prop} {X : XS} {loc : Loc} {i : Nat} {is : List Nat} {u : V} {us : List V} : gSeq (List.map gVar (i :: is)) (u :: us) QG X loc hp = gSeq (List.map gVar is) us QG X (upd loc i u) hp := rfl
@[simp ↓ high] theorem e_gSeq2 {QG : Loc → Hp → Prop} {X : XS} {loc : Loc} {t : DA} {ts : List DA} {u : V} {us : List V} : gSeq (t :: ts) (u :: us) QG X loc hp = t u (fun loc1 hp1 => gSeq ts us QG X loc1 hp1) X loc hp := rfl
@[simp ↓ high] theorem e_gSeq3 {QG : Loc → Hp → Prop} {X : XS} {loc : Loc} : gSeq [] [] QG X loc hp = QG loc hp := rfl
@[simp ↓ high] theorem e_cElt {e : DE} {K : List V → Hp → Prop} {acc : List V} {loc : Loc} : cElt e K acc loc hp = (acc.length ≤ lim ∧ e (fun v hp1 => K (acc ++ [v]) hp1) noXA loc hp) := rfl
theorem at_obj {C : Addr} {i : Nat} {fs : List (Nat × V)} {v : V} (h : fs.lookup i = some v) (n : notFn v = true) : bAttr C i (.obj C fs) Q hp = Q v hp := by
  apply propext; constructor
  · rintro ⟨_, u, h1, _, q⟩; rw [h] at h1; cases h1; exact q
  · intro q; exact ⟨rfl, v, h, n, q⟩
theorem at_ref {C a dd : Addr} {i : Nat} {fs : List (Nat × V)} {v : V} (h1 : hp a = some (.inst C dd)) (h2 : hp dd = some (.ns fs)) (h : fs.lookup i = some v) (n : notFn v = true) : bAttr C i (.ref a) Q hp = Q v hp := by
  apply propext; constructor
  · rintro ⟨d', fs', u, e1, e2, e3, _, q⟩; rw [h1] at e1; cases e1; rw [h2] at e2; cases e2; rw [h] at e3; cases e3; exact q
  · intro q; exact ⟨dd, fs, v, h1, h2, h, n, q⟩
theorem setA_ref {C a dd : Addr} {i : Nat} {fs : List (Nat × V)} {v : V} {K : Hp → Prop} (h1 : hp a = some (.inst C dd)) (h2 : hp dd = some (.ns fs)) (hl : fs.length ≤ 1000) : bSetA C i (.ref a) v K hp = K (upd hp dd (.ns (fSet fs i v))) := by
  apply propext; constructor
  · rintro ⟨d', fs', e1, e2, e3, q⟩; rw [h1] at e1; cases e1; rw [h2] at e2; cases e2; exact q
  · intro q; exact ⟨dd, fs, h1, h2, hl, q⟩
theorem sl_ref {C a : Addr} {k : Nat} {vs : List (Option V)} {v : V} (h1 : hp a = some (.sl C vs)) (h : vs[k]? = some (some v)) (n : notFn v = true) : bSlot C k (.ref a) Q hp = Q v hp := by
  apply propext; constructor
  · rintro ⟨vs', u, e1, e2, _, q⟩; rw [h1] at e1; cases e1; rw [h] at e2; cases e2; exact q
  · intro q; exact ⟨vs, v, h1, h, n, q⟩
theorem setS_ref {C a : Addr} {k : Nat} {vs : List (Option V)} {v : V} {K : Hp → Prop} (h1 : hp a = some (.sl C vs)) : bSetS C k (.ref a) v K hp = K (upd hp a (.sl C (slSet vs k v))) := by
  apply propext; constructor
  · rintro ⟨vs', e1, q⟩; rw [h1] at e1; cases e1; exact q
  · intro q; exact ⟨vs, h1, q⟩
theorem item_dict {a : Addr} {es : List (Int × V)} {ep : Nat} {k : Int} {v : V} (h1 : hp a = some (.dict es ep)) (h : eAt es k = some v) : bItem (.ref a) (.int k) Q hp = Q v hp := by
  refine propext ⟨fun q => ?_, fun q => ⟨_, rfl, ?_⟩⟩
  · obtain ⟨j, e, q⟩ := q; cases e; dsimp only at q; rw [h1] at q; obtain ⟨u, e, q⟩ := q; cases h.symm.trans e; exact q
  · dsimp only; rw [h1]; exact ⟨v, h, q⟩
theorem item_list {a : Addr} {vs : List V} {k : Int} {v : V} (h1 : hp a = some (.lst vs)) (hl : vs.length ≤ lim) (h : itemAt vs k = some v) : bItem (.ref a) (.int k) Q hp = Q v hp := by
  refine propext ⟨fun q => ?_, fun q => ⟨_, rfl, ?_⟩⟩
  · obtain ⟨j, e, q⟩ := q; cases e; dsimp only at q; rw [h1] at q; obtain ⟨_, u, e, q⟩ := q; cases h.symm.trans e; exact q
  · dsimp only; rw [h1]; exact ⟨hl, v, h, q⟩
theorem len_ref {a : Addr} {vs : List V} (h1 : hp a = some (.lst vs)) (hl : vs.length ≤ lim) : dLen [.ref a] Q XE hp = Q (.int vs.length) hp := by
  have e : lenOf hp (.ref a) = some vs.length := congrArg (fun o => match o with | some (O.dict es _) => some es.length | some (.lst vs) => some vs.length | _ => Option.none) h1
  exact (exL1.trans (exOf e)).trans (propext (and_iff_right hl))
theorem tupL_ref {a : Addr} {vs : List V} (h1 : hp a = some (.lst vs)) (hl : vs.length ≤ lim) : dTupL [.ref a] Q XE hp = Q (.tup vs) hp := by
  exact (exL1.trans (exOf (listOf_ref h1))).trans (propext (and_iff_right hl))
theorem setI_list {a : Addr} {vs : List V} {k : Nat} {v : V} {K : Hp → Prop} (h1 : hp a = some (.lst vs)) (hk : k < vs.length) (hl : vs.length ≤ lim) : bSetI (.ref a) (.int k) v K hp = K (upd hp a (.lst (vs.set k v))) := by
  refine propext ⟨fun q => ?_, fun q => ⟨_, _, rfl, rfl, ?_⟩⟩
  · obtain ⟨b, j, e, e', q⟩ := q; cases e; cases e'; rw [h1] at q; exact q.2.2.2
  · rw [h1]; exact ⟨Int.natCast_nonneg k, Int.ofNat_lt.mpr hk, hl, q⟩
end
end Mine
namespace Mine
noncomputable def nxt (b : DS) (Q : Fw → Loc → Hp → Prop) (X : XS) : Fw → Loc → Hp → Prop := fun w l h => match w with | .next => b Q X l h | w => Q w l h
theorem us {α : Type} {f : Nat → Option α} {i : Nat} {v : α} : upd f i v i = some v := upd_same ..
section
variable {a b : DS} {Q : Fw → Loc → Hp → Prop} {X : XS} {l : Loc} {hp : Hp}
theorem sq (h : a (nxt b Q X) X l hp) : sSeq a b Q X l hp := h
theorem nx (h : b Q X l hp) : nxt b Q X .next l hp := h
theorem nxr {v : V} (h : Q (.ret v) l hp) : nxt b Q X (.ret v) l hp := h
theorem nsq {c : DS} (h : a (nxt c Q X) X l hp) : nxt (sSeq a c) Q X .next l hp := h
end
theorem nsk {Q : Fw → Loc → Hp → Prop} {X : XS} {l : Loc} {hp : Hp} (h : Q .next l hp) : nxt sSkip Q X .next l hp := h
theorem wb_set {i : Nat} {v : V} {Q : Fw → Loc → Hp → Prop} {X : XS} {loc : Loc} {hp : Hp} (q : Q .next (upd loc i v) hp) : sAsg (dCon v) (gVar i) Q X loc hp := q
end Mine
namespace Mine
noncomputable def Grow (hp hp' : Hp) : Prop := ∀ a o, hp a = some o → hp' a = some o
theorem Grow.refl (hp : Hp) : Grow hp hp := fun _ _ h => h
theorem Grow.trans {a b c : Hp} (x : Grow a b) (y : Grow b c) : Grow a c := fun _ _ h => y _ _ (x _ _ h)
theorem Grow.new {hp : Hp} {a : Addr} {o : O} (h : hp a = Option.none) : Grow hp (upd hp a o) := fun b ob e => by
  rw [upd_ne]; exact e
  rintro rfl; rw [h] at e; cases e
theorem Grow.upd {hp hp' : Hp} {a : Addr} {o : O} (x : Grow hp hp') (h : hp a = Option.none) : Grow hp (upd hp' a o) := fun b ob e => by
  rw [upd_ne]; exact x _ _ e
  rintro rfl; rw [h] at e; cases e
theorem Grow.del {hp hp' : Hp} {a : Addr} (x : Grow hp hp') (h : hp a = Option.none) : Grow hp (del hp' a) := fun b ob e => by
  rw [del_ne]; exact x _ _ e
  rintro rfl; rw [h] at e; cases e
theorem Grow.back {hp hp' : Hp} {a : Addr} (x : Grow hp hp') (h : hp' a = Option.none) : hp a = Option.none := by
  cases q : hp a with
  | none => rfl
  | some o => have := x _ _ q; rw [h] at this; cases this
theorem lim2 (n : Nat) (h : n ≤ 1000) : n ≤ lim := by unfold lim; omega
theorem cut_key (vs : List V) : ∀ (n m : Nat), m + n ≤ vs.length → (List.range n).filterMap ((fun x => vs[x]?) ∘ fun x => m + x) = (vs.drop m).take n := by
  intro n
  induction n with
  | zero => intro m _; rfl
  | succ n ih =>
    intro m hm
    rw [List.range_succ, List.filterMap_append, ih m (by omega), List.take_add_one]
    congr 1
    have : m + n < vs.length := by omega
    simp [List.getElem?_eq_getElem this]
theorem cut_take (vs : List V) (k : Nat) : cutV vs Option.none (some (k : Int)) Option.none = vs.take k := by
  unfold cutV
  rw [sliceBounds_plain]
  simp only [Option.elim]
  rw [sliceRange_one]
  have : clipAt vs.length (k : Int) = min k vs.length := by unfold clipAt; split <;> omega
  rw [this, List.filterMap_map, cut_key _ _ _ (by omega)]
  simp only [Nat.sub_zero, List.drop_zero]
  exact List.take_eq_take_min.symm
theorem cut_rev (vs : List V) : cutV vs Option.none Option.none (some (-1)) = vs.reverse := by
  unfold cutV
  rw [krv_bounds]
  simp only []
  rw [krv_sliceRange]
  apply List.ext_getElem?
  intro i
  rw [List.filterMap_map]
  by_cases h : i < vs.length
  · rw [List.getElem?_reverse h]
    have : ∀ n, n ≤ vs.length → ((List.range n).filterMap ((fun x => vs[x]?) ∘ fun k => vs.length - 1 - k)) = (List.range n).map fun k => vs[vs.length - 1 - k]?.getD .none := by
      intro n hn
      induction n with
      | zero => rfl
      | succ n ih =>
        rw [List.range_succ, List.filterMap_append, List.map_append, ih (by omega)]
        congr 1
        have : vs.length - 1 - n < vs.length := by omega
        simp [List.getElem?_eq_getElem this]
    rw [this _ (Nat.le_refl _)]
    rw [List.getElem?_map, List.getElem?_range h]
    have : vs.length - 1 - i < vs.length := by omega
    simp [List.getElem?_eq_getElem this]
  · rw [List.getElem?_eq_none (l := vs.reverse) (by simp; omega), List.getElem?_eq_none]
    refine Nat.le_trans (List.length_filterMap_le _ _) ?_
    simp; omega
theorem cut_drop (vs : List V) (k : Nat) : cutV vs (some (k : Int)) Option.none Option.none = vs.drop k := by
  unfold cutV
  rw [sliceBounds_plain]
  simp only [Option.elim]
  rw [sliceRange_one]
  have : clipAt vs.length (k : Int) = min k vs.length := by unfold clipAt; split <;> omega
  rw [this, List.filterMap_map]
  rw [cut_key _ _ _ (by omega)]
  by_cases h : k ≤ vs.length
  · rw [Nat.min_eq_left h, List.take_of_length_le]; simp
  · rw [Nat.min_eq_right (by omega), List.drop_of_length_le (by omega : vs.length ≤ k)]; simp
theorem cLp_map {α : Type} (enc : α → V) (p : α → Bool) (g : α → V) {v : V} {hp0 : Hp} {t : DA} {f : DT} {inner : CD} {K : List V → Hp → Prop} {loc : Loc} : ∀ (xs : List α) (acc : List V) (hp : Hp), acc.length + xs.length ≤ lim → (∀ hp', Grow hp hp' → same v hp0 hp') →
    (∀ x ∈ xs, ∀ hp1, Grow hp hp1 → ∀ (acc : List V), acc.length ≤ lim → ∀ (R : List V → Hp → Prop), (∀ hp2, Grow hp1 hp2 → R (if p x then acc ++ [g x] else acc) hp2) →
      t (enc x) (fun loc1 hp2 => f (fun b hp3 => if b then inner R acc loc1 hp3 else R acc hp3) noXA loc1 hp2) noX loc hp1) →
    (∀ hp2, Grow hp hp2 → K (acc ++ (xs.filter p).map g) hp2) → cLp v hp0 t f inner K (xs.map enc) acc loc hp
  | [], acc, hp, _, _, _, h => by simpa [cLpN] using h hp (.refl _)
  | x :: xs, acc, hp, hl, hs, st, h => by
    rw [List.map_cons, cLpC]
    have hl' : acc.length + (xs.length + 1) ≤ lim := hl
    refine st x List.mem_cons_self hp (.refl _) acc (by omega) (fun acc' hp3 => same v hp0 hp3 ∧ cLp v hp0 t f inner K (xs.map enc) acc' loc hp3) fun hp2 g2 => ⟨hs _ g2, ?_⟩
    refine cLp_map enc p g xs _ hp2 ?_ (fun hp' k => hs _ (g2.trans k)) (fun u' hu hp1 k => st u' (List.mem_cons_of_mem _ hu) hp1 (g2.trans k)) fun hp3 k => ?_
    · split
      · simp only [List.length_append, List.length_cons, List.length_nil]; omega
      · omega
    · have := h hp3 (g2.trans k)
      rw [List.filter_cons] at this
      split
      · rename_i c; simpa [c] using this
      · rename_i c; simpa [c] using this
theorem cLp_pure {α : Type} (enc : α → V) (p : α → Bool) (g : α → V) {v : V} {hp0 : Hp} {t : DA} {f : DT} {inner : CD} {K : List V → Hp → Prop} {loc : Loc} : ∀ (xs : List α) (acc : List V) (hp : Hp), acc.length + xs.length ≤ lim → same v hp0 hp →
    (∀ x ∈ xs, ∀ (acc : List V), acc.length ≤ lim → ∀ (R : List V → Hp → Prop), R (if p x then acc ++ [g x] else acc) hp →
      t (enc x) (fun loc1 hp2 => f (fun b hp3 => if b then inner R acc loc1 hp3 else R acc hp3) noXA loc1 hp2) noX loc hp) →
    K (acc ++ (xs.filter p).map g) hp → cLp v hp0 t f inner K (xs.map enc) acc loc hp
  | [], acc, hp, _, _, _, h => by simpa [cLpN] using h
  | x :: xs, acc, hp, hl, hs, st, h => by
    rw [List.map_cons, cLpC]
    have hl' : acc.length + (xs.length + 1) ≤ lim := hl
    refine st x List.mem_cons_self acc (by omega) (fun acc' hp3 => same v hp0 hp3 ∧ cLp v hp0 t f inner K (xs.map enc) acc' loc hp3) ⟨hs, ?_⟩
    refine cLp_pure enc p g xs _ hp ?_ hs (fun u' hu => st u' (List.mem_cons_of_mem _ hu)) ?_
    · split
      · simp only [List.length_append, List.length_cons, List.length_nil]; omega
      · omega
    · rw [List.filter_cons] at h
      split
      · rename_i c; simpa [c] using h
      · rename_i c; simpa [c] using h
theorem iter_rng {hp : Hp} {lo hi : Int} (h : -(2 ^ 40) < lo) (h2 : hi < 2 ^ 40) : iterOf hp (.rng lo hi) = some (rngList lo hi) := by
  refine if_pos ?_
  by_cases q : hi ≤ lo
  · exact .inr q
  · left
    have hz : Builtin.Range.rangeSize lo hi 1 = hi - lo := by unfold Builtin.Range.rangeSize; simp; omega
    simp [Builtin.Range.small, hz, Builtin.Range.rangeFitsLong]
    omega
theorem rng_nat (n : Nat) : rngList 0 n = (List.range n).map fun k => .int (k : Nat) := by
  unfold rngList
  simp
end Mine
namespace Mine
noncomputable def cl : List Nat → Nat
  | [] => 0
  | r :: rs => max (r + 1) (cl rs)
noncomputable def cnt (rows : List Nat) : List Int := (List.range (cl rows)).map fun j => (rows.count j : Int)
noncomputable def nOf (rows : List Nat) (b : Nat) : Nat := (rows.map (· + 1)).sum + b
noncomputable def parse : List Nat → List Nat → Nat → List Nat × Nat
  | [], rows, b => (rows, b)
  | c :: l, rows, b => if c = 32 then parse l rows (b + 1) else if c = 9 then parse l (rows ++ [b]) 0 else (rows, b)
theorem cl_append (rows rs : List Nat) : cl (rows ++ rs) = max (cl rows) (cl rs) := by
  induction rows with
  | nil => simp [cl]
  | cons r rows ih => rw [List.cons_append, cl, cl, ih, Nat.max_assoc]
theorem cl_snoc (rows : List Nat) (b : Nat) : cl (rows ++ [b]) = max (cl rows) (b + 1) := by simp [cl_append, cl]
theorem cl_le : ∀ (rows : List Nat) (r : Nat), r ∈ rows → r + 1 ≤ cl rows
  | r' :: rows, r, h => by
    simp only [cl]
    rcases List.mem_cons.mp h with h | h
    · subst h; lia
    · have := cl_le rows r h; lia
theorem cnt_len (rows : List Nat) : (cnt rows).length = cl rows := by simp [cnt]
theorem cnt_step {rows : List Nat} {b : Nat} {c : List Int} (hl : c.length = max (cl rows) (b + 1)) (hc : ∀ j x, c[j]? = some x → x = (rows.count j : Int)) {x : Int} (hx : c[b]? = some x) : c.set b (x + 1) = cnt (rows ++ [b]) := by
  apply List.ext_getElem?
  intro j
  unfold cnt
  rw [cl_snoc, ← hl, List.getElem?_map]
  by_cases hj : j < c.length
  · rw [List.getElem?_range hj]
    by_cases q : b = j
    · subst q
      rw [List.getElem?_set_self hj, hc b x hx]
      simp
    · rw [List.getElem?_set_ne q]
      have := hc j c[j] (List.getElem?_eq_getElem hj)
      rw [List.getElem?_eq_getElem hj, this]
      simp [List.count_append, List.count_cons, q]
  · rw [List.getElem?_eq_none (by simpa using hj)]
    rw [List.getElem?_eq_none (by simpa using hj)]; rfl
theorem cnt_get {rows : List Nat} {j : Nat} {x : Int} (h : (cnt rows)[j]? = some x) : x = (rows.count j : Int) := by
  unfold cnt at h
  rw [List.getElem?_map] at h
  by_cases hj : j < cl rows
  · rw [List.getElem?_range hj] at h; simpa using h.symm
  · rw [List.getElem?_eq_none (by simpa using hj)] at h; cases h
theorem count_big {rows : List Nat} {j : Nat} (h : cl rows ≤ j) : rows.count j = 0 := by
  apply List.count_eq_zero.mpr
  intro hm
  have := cl_le rows j hm
  lia
theorem cnt_pad {rows : List Nat} {k j : Nat} {x : Int} (h : (cnt rows ++ List.replicate k 0)[j]? = some x) : x = (rows.count j : Int) := by
  by_cases hj : j < (cnt rows).length
  · rw [List.getElem?_append_left hj] at h; exact cnt_get h
  · rw [List.getElem?_append_right (by lia)] at h
    rw [count_big (by rw [cnt_len] at hj; lia)]
    have := List.mem_of_getElem? h
    simp at this
    simp [this.2]
theorem nOf_sp (rows : List Nat) (b : Nat) : nOf rows (b + 1) = nOf rows b + 1 := by simp [nOf]; lia
theorem nOf_tab (rows : List Nat) (b : Nat) : nOf (rows ++ [b]) 0 = nOf rows b + 1 := by simp [nOf]; lia
theorem eq_chr {Q : V → Hp → Prop} {hp : Hp} {c d : Nat} (hc : c < 128) (hd : d < 128) : bEq (.str [c]) (.str [d]) Q hp = Q (.bool (decide (c = d))) hp := by
  have e : PyData.eqv (.str ⟨[c].toArray⟩) (.str ⟨[d].toArray⟩) = decide (c = d) := by
    show ((⟨[c].toArray⟩ : Str) == ⟨[d].toArray⟩) = _
    by_cases h : c = d
    · subst h; simp
    · simp [h]
  have sh : ∀ c, c < 128 → SeqAt.shaped (.str ⟨[c].toArray⟩) = true := by
    intro c h
    simp [SeqAt.shaped, PyData.canLay0, PyData.depth, PyData.strOk]
    lia
  apply propext; constructor
  · rintro ⟨x, y, h1, h2, _, _, h⟩
    cases h1; cases h2; rw [← e]; exact h
  · intro h; exact ⟨_, _, rfl, rfl, sh c hc, sh d hd, by rw [e]; exact h⟩
structure WI (hpI : Hp) (x dd : Addr) (raw : List Nat) (rows : List Nat) (b : Nat) (loc : Loc) (hp : Hp) (a : Addr) : Prop where
  l0 : loc 0 = some (.ref x)
  l27 : loc 27 = some (.str [32])
  l28 : loc 28 = some (.str [9])
  l29 : loc 29 = some (.ref a)
  l30 : loc 30 = some (.int b)
  l31 : loc 31 = some (.int (nOf rows b))
  l32 : loc 32 = some (.int rows.length)
  ha : hp a = some (.lst ((cnt rows).map .int))
  na : hpI a = Option.none
  gr : Grow hpI hp
theorem wb_inc {i : Nat} {n : Int} {Q : Fw → Loc → Hp → Prop} {X : XS} {loc : Loc} {hp : Hp} (h : loc i = some (.int n)) (q : Q .next (upd loc i (.int (n + 1))) hp) : sAsg (dBin bAdd (dVar i) (dCon (.int 1))) (gVar i) Q X loc hp := by
  rw [e_sAsg, e_dBin, e_dVar, rd h]; exact q
theorem wb_if {i c k : Nat} {a b : DS} {Q : Fw → Loc → Hp → Prop} {X : XS} {loc : Loc} {hp : Hp} (hc : c < 128) (hk : k < 128) (h33 : loc 33 = some (.str [c])) (h : loc i = some (.str [k])) : sIf (tBin bEq (dVar 33) (dVar i)) a b Q X loc hp = if c = k then a Q X loc hp else b Q X loc hp := by
  simp only [e_sIf, e_tBin, e_dVar, rd h33, rd h, eq_chr hc hk, ex_bool, decide_eq_true_eq]
theorem wb_grow {Q : Fw → Loc → Hp → Prop} {X : XS} {hpI hp : Hp} {a : Addr} {rows : List Nat} {b : Nat} {loc : Loc} (hb : b ≤ 10000) (hz2 : cl rows ≤ 10000) (l29 : loc 29 = some (.ref a)) (l30 : loc 30 = some (.int b)) (ha : hp a = some (.lst ((cnt rows).map .int))) (na : hpI a = Option.none) (gr : Grow hpI hp)
    (q : ∀ loc' hp' a' (c : List Int), (∀ i, i ≠ 29 → loc' i = loc i) → loc' 29 = some (.ref a') → hp' a' = some (.lst (c.map .int)) → c.length = max (cl rows) (b + 1) → (∀ j x, c[j]? = some x → x = (rows.count j : Int)) → hpI a' = Option.none → Grow hpI hp' → Q .next loc' hp') :
    sIf (tBin (bCmp fun a b => decide (b ≤ a)) (dVar 30) (dCall dLen (aCons (dVar 29) aNil))) (sSeq (sAsg (dBin bAddN (dVar 29) (dBin bMulA (dLst (aCons (dCon (.int 0)) aNil)) (dBin bAdd (dBin (bInt (· - ·)) (dVar 30) (dCall dLen (aCons (dVar 29) aNil))) (dCon (.int 1))))) (gVar 29)) sSkip) sSkip Q X loc hp := by
  have hlim : ((cnt rows).map V.int).length ≤ lim := by rw [List.length_map, cnt_len]; unfold lim; lia
  have hlen : ((cnt rows).map V.int).length = cl rows := by rw [List.length_map, cnt_len]
  simp only [e_sIf, e_tBin, e_dVar, rd l29, rd l30, e_dCall, e_aCons, e_aNil, len_ref ha hlim, hlen, e_bCmp, ex_bool, decide_eq_true_eq]
  split
  · rename_i hge
    obtain ⟨k, hk⟩ : ∃ k : Nat, (b : Int) - (cl rows : Int) + 1 = (k : Int) ∧ cl rows + k = b + 1 := ⟨b + 1 - cl rows, by lia, by lia⟩
    refine sq ?_
    simp only [e_sAsg, e_dBin, e_dVar, rd l29, rd l30, e_dLst, e_dCall, e_aCons, e_dCon, e_aNil, len_ref ha hlim, hlen, e_bInt, e_bAdd, e_bMulL, e_gVar, hk.1]
    refine ⟨lim2 _ (by decide), by lia, by lia, by simp; unfold lim; lia, (cnt rows).map .int, _, listOf_ref ha, rfl, by simp [cnt_len]; unfold lim; lia, fun l hln => nsk ?_⟩
    refine q _ _ l (cnt rows ++ List.replicate k 0) (fun i hi => upd_ne hi) us (us.trans ?_) ?_ (fun j x h => cnt_pad h) (gr.back hln) (gr.upd (gr.back hln))
    · simp
    · rw [List.length_append, List.length_replicate, cnt_len]; lia
  · exact q loc hp a (cnt rows) (fun _ _ => rfl) l29 ha (by rw [cnt_len]; lia) (fun j x h => cnt_get h) na gr
theorem wb_put {Q : Fw → Loc → Hp → Prop} {X : XS} {hp : Hp} {a : Addr} {rows : List Nat} {b : Nat} {loc : Loc} {c : List Int} (hb : b ≤ 10000) (hz2 : cl rows ≤ 10000) (l29 : loc 29 = some (.ref a)) (l30 : loc 30 = some (.int b)) (ha : hp a = some (.lst (c.map .int)))
    (hl : c.length = max (cl rows) (b + 1)) (hc : ∀ j x, c[j]? = some x → x = (rows.count j : Int)) (q : Q .next loc (upd hp a (.lst ((cnt (rows ++ [b])).map .int)))) :
    sAsg (dBin bAdd (dBin bItem (dVar 29) (dVar 30)) (dCon (.int 1))) (gItem (dVar 29) (dVar 30)) Q X loc hp := by
  have hlim : (c.map V.int).length ≤ lim := by rw [List.length_map]; unfold lim; lia
  have hbl : b < c.length := by lia
  have hi : itemAt (c.map V.int) (b : Int) = some (.int c[b]) := by
    unfold itemAt
    rw [if_pos (Int.natCast_nonneg b), Int.toNat_natCast, List.getElem?_map, List.getElem?_eq_getElem hbl]; rfl
  rw [e_sAsg, e_dBin, e_dBin, e_dVar, rd l29, e_dVar, rd l30, item_list ha hlim hi, e_dCon, e_bAdd, e_gItem, e_dVar, rd l29, e_dVar, rd l30, setI_list ha (by rw [List.length_map]; exact hbl) hlim]
  rw [← cnt_step hl hc (List.getElem?_eq_getElem hbl), List.map_set] at q
  exact q
theorem ws_body {R : Fw → Loc → Hp → Prop} {X : XS} {hpI hp : Hp} {x dd a : Addr} {raw rows : List Nat} {b c : Nat} {loc : Loc} (hc : c < 128) (w : WI hpI x dd raw rows b loc hp a) (h33 : loc 33 = some (.str [c])) (hz : nOf rows b ≤ 10000)
    (hz2 : cl rows ≤ 10000)
    (q : ∀ loc' hp' a', WI hpI x dd raw (if c = 32 then rows else if c = 9 then rows ++ [b] else rows) (if c = 32 then b + 1 else if c = 9 then 0 else b) loc' hp' a' → R (if c = 32 ∨ c = 9 then .next else .brk) loc' hp') : L_Whitespace_init_1 R X loc hp := by
  have hb : b ≤ 10000 := Nat.le_trans (Nat.le_add_left _ _) hz
  unfold L_Whitespace_init_1
  refine sq ?_
  rw [wb_if hc (by decide) h33 w.l27]
  by_cases c1 : c = 32
  · rw [if_pos c1]
    rw [if_pos c1, if_pos c1, if_pos (.inl c1)] at q
    refine sq (wb_inc w.l31 (nsq (wb_inc ((upd_ne (by decide)).trans w.l30) (nsk (nsk ?_)))))
    have o : ∀ i, i ≠ 31 → i ≠ 30 → upd (upd loc 31 (.int (nOf rows b + 1))) 30 (.int ((b : Int) + 1)) i = loc i := fun i h1 h2 => (upd_ne h2).trans (upd_ne h1)
    exact q _ _ a ⟨(o _ (by decide) (by decide)).trans w.l0, (o _ (by decide) (by decide)).trans w.l27, (o _ (by decide) (by decide)).trans w.l28, (o _ (by decide) (by decide)).trans w.l29, us, (upd_ne (by decide)).trans (us.trans (by rw [nOf_sp]; rfl)), (o _ (by decide) (by decide)).trans w.l32, w.ha, w.na, w.gr⟩
  · rw [if_neg c1]
    rw [if_neg c1, if_neg c1] at q
    refine sq ?_
    rw [wb_if hc (by decide) h33 w.l28]
    by_cases c2 : c = 9
    · rw [if_pos c2]
      rw [if_pos c2, if_pos c2, if_pos (.inr c2)] at q
      refine sq (wb_inc w.l31 (nsq (wb_inc ((upd_ne (by decide)).trans w.l32) (nsq ?_))))
      have o : ∀ i, i ≠ 31 → i ≠ 32 → upd (upd loc 31 (.int (nOf rows b + 1))) 32 (.int ((rows.length : Int) + 1)) i = loc i := fun i h1 h2 => (upd_ne h2).trans (upd_ne h1)
      refine wb_grow hb hz2 ((o _ (by decide) (by decide)).trans w.l29) ((o _ (by decide) (by decide)).trans w.l30) w.ha w.na w.gr fun loc1 hp1 a1 cc f f29 h1 h2 h3 h4 h5 => nsq ?_
      have o2 : ∀ i, i ≠ 29 → i ≠ 31 → i ≠ 32 → loc1 i = loc i := fun i h0 h1 h2 => (f i h0).trans (o i h1 h2)
      refine wb_put hb hz2 f29 ((o2 _ (by decide) (by decide) (by decide)).trans w.l30) h1 h2 h3 (nsq (wb_set (nsk (nsk (nsk ?_)))))
      have o3 : ∀ i, i ≠ 30 → i ≠ 29 → i ≠ 31 → i ≠ 32 → upd loc1 30 (.int 0) i = loc i := fun i hh h0 h1 h2 => (upd_ne hh).trans (o2 i h0 h1 h2)
      exact q _ _ a1 ⟨(o3 _ (by decide) (by decide) (by decide) (by decide)).trans w.l0, (o3 _ (by decide) (by decide) (by decide) (by decide)).trans w.l27, (o3 _ (by decide) (by decide) (by decide) (by decide)).trans w.l28, (upd_ne (by decide)).trans f29, us,
        (upd_ne (by decide)).trans ((f _ (by decide)).trans ((upd_ne (by decide)).trans (us.trans (by rw [nOf_tab]; rfl)))), (upd_ne (by decide)).trans ((f _ (by decide)).trans (us.trans (by rw [List.length_append]; rfl))), us, h4, h5.upd h4⟩
    · rw [if_neg c2]
      rw [if_neg c2, if_neg c2, if_neg (fun z => z.elim c1 c2)] at q
      exact q _ _ a w
theorem cl_le_n : ∀ rows : List Nat, cl rows ≤ (rows.map (· + 1)).sum
  | [] => by simp [cl]
  | r :: rows => by have := cl_le_n rows; simp only [cl, List.map_cons, List.sum_cons]; lia
theorem ws_loop {Q : Fw → Loc → Hp → Prop} {v : V} {hp0 hpI : Hp} {x dd : Addr} {raw : List Nat} (hv : ∀ h h', same v h h') : ∀ (l rows : List Nat) (b : Nat) (loc : Loc) (hp : Hp) (a : Addr), (∀ c ∈ l, c < 128) → nOf rows b + l.length ≤ 10000 → WI hpI x dd raw rows b loc hp a →
    (∀ loc' hp' a', WI hpI x dd raw (parse l rows b).1 (parse l rows b).2 loc' hp' a' → Q .next loc' hp') → fLoop v hp0 (gVar 33) L_Whitespace_init_1 Q (l.map fun c => .str [c]) loc hp
  | [], rows, b, loc, hp, a, _, _, w, q => by exact q loc hp a w
  | c :: l, rows, b, loc, hp, a, h, hz, w, q => by
    rw [List.map_cons, fLoopC, e_gVar]
    simp only [List.length_cons] at hz
    have w' : WI hpI x dd raw rows b (upd loc 33 (.str [c])) hp a := ⟨by simp [upd, w.l0], by simp [upd, w.l27], by simp [upd, w.l28], by simp [upd, w.l29], by simp [upd, w.l30], by simp [upd, w.l31], by simp [upd, w.l32], w.ha, w.na, w.gr⟩
    have hcl := cl_le_n rows
    refine ws_body (c := c) (h c List.mem_cons_self) w' (by simp) (by lia) (by unfold nOf at hz; lia) fun loc' hp' a' w2 => ?_
    have h' : ∀ c ∈ l, c < 128 := fun d hd => h d (List.mem_cons_of_mem _ hd)
    by_cases c1 : c = 32
    · simp only [c1, if_true, true_or] at w2 ⊢
      refine ⟨hv _ _, ws_loop hv l rows (b + 1) loc' hp' a' h' (by rw [nOf_sp]; lia) w2 fun loc2 hp2 a2 w3 => q loc2 hp2 a2 ?_⟩
      simpa [parse, c1] using w3
    · by_cases c2 : c = 9
      · simp only [c1, c2, if_true, or_true, if_false] at w2 ⊢
        rw [if_neg (by decide), if_neg (by decide)] at w2
        refine ⟨hv _ _, ws_loop hv l (rows ++ [b]) 0 loc' hp' a' h' (by rw [nOf_tab]; lia) w2 fun loc2 hp2 a2 w3 => q loc2 hp2 a2 ?_⟩
        simpa [parse, c1, c2] using w3
      · simp only [c1, c2, or_self, if_false] at w2 ⊢
        refine q loc' hp' a' ?_
        simpa [parse, c1, c2] using w2
noncomputable def wFs (l rows : List Nat) (b : Nat) : List (Nat × V) := [(26, .str l), (31, .int (nOf rows b)), (32, .int rows.length), (34, .tup [.tup ((cnt rows).map .int), .int b]), (35, .bool (decide (cl rows ≤ 1)))]
noncomputable def wObj (l rows : List Nat) (b : Nat) : V := .obj cW (wFs l rows b)
theorem nOf_parse : ∀ (l rows : List Nat) (b : Nat), nOf (parse l rows b).1 (parse l rows b).2 ≤ nOf rows b + l.length
  | [], rows, b => by simp [parse]
  | c :: l, rows, b => by
    unfold parse
    split
    · have := nOf_parse l rows (b + 1); rw [nOf_sp] at this; simp only [List.length_cons]; lia
    · split
      · have := nOf_parse l (rows ++ [b]) 0; rw [nOf_tab] at this; simp only [List.length_cons]; lia
      · simp only [List.length_cons]; lia
theorem wi_set {j : Nat} {v : V} {fs : List (Nat × V)} {Q : Fw → Loc → Hp → Prop} {X : XS} {loc : Loc} {Z : Hp} {x dd : Addr} {e : DE} (hne : x ≠ dd) (hx : Z x = some (.inst cW dd)) (hl : fs.length ≤ 10) (h0 : loc 0 = some (.ref x))
    (he : ∀ (K : V → Hp → Prop) (X : XA), e K X loc (upd Z dd (.ns fs)) = K v (upd Z dd (.ns fs))) (q : Q .next loc (upd Z dd (.ns (fSet fs j v)))) : sAsg e (gSet (bSetA cW j) (dVar 0)) Q X loc (upd Z dd (.ns fs)) := by
  have uu : upd (upd Z dd (.ns fs)) dd (.ns (fSet fs j v)) = upd Z dd (.ns (fSet fs j v)) := by funext k; simp only [upd]; split <;> rfl
  rw [e_sAsg, he, e_gSet, e_dVar, rd h0, setA_ref ((upd_ne hne).trans hx) us (by lia), uu]
  exact q
theorem wi_end {Q : Fw → Loc → Hp → Prop} {X : XS} {loc : Loc} {hp : Hp} {x dd a : Addr} {l rows : List Nat} {b : Nat} (hne : x ≠ dd) (hax : a ≠ dd) (hcl : cl rows ≤ 10000)
    (l0 : loc 0 = some (.ref x)) (l29 : loc 29 = some (.ref a)) (l30 : loc 30 = some (.int b)) (l31 : loc 31 = some (.int (nOf rows b))) (l32 : loc 32 = some (.int rows.length)) (hx : hp x = some (.inst cW dd)) (hd : hp dd = some (.ns [(26, .str l)])) (ha : hp a = some (.lst ((cnt rows).map .int)))
    (q : Q .next loc (upd hp dd (.ns (wFs l rows b)))) :
    sSeq (sAsg (dVar 31) (gSet (bSetA cW 31) (dVar 0))) (sSeq (sAsg (dVar 32) (gSet (bSetA cW 32) (dVar 0))) (sSeq (sAsg (dTup (aCons (dCall dTupL (aCons (dVar 29) aNil)) (aCons (dVar 30) aNil))) (gSet (bSetA cW 34) (dVar 0)))
      (sSeq (sAsg (dBin (bCmp fun a b => decide (a ≤ b)) (dCall dLen (aCons (dVar 29) aNil)) (dCon (.int 1))) (gSet (bSetA cW 35) (dVar 0))) sSkip))) Q X loc hp := by
  have hlim : ((cnt rows).map V.int).length ≤ lim := by rw [List.length_map, cnt_len]; unfold lim; lia
  have m3 : ∀ o, (upd hp dd o) a = some (.lst ((cnt rows).map .int)) := fun o => (upd_ne hax).trans ha
  have e0 : hp = upd hp dd (.ns [(26, .str l)]) := by
    funext k
    by_cases z : k = dd
    · subst z; rw [us]; exact hd
    · rw [upd_ne z]
  rw [e0]
  refine sq (wi_set hne hx (of_decide_eq_true rfl) l0 (fun K X => by rw [e_dVar, rd l31]) (nsq (wi_set hne hx (of_decide_eq_true rfl) l0 (fun K X => by rw [e_dVar, rd l32]) (nsq (wi_set hne hx (of_decide_eq_true rfl) l0 (v := .tup [.tup ((cnt rows).map .int), .int b]) (fun K X => ?_) (nsq (wi_set hne hx (of_decide_eq_true rfl) l0 (v := .bool (decide (cl rows ≤ 1))) (fun K X => ?_) (nsk ?_))))))))
  · simp only [e_dTup, e_aCons, e_dCall, e_dVar, rd l29, rd l30, e_aNil, tupL_ref (m3 _) hlim, List.length_cons, List.length_nil]
    exact propext (and_iff_right (lim2 _ (by decide)))
  · simp only [e_dBin, e_dCall, e_aCons, e_dVar, rd l29, e_aNil, len_ref (m3 _) hlim, e_dCon, e_bCmp, List.length_map, cnt_len]
    rw [show decide ((cl rows : Int) ≤ 1) = decide (cl rows ≤ 1) by by_cases h : cl rows ≤ 1 <;> simp <;> lia]
  · exact q
theorem c_ws {Q : V → Hp → Prop} {X : XA} {l : List Nat} {hp : Hp} (h : ∀ c ∈ l, c < 128) (hl : l.length ≤ 10000) (q : ∀ hp', Grow hp hp' → Q (wObj l (parse l [] 0).1 (parse l [] 0).2) hp') : dMakeF cW C_Whitespace_init [.str l] Q X hp := by
  intro x dd hx hd hne
  refine ⟨[(0, .ref x), (25, .str l)], by simp [bdPos], ?_⟩
  unfold D_Whitespace_init
  generalize hlo : locOf [(0, V.ref x), (25, V.str l)] = lo
  have o0 : lo 0 = some (.ref x) := by rw [← hlo]; simp [locOf_cons, upd]
  have o25 : lo 25 = some (.str l) := by rw [← hlo]; simp [locOf_cons, upd]
  have e1 : (upd (upd hp dd (.ns [])) x (.inst cW dd)) x = some (.inst cW dd) := us
  have e2 : (upd (upd hp dd (.ns [])) x (.inst cW dd)) dd = some (.ns []) := (upd_ne (Ne.symm hne)).trans us
  refine sq ?_
  rw [e_sAsg, e_dVar, rd o25, e_gSet, e_dVar, rd o0, setA_ref e1 e2 (by simp)]
  generalize hh : upd (upd (upd hp dd (.ns [])) x (.inst cW dd)) dd (.ns (fSet [] 26 (.str l))) = hpI
  have f1 : hpI x = some (.inst cW dd) := by rw [← hh]; exact (upd_ne hne).trans us
  have f2 : hpI dd = some (.ns [(26, .str l)]) := by rw [← hh]; exact us
  have f3 : Grow hp hpI := by
    intro b o e
    have n1 : b ≠ dd := by rintro rfl; rw [hd] at e; cases e
    have n2 : b ≠ x := by rintro rfl; rw [hx] at e; cases e
    rw [← hh, upd_ne n1, upd_ne n2, upd_ne n1]; exact e
  clear hh e1 e2
  refine nsq ?_
  rw [e_sSwap, e_dTup, e_aCons, e_dCon, e_aCons, e_dCon, e_aNil]
  refine ⟨lim2 _ (by decide), _, _, rfl, nsq ?_⟩
  rw [e_sAsg, e_dNew, e_aNil]
  refine ⟨lim2 _ (by decide), fun a ha => ?_⟩
  rw [e_gVar]
  refine nsq ?_
  simp only [e_sAsg3, e_dCon, e_gVar]
  generalize hl1 : upd (upd (upd (upd (upd (upd lo 28 (.str [9])) 27 (.str [32])) 29 (.ref a)) 30 (.int 0)) 31 (.int 0)) 32 (.int 0) = lo1
  have w0 : WI hpI x dd l [] 0 lo1 (upd hpI a (.lst [])) a := by
    rw [← hl1]
    exact ⟨by simp [upd, o0], by simp [upd], by simp [upd], by simp [upd], by simp [upd], by simp [upd, nOf], by simp [upd], us, ha, .new ha⟩
  clear hl1
  have nx1 : x ≠ a := by rintro rfl; rw [ha] at f1; cases f1
  have nx2 : dd ≠ a := by rintro rfl; rw [ha] at f2; cases f2
  refine nsq ?_
  have hit : iterOf (upd hpI a (.lst [])) (.str l) = some (l.map fun c => .str [c]) := by
    exact if_pos (by simpa using h)
  rw [e_sFor, e_dAttr, e_dVar, rd w0.l0, at_ref ((upd_ne nx1).trans f1) ((upd_ne nx2).trans f2) (v := .str l) rfl rfl, it_of hit]
  refine ws_loop (hpI := hpI) (x := x) (dd := dd) (raw := l) (by simp) l [] 0 _ _ a h (by simp [nOf]; lia) w0 fun loc' hp' a' w => nx ?_
  have hn := nOf_parse l [] 0
  generalize (parse l [] 0).1 = rows at *
  generalize (parse l [] 0).2 = b at *
  have hcl : cl rows ≤ 10000 := by
    have := cl_le_n rows
    simp [nOf] at hn; lia
  refine wi_end hne (by rintro rfl; rw [w.na] at f2; cases f2) hcl w.l0 w.l29 w.l30 w.l31 w.l32 (w.gr _ _ f1) (w.gr _ _ f2) w.ha ?_
  have := q (del (del (upd hp' dd (.ns (wFs l rows b))) x) dd) ((((f3.trans w.gr).upd hd).del hx).del hd)
  simpa [wObj, wFs, upd_ne hne] using ⟨w.gr _ _ f1, this⟩
end Mine
namespace Mine
theorem rng_nat2 (a b : Nat) : rngList (a : Int) (b : Int) = (List.range' a (b - a)).map fun j => .int (j : Nat) := by
  unfold rngList
  rw [show ((b : Int) - (a : Int)).toNat = b - a by lia, List.range'_eq_map_range, List.map_map]
  apply List.map_congr_left
  intro k _
  simp
noncomputable def lv (rows : List Nat) (b t : Nat) : Nat := b + t * ((rows.map fun r => r / t).sum + rows.length)
theorem sum_zero : ∀ js : List Nat, (js.map fun _ => 0).sum = 0
  | [] => rfl
  | j :: js => by simpa using sum_zero js
theorem sum_ex (t : Nat) : ∀ (rows js : List Nat), js.Nodup → (∀ r ∈ rows, t ≤ r → r ∈ js) → (∀ j ∈ js, t ≤ j) → (js.map fun j => j / t * rows.count j).sum = (rows.map fun r => r / t).sum
  | [], js, _, _, _ => by
    simp only [List.count_nil, Nat.mul_zero, List.map_nil, List.sum_nil]
    exact sum_zero js
  | r :: rows, js, hn, hm, hj => by
    have ih := sum_ex t rows js hn (fun r hr => hm r (List.mem_cons_of_mem _ hr)) hj
    rw [List.map_cons, List.sum_cons, ← ih]
    have : ∀ js : List Nat, js.Nodup → (js.map fun j => j / t * (r :: rows).count j).sum = (if r ∈ js then r / t else 0) + (js.map fun j => j / t * rows.count j).sum := by
      intro js
      induction js with
      | nil => simp
      | cons j js ih2 =>
        intro hn
        rw [List.nodup_cons] at hn
        rw [List.map_cons, List.sum_cons, ih2 hn.2, List.map_cons, List.sum_cons, List.count_cons]
        by_cases e : r = j
        · subst e
          simp only [beq_self_eq_true, if_true, List.mem_cons, true_or]
          rw [if_neg hn.1, Nat.mul_add]; lia
        · have : (r == j) = false := by simpa using e
          simp only [this, List.mem_cons, e, false_or]
          simp; lia
    rw [this js hn]
    by_cases c : t ≤ r
    · rw [if_pos (hm r List.mem_cons_self c)]
    · rw [if_neg (fun h => c (hj r h))]
      have : r / t = 0 := Nat.div_eq_of_lt (by lia)
      lia
theorem il_loop {Q : Fw → Loc → Hp → Prop} {v : V} {hp0 hp : Hp} {rows : List Nat} {t : Nat} (hv : ∀ h h', same v h h') (ht : 0 < t) (hz : cl rows ≤ 10000) : ∀ (js : List Nat) (il : Nat) (loc : Loc), (∀ j ∈ js, j < cl rows) → loc 29 = some (.tup ((cnt rows).map .int)) → loc 37 = some (.int (t : Nat)) → loc 38 = some (.int (il : Nat)) →
    (∀ loc', (∀ i, i ≠ 18 → i ≠ 38 → loc' i = loc i) → loc' 38 = some (.int ((il + (js.map fun j => j / t * rows.count j).sum : Nat) : Int)) → Q .next loc' hp) → fLoop v hp0 (gVar 18) L_Whitespace_indent_level_1 Q (js.map fun j => .int (j : Nat)) loc hp
  | [], il, loc, _, h29, h37, h38, q => by exact q loc (fun _ _ _ => rfl) (by simpa using h38)
  | j :: js, il, loc, hj, h29, h37, h38, q => by
    rw [List.map_cons, fLoopC, e_gVar]
    have hjc := hj j List.mem_cons_self
    have hi : itemAt ((cnt rows).map V.int) (j : Int) = some (.int (rows.count j : Nat)) := by
      unfold itemAt
      rw [if_pos (by lia)]
      simp [cnt, List.getElem?_range hjc]
    have hlim : ((cnt rows).map V.int).length ≤ lim := by simp [cnt_len]; unfold lim; lia
    have ht0 : ¬ ((t : Int) = 0) := by lia
    have hsm : j < 1073741824 := by lia
    obtain ⟨d, hd⟩ : ∃ d, d = j / t := ⟨_, rfl⟩
    have hfd : (j : Int).fdiv (t : Int) = (d : Int) := by
      rw [Int.fdiv_eq_ediv_of_nonneg _ (by lia), hd]; rfl
    have hdj : d ≤ j := by rw [hd]; exact Nat.div_le_self _ _
    have hsmall : small (d : Int) := ⟨by lia, by lia⟩
    have htn : ¬ t = 0 := by lia
    simp [L_Whitespace_indent_level_1, ↓rd h29, ↓rd h37, ↓rd h38, hi, hfd, htn, hsm, hsmall]
    refine ⟨by simpa using hlim, hv _ _, ?_⟩
    refine il_loop hv ht hz js (il + d * rows.count j) _ (fun k hk => hj k (List.mem_cons_of_mem _ hk)) (by simp [upd, h29]) (by simp [upd, h37]) (by simp [upd]) fun loc' h1 h2 => q loc' (fun i n1 n2 => by rw [h1 i n1 n2, upd_ne n2, upd_ne n1]) ?_
    rw [h2]
    simp only [List.map_cons, List.sum_cons, ← hd]
    congr 3
    lia
theorem nodup_range' (a n : Nat) : (List.range' a n).Nodup := List.nodup_range'
theorem il_bound (t : Nat) (ht : 0 < t) : ∀ rows : List Nat, (rows.map fun r => r / t).sum + rows.length ≤ (rows.map (· + 1)).sum
  | [] => by simp
  | r :: rows => by
    have := il_bound t ht rows
    have := Nat.div_le_self r t
    simp only [List.map_cons, List.sum_cons, List.length_cons]; lia
theorem c_level {Q : V → Hp → Prop} {X : XA} {hp : Hp} {l rows : List Nat} {b t : Nat} (ht : 0 < t) (hz : nOf rows b ≤ 10000) (q : Q (.int (lv rows b t : Nat)) hp) : C_Whitespace_indent_level [wObj l rows b, .int (t : Nat)] Q X hp := by
  refine ⟨[(0, wObj l rows b), (37, .int (t : Nat))], by simp [bdPos], ?_⟩
  have hcl := cl_le_n rows
  have hcl' : cl rows ≤ 10000 := by unfold nOf at hz; lia
  have hlim : ((cnt rows).map V.int).length ≤ lim := by simp [cnt_len]; unfold lim; lia
  have a34 : ∀ (Q : V → Hp → Prop) hp, bAttr cW 34 (wObj l rows b) Q hp = Q (.tup [.tup ((cnt rows).map .int), .int b]) hp := fun Q hp => at_obj rfl rfl
  have a32 : ∀ (Q : V → Hp → Prop) hp, bAttr cW 32 (wObj l rows b) Q hp = Q (.int rows.length) hp := fun Q hp => at_obj rfl rfl
  have hit : iterOf hp (.rng (t : Nat) (((cnt rows).map V.int).length : Nat)) = some ((List.range' t (cl rows - t)).map fun j => .int (j : Nat)) := by
    rw [iter_rng (by lia) (by simp [cnt_len]; lia)]
    rw [show ((cnt rows).map V.int).length = cl rows by simp [cnt_len], rng_nat2]
  simp [D_Whitespace_indent_level, ↓a34, ↓a32]
  refine ⟨by simpa using hlim, ?_⟩
  simp only [List.length_map] at hit
  refine ⟨_, hit, ?_⟩
  refine il_loop (rows := rows) (t := t) (by simp) ht hcl' _ 0 _ ?_ (by simp [upd]) (by simp [upd, locOf_cons]) (by simp) fun loc' h1 h2 => ?_
  · intro j hj
    rw [List.mem_range'_1] at hj; lia
  · have hs := sum_ex t rows (List.range' t (cl rows - t)) (nodup_range' _ _) (fun r hr hle => by rw [List.mem_range'_1]; have := cl_le rows r hr; lia) (fun j hj => by rw [List.mem_range'_1] at hj; exact hj.1)
    rw [hs] at h2
    have e36 : loc' 36 = some (.int b) := by rw [h1 36 (by decide) (by decide)]; simp [upd]
    have e37 : loc' 37 = some (.int (t : Nat)) := by rw [h1 37 (by decide) (by decide)]; simp [upd, locOf_cons]
    have e0 : loc' 0 = some (wObj l rows b) := by rw [h1 0 (by decide) (by decide)]; simp [upd, locOf_cons]
    have hb := il_bound t ht rows
    unfold lv at q
    obtain ⟨d, hd⟩ : ∃ d, d = (rows.map fun r => r / t).sum := ⟨_, rfl⟩
    rw [← hd] at h2 hb q
    have hsmall : small ((d + rows.length : Nat) : Int) := by unfold nOf at hz; exact ⟨by lia, by lia⟩
    simp [rd e36, rd e37, rd h2, rd e0, a32]
    refine ⟨.inr (by simpa using hsmall), ?_⟩
    simpa using q
noncomputable def longN (rows : List Nat) (b : Nat) : Nat := max (cl rows - 1) b
theorem long_nat (c b : Nat) : ((max (c - 1) b : Nat) : Int) = max ((c : Int) - 1) b := by lia
theorem c_long {Q : V → Hp → Prop} {X : XA} {hp : Hp} {l rows : List Nat} {b : Nat} (hz : nOf rows b ≤ 10000) (q : Q (.int (longN rows b : Nat)) hp) : C_Whitespace_longest_run_of_spaces [wObj l rows b] Q X hp := by
  refine ⟨[(0, wObj l rows b)], by simp [bdPos], ?_⟩
  have hcl := cl_le_n rows
  have hlim : cl rows ≤ lim := by unfold nOf at hz; unfold lim; lia
  have a34 : ∀ (Q : V → Hp → Prop) hp, bAttr cW 34 (wObj l rows b) Q hp = Q (.tup [.tup ((cnt rows).map .int), .int b]) hp := fun Q hp => at_obj rfl rfl
  simp [D_Whitespace_longest_run_of_spaces, ↓a34, cnt_len, hlim]
  have : ((longN rows b : Nat) : Int) = max ((cl rows : Int) - 1) b := long_nat _ _
  rwa [this] at q
noncomputable def topN (r1 : List Nat) (b1 : Nat) (r2 : List Nat) (b2 : Nat) : Nat := max (longN r1 b1) (longN r2 b2) + 1
noncomputable def lessP (r1 : List Nat) (b1 : Nat) (r2 : List Nat) (b2 : Nat) : Bool :=
  if nOf r2 b2 ≤ nOf r1 b1 then false else if cl r1 ≤ 1 ∧ cl r2 ≤ 1 then decide (r1.length ≤ r2.length)
  else (List.range' 2 (topN r1 b1 r2 b2 - 1)).all fun t => decide (lv r1 b1 t < lv r2 b2 t)
theorem isW {l rows : List Nat} {b j : Nat} {hp : Hp} (hj : j = 42 ∨ j = 40 ∨ j = 87) : isInst cW j hp (wObj l rows b) := by
  refine ⟨rfl, ?_⟩
  rcases hj with rfl | rfl | rfl <;> simp [wFs]
theorem less_body {R : Fw → Loc → Hp → Prop} {X : XS} {hp : Hp} {l1 r1 l2 r2 : List Nat} {b1 b2 j : Nat} {loc : Loc} (h1 : nOf r1 b1 ≤ 10000) (h2 : nOf r2 b2 ≤ 10000) (hj : 0 < j) (e0 : loc 0 = some (wObj l1 r1 b1)) (e39 : loc 39 = some (wObj l2 r2 b2)) (e41 : loc 41 = some (.int (j : Nat)))
    (q : R (if lv r1 b1 j < lv r2 b2 j then .next else .ret (.bool false)) loc hp) : L_Whitespace_less_1 R X loc hp := by
  simp [L_Whitespace_less_1, ↓rd e0, ↓rd e39, ↓rd e41, isW, -Bool.exists_bool]
  refine c_level hj h1 (c_level hj h2 ?_)
  simp only [e_bCmp, ex_bool]
  by_cases c : lv r1 b1 j < lv r2 b2 j
  · rw [if_pos c] at q
    rw [if_neg (by simp; lia)]; exact q
  · rw [if_neg c] at q
    rw [if_pos (by simp; lia)]; exact q
theorem less_loop {Q : Fw → Loc → Hp → Prop} {v : V} {hp0 hp : Hp} {l1 r1 l2 r2 : List Nat} {b1 b2 : Nat} (hv : ∀ h h', same v h h') (h1 : nOf r1 b1 ≤ 10000) (h2 : nOf r2 b2 ≤ 10000) : ∀ (js : List Nat) (loc : Loc), (∀ j ∈ js, 0 < j) → loc 0 = some (wObj l1 r1 b1) → loc 39 = some (wObj l2 r2 b2) →
    ((js.all fun t => decide (lv r1 b1 t < lv r2 b2 t)) = true → ∀ loc', Q .next loc' hp) → ((js.all fun t => decide (lv r1 b1 t < lv r2 b2 t)) = false → ∀ loc', Q (.ret (.bool false)) loc' hp) → fLoop v hp0 (gVar 41) L_Whitespace_less_1 Q (js.map fun j => .int (j : Nat)) loc hp
  | [], loc, _, e0, e39, q, q2 => by exact q rfl loc
  | j :: js, loc, hj, e0, e39, q, q2 => by
    rw [List.map_cons, fLoopC, e_gVar]
    refine less_body (l1 := l1) (l2 := l2) (j := j) h1 h2 (hj j List.mem_cons_self) (by simp [upd, e0]) (by simp [upd, e39]) (by simp) ?_
    by_cases c : lv r1 b1 j < lv r2 b2 j
    · rw [if_pos c]
      refine ⟨hv _ _, less_loop (l1 := l1) (l2 := l2) hv h1 h2 js _ (fun k hk => hj k (List.mem_cons_of_mem _ hk)) (by simp [upd, e0]) (by simp [upd, e39]) (fun h => q ?_) (fun h => q2 ?_)⟩
      · rw [List.all_cons, h]; simpa using c
      · rw [List.all_cons, h]; simp
    · rw [if_neg c]
      refine q2 ?_ _
      rw [List.all_cons]; simp [c]
theorem longN_le {rows : List Nat} {b : Nat} (h : nOf rows b ≤ 10000) : longN rows b ≤ 10000 :=
  Nat.max_le.mpr ⟨Nat.le_trans (Nat.sub_le _ _) (Nat.le_trans (Nat.le_trans (cl_le_n rows) (Nat.le_add_right _ b)) h), Nat.le_trans (Nat.le_add_left b _) h⟩
theorem max_nat (a b : Nat) : max (a : Int) (b : Int) + 1 = ((max a b + 1 : Nat) : Int) := by lia
theorem cl_top {Q : Fw → Loc → Hp → Prop} {X : XS} {hp : Hp} {loc : Loc} {l1 r1 l2 r2 : List Nat} {b1 b2 : Nat} (h1 : nOf r1 b1 ≤ 10000) (h2 : nOf r2 b2 ≤ 10000) (e0 : loc 0 = some (wObj l1 r1 b1)) (e39 : loc 39 = some (wObj l2 r2 b2))
    (q : Q .next (upd loc 31 (.int (topN r1 b1 r2 b2 : Nat))) hp) :
    sAsg (dBin bAdd (dCall dMax2 (aCons (dMeth (isInst cW 40) C_Whitespace_longest_run_of_spaces (dVar 0) aNil) (aCons (dMeth (isInst cW 40) C_Whitespace_longest_run_of_spaces (dVar 39) aNil) aNil))) (dCon (.int 1))) (gVar 31) Q X loc hp := by
  simp only [e_sAsg, e_dBin, e_dCall, e_aCons, e_dMeth, e_dVar, rd e0, rd e39, e_aNil]
  refine ⟨isW (.inr (.inl rfl)), c_long h1 ⟨isW (.inr (.inl rfl)), c_long h2 ?_⟩⟩
  rw [e_dMax2, e_dCon, e_bAdd, e_gVar, max_nat]
  exact q
theorem cl_loop {Q : Fw → Loc → Hp → Prop} {X : XS} {hp : Hp} {loc : Loc} {l1 r1 l2 r2 : List Nat} {b1 b2 n : Nat} (h1 : nOf r1 b1 ≤ 10000) (h2 : nOf r2 b2 ≤ 10000) (hn : n ≤ 10000) (e0 : loc 0 = some (wObj l1 r1 b1)) (e39 : loc 39 = some (wObj l2 r2 b2)) (e31 : loc 31 = some (.int ((n + 1 : Nat) : Int)))
    (qt : ((List.range' 2 n).all fun t => decide (lv r1 b1 t < lv r2 b2 t)) = true → ∀ loc', Q .next loc' hp) (qf : ((List.range' 2 n).all fun t => decide (lv r1 b1 t < lv r2 b2 t)) = false → ∀ loc', Q (.ret (.bool false)) loc' hp) :
    sFor (dCall dRange2 (aCons (dCon (.int 2)) (aCons (dBin bAdd (dVar 31) (dCon (.int 1))) aNil))) (gVar 41) L_Whitespace_less_1 Q X loc hp := by
  rw [e_sFor, e_dCall, e_aCons, e_dCon, e_aCons, e_dBin, e_dVar, rd e31, e_dCon, e_bAdd, e_aNil, e_dRange2]
  rw [show ((n + 1 : Nat) : Int) + 1 = ((n + 2 : Nat) : Int) from rfl]
  refine ⟨_, iter_rng (by decide) (by lia), ?_⟩
  rw [show (2 : Int) = ((2 : Nat) : Int) from rfl, rng_nat2]
  exact less_loop (by simp) h1 h2 _ _ (fun j hj => Nat.lt_of_lt_of_le Nat.two_pos (List.mem_range'_1.mp hj).1) e0 e39 qt qf
theorem cl_simple {a b : DS} {Q : Fw → Loc → Hp → Prop} {X : XS} {hp : Hp} {loc : Loc} {l1 r1 l2 r2 : List Nat} {b1 b2 : Nat} (e0 : loc 0 = some (wObj l1 r1 b1)) (e39 : loc 39 = some (wObj l2 r2 b2)) :
    sIf (tAnd (tTru (dAttr (bAttr cW 35) (dVar 0))) (tAnd (tTru (dAttr (bAttr cW 35) (dVar 39))) (fun Q _ _ hp => Q true hp))) a b Q X loc hp = if cl r1 ≤ 1 ∧ cl r2 ≤ 1 then a Q X loc hp else b Q X loc hp := by
  have a35 : ∀ l rows b (Q : V → Hp → Prop) hp, bAttr cW 35 (wObj l rows b) Q hp = Q (.bool (decide (cl rows ≤ 1))) hp := fun l rows b Q hp => at_obj rfl rfl
  simp only [e_sIf, e_tAnd, e_tTru, e_dAttr, e_dVar, rd e0, rd e39, a35, tr_bool]
  by_cases c1 : cl r1 ≤ 1 <;> by_cases c2 : cl r2 ≤ 1 <;> simp [c1, c2]
theorem c_less {Q : V → Hp → Prop} {X : XA} {hp : Hp} {l1 r1 l2 r2 : List Nat} {b1 b2 : Nat} (h1 : nOf r1 b1 ≤ 10000) (h2 : nOf r2 b2 ≤ 10000) (q : Q (.bool (lessP r1 b1 r2 b2)) hp) : C_Whitespace_less [wObj l1 r1 b1, wObj l2 r2 b2] Q X hp := by
  refine ⟨[(0, wObj l1 r1 b1), (39, wObj l2 r2 b2)], by simp [bdPos], ?_⟩
  have a31 : ∀ l rows b (Q : V → Hp → Prop) hp, bAttr cW 31 (wObj l rows b) Q hp = Q (.int (nOf rows b : Nat)) hp := fun l rows b Q hp => at_obj rfl rfl
  have a32 : ∀ l rows b (Q : V → Hp → Prop) hp, bAttr cW 32 (wObj l rows b) Q hp = Q (.int rows.length) hp := fun l rows b Q hp => at_obj rfl rfl
  generalize hlo : locOf [(0, wObj l1 r1 b1), (39, wObj l2 r2 b2)] = lo
  have o0 : lo 0 = some (wObj l1 r1 b1) := by rw [← hlo]; simp [locOf_cons, upd]
  have o39 : lo 39 = some (wObj l2 r2 b2) := by rw [← hlo]; simp [locOf_cons, upd]
  clear hlo
  unfold lessP at q
  unfold D_Whitespace_less
  refine sq ?_
  simp only [e_sIf, e_tBin, e_dAttr, e_dVar, rd o0, rd o39, a31, e_bCmp, ex_bool, decide_eq_true_eq, Int.ofNat_le]
  split
  · rename_i c; rw [if_pos c] at q; exact q
  · rename_i c
    rw [if_neg c] at q
    show nxt _ _ _ .next _ _
    refine nsq ?_
    rw [cl_simple o0 o39]
    split
    · rename_i c2
      rw [if_pos c2] at q
      refine sq ?_
      rw [e_sRet, e_dBin, e_dAttr, e_dVar, rd o0, a32, e_dAttr, e_dVar, rd o39, a32, e_bCmp]
      simp only [Int.ofNat_le]
      exact q
    · rename_i cc
      rw [if_neg cc] at q
      show nxt _ _ _ .next _ _
      refine nsq (cl_top h1 h2 o0 o39 (nsq (cl_loop h1 h2 (n := max (longN r1 b1) (longN r2 b2)) (Nat.max_le.mpr ⟨longN_le h1, longN_le h2⟩) ((upd_ne (by decide)).trans o0) ((upd_ne (by decide)).trans o39) us (fun h loc' => nsq ?_) fun h loc' => ?_)))
      · rw [show topN r1 b1 r2 b2 - 1 = max (longN r1 b1) (longN r2 b2) from rfl, h] at q; exact q
      · rw [show topN r1 b1 r2 b2 - 1 = max (longN r1 b1) (longN r2 b2) from rfl, h] at q; exact q
end Mine
namespace Mine
noncomputable def vE (e : Int × Int) : V := .tup [.int e.1, .int e.2]
@[simp ↓ high] theorem ex_vE {e : Int × Int} {K : List V → Prop} : (∃ us, vE e = .tup us ∧ K us) = K [.int e.1, .int e.2] := ex_tup
noncomputable def InE (e : Int × Int) : Prop := 0 ≤ e.1 ∧ e.1 < 4 ∧ 0 ≤ e.2 ∧ e.2 < 4
theorem fmod4 (a : Int) : 0 ≤ a.fmod 4 ∧ a.fmod 4 < 4 := ⟨Int.fmod_nonneg_of_pos a (by lia), Int.fmod_lt_of_pos a (by lia)⟩
theorem sb_d1 {Q : V → Hp → Prop} {XE : XA} {loc : Loc} {hp : Hp} {u : Int} (h45 : loc 45 = some (.int u)) : dBin bMod (dBin bMod (dVar 45) (dCon (.int 10))) (dCon (.int 4)) Q XE loc hp = Q (.int ((u.fmod 10).fmod 4)) hp := by
  simp only [e_dBin, e_dVar, rd h45, e_dCon, e_bMod]
  exact propext ⟨fun h => h.2.2, fun h => ⟨by decide, by decide, h⟩⟩
theorem sb_d2 {Q : V → Hp → Prop} {XE : XA} {loc : Loc} {hp : Hp} {u : Int} (h45 : loc 45 = some (.int u)) : dBin bMod (dBin bMod (dBin bDiv (dVar 45) (dCon (.int 10))) (dCon (.int 10))) (dCon (.int 4)) Q XE loc hp = Q (.int (((u.fdiv 10).fmod 10).fmod 4)) hp := by
  simp only [e_dBin, e_dVar, rd h45, e_dCon, e_bMod, e_bDiv]
  exact propext ⟨fun h => h.2.2.2, fun h => ⟨⟨by decide, .inr (by decide)⟩, by decide, by decide, h⟩⟩
theorem min_in {a b : Int} (ha : 0 ≤ a ∧ a < 4) (hb : 0 ≤ b ∧ b < 4) : 0 ≤ min a b ∧ min a b < 4 := ⟨Int.le_min.mpr ⟨ha.1, hb.1⟩, Int.lt_of_le_of_lt (Int.min_le_left ..) ha.2⟩
theorem max_in {a b : Int} (ha : 0 ≤ a ∧ a < 4) (hb : 0 ≤ b ∧ b < 4) : 0 ≤ max a b ∧ max a b < 4 := ⟨Int.le_trans ha.1 (Int.le_max_left ..), Int.max_lt.mpr ⟨ha.2, hb.2⟩⟩
theorem sb_if {Q : Fw → Loc → Hp → Prop} {X : XS} {ns : List Int} {E : List (Int × Int)} {a : Addr} {loc : Loc} {hp : Hp} {lo hi : Int} {b : Bool} (h43 : loc 43 = some (.lst (ns.map .int))) (h44 : loc 44 = some (.ref a)) (h46 : loc 46 = some (.int lo)) (h47 : loc 47 = some (.int hi)) (h48 : loc 48 = some (.bool b)) (ha : hp a = some (.lst (E.map vE))) (hl : E.length ≤ 6)
    (hlo : 0 ≤ lo ∧ lo < 4) (hhi : 0 ≤ hi ∧ hi < 4) (q0 : Q .next loc hp) (q1 : ∀ e, InE e → Q .next loc (upd hp a (.lst ((E ++ [e]).map vE)))) :
    sIf (tOr (tBin bNe (dVar 46) (dVar 47)) (tOr (tTru (dVar 48)) (fun Q _ _ hp => Q false hp)))
      (sSeq (sExp (dMeth isLst dAppend (dVar 44) (aCons (dIte (tBin bEq (dVar 48) (dBin bEq (dBin bMod (dCall dSum (aCons (dVar 43) aNil)) (dCon (.int 2))) (dCon (.int 1)))) (dTup (aCons (dVar 46) (aCons (dVar 47) aNil))) (dTup (aCons (dVar 47) (aCons (dVar 46) aNil)))) aNil))) sSkip) sSkip Q X loc hp := by
  have app : ∀ (e : Int × Int) (XE : XA), InE e → dAppend [.ref a, .tup [.int e.1, .int e.2]] (fun v hp1 => nxt sSkip Q X .next loc hp1) XE hp := by
    intro e XE he
    refine e_append ha (lim2 _ (by rw [List.length_map]; lia)) (nsk ?_)
    have := q1 e he
    rwa [List.map_append] at this
  have both : sSeq (sExp (dMeth isLst dAppend (dVar 44) (aCons (dIte (tBin bEq (dVar 48) (dBin bEq (dBin bMod (dCall dSum (aCons (dVar 43) aNil)) (dCon (.int 2))) (dCon (.int 1)))) (dTup (aCons (dVar 46) (aCons (dVar 47) aNil))) (dTup (aCons (dVar 47) (aCons (dVar 46) aNil)))) aNil))) sSkip Q X loc hp := by
    refine sq ?_
    simp [-List.map_append, ↓rd h43, ↓rd h44, ↓rd h46, ↓rd h47, ↓rd h48, isLst_ref ha, lim2 2]
    split
    · exact app (lo, hi) _ ⟨hlo.1, hlo.2, hhi.1, hhi.2⟩
    · exact app (hi, lo) _ ⟨hhi.1, hhi.2, hlo.1, hlo.2⟩
  simp only [e_sIf]
  generalize sSeq _ _ = D at both
  simp [↓rd h46, ↓rd h47, ↓rd h48]
  split
  · split
    · exact both
    · exact q0
  · exact both
theorem steps_body {R : Fw → Loc → Hp → Prop} {X : XS} {ns : List Int} {u : Int} {E : List (Int × Int)} {a : Addr} {loc : Loc} {hp : Hp} (h43 : loc 43 = some (.lst (ns.map .int))) (h44 : loc 44 = some (.ref a)) (h45 : loc 45 = some (.int u)) (ha : hp a = some (.lst (E.map vE))) (hl : E.length ≤ 6)
    (q : ∀ E' loc' hp', (E' = E ∨ ∃ e, InE e ∧ E' = E ++ [e]) → loc' 43 = some (.lst (ns.map .int)) → loc' 44 = some (.ref a) → hp' a = some (.lst (E'.map vE)) → (∀ b, b ≠ a → hp' b = hp b) → R .next loc' hp') : L_law_steps_1 R X loc hp := by
  unfold L_law_steps_1
  refine sq ?_
  rw [e_sAsg, e_dCall, e_aCons, sb_d1 h45, e_aCons, sb_d2 h45, e_aNil, e_dMin2, e_gVar]
  have o1 : ∀ v i, i ≠ 46 → upd loc 46 v i = loc i := fun v i h => upd_ne h
  refine nsq ?_
  rw [e_sAsg, e_dCall, e_aCons, sb_d1 ((o1 _ _ (by decide)).trans h45), e_aCons, sb_d2 ((o1 _ _ (by decide)).trans h45), e_aNil, e_dMax2, e_gVar]
  refine nsq ?_
  have o2 : ∀ v w i, i ≠ 46 → i ≠ 47 → upd (upd loc 46 v) 47 w i = loc i := fun v w i h h2 => (upd_ne h2).trans (o1 v i h)
  simp only [e_sAsg, e_dBin, e_dVar, rd ((o2 _ _ _ (by decide) (by decide)).trans h45), e_dCon, e_bDiv, e_bMod, e_eqI, e_gVar]
  refine ⟨⟨by decide, .inr (by decide)⟩, by decide, nsq ?_⟩
  have m1 := fmod4 (u.fmod 10)
  have m2 := fmod4 ((u.fdiv 10).fmod 10)
  have o3 : ∀ v w z i, i ≠ 46 → i ≠ 47 → i ≠ 48 → upd (upd (upd loc 46 v) 47 w) 48 z i = loc i := fun v w z i h h2 h3 => (upd_ne h3).trans (o2 v w i h h2)
  refine sb_if (ns := ns) ((o3 _ _ _ _ (by decide) (by decide) (by decide)).trans h43) ((o3 _ _ _ _ (by decide) (by decide) (by decide)).trans h44) ((upd_ne (by decide)).trans ((upd_ne (by decide)).trans us)) ((upd_ne (by decide)).trans us) us ha hl (min_in m1 m2) (max_in m1 m2) (nx ?_) fun e he => nx ?_
  · exact q E _ hp (.inl rfl) ((o3 _ _ _ _ (by decide) (by decide) (by decide)).trans h43) ((o3 _ _ _ _ (by decide) (by decide) (by decide)).trans h44) ha fun _ _ => rfl
  · exact q (E ++ [e]) _ _ (.inr ⟨e, he, rfl⟩) ((o3 _ _ _ _ (by decide) (by decide) (by decide)).trans h43) ((o3 _ _ _ _ (by decide) (by decide) (by decide)).trans h44) us fun b hb => upd_ne hb
theorem steps_loop {Q : Fw → Loc → Hp → Prop} {ns : List Int} {v : V} {hp0 : Hp} {a : Addr} (hv : ∀ h h', same v h h') {hpi : Hp}  :
    ∀ (us : List Int) (E : List (Int × Int)) (loc : Loc) (hp : Hp), (∀ e ∈ E, InE e) → E.length + us.length ≤ 6 → loc 43 = some (.lst (ns.map .int)) → loc 44 = some (.ref a) → hp a = some (.lst (E.map vE)) → (∀ b, b ≠ a → hp b = hpi b) →
    (∀ (E : List (Int × Int)) loc hp, (∀ e ∈ E, InE e) → E.length ≤ 6 → loc 44 = some (.ref a) → hp a = some (.lst (E.map vE)) → (∀ b, b ≠ a → hp b = hpi b) → Q .next loc hp) →
    fLoop v hp0 (gVar 45) L_law_steps_1 Q (us.map .int) loc hp
  | [], E, loc, hp, hE, hl, h43, h44, ha, ho, q => by
    show Q .next loc hp
    exact q E loc hp hE (by simpa using hl) h44 ha ho
  | u :: us, E, loc, hp, hE, hl, h43, h44, ha, ho, q => by
    simp only [List.length_cons] at hl
    rw [List.map_cons, fLoopC, e_gVar]
    refine steps_body (ns := ns) (u := u) (E := E) (a := a) (by simp [upd, h43]) (by simp [upd, h44]) (by simp) ha (by lia) fun E' loc' hp' hE' h1 h2 h3 h4 => ⟨hv _ _, ?_⟩
    refine steps_loop hv us E' loc' hp' ?_ ?_ h1 h2 h3 (fun b hb => (h4 b hb).trans (ho b hb)) q
    · rcases hE' with rfl | ⟨e, he, rfl⟩
      · exact hE
      · intro x hx
        rcases List.mem_append.mp hx with h | h
        · exact hE x h
        · simp at h; subst h; exact he
    · rcases hE' with rfl | ⟨e, he, rfl⟩
      · lia
      · simp; lia
theorem cut5 (vs : List V) : cutV vs Option.none (some 5) Option.none = vs.take 5 := cut_take vs 5
theorem cut1 (vs : List V) : cutV vs Option.none (some 1) Option.none = vs.take 1 := cut_take vs 1
theorem c_law_steps {Q : V → Hp → Prop} {X : XA} {ns : List Int} {hp : Hp} (hn : ns.length ≤ 63) (q : ∀ (E : List (Int × Int)) hp', (∀ e ∈ E, InE e) → E.length ≤ 6 → Grow hp hp' → Q (.lst (E.map vE)) hp') : C_law_steps [.lst (ns.map .int)] Q X hp := by
  refine ⟨[(43, .lst (ns.map .int))], by simp [bdPos], ?_⟩
  have hl : ns.length ≤ lim := by unfold lim; lia
  simp only [D_law_steps, e_sSeq, e_sAsg, e_dNew, e_aNil, e_gVar]
  refine ⟨by simp, fun a ha => ?_⟩
  simp [hl, lim2, cut5]
  refine ⟨lim2 _ (by lia), ?_⟩
  rw [show (V.int 10 :: List.take 5 (List.map V.int ns)) = (10 :: ns.take 5).map .int by simp [List.map_take]]
  refine steps_loop (ns := ns) (hpi := hp) (fun _ _ => by simp) _ [] _ _ (by simp) (by simp; lia) (by simp [upd, locOf_cons]) (by simp [upd]) (by simp) (fun b hb => upd_ne hb) fun E loc hp' hE hl' h44 h ho => ?_
  simp [h44, h]
  refine q E _ hE hl' fun b o e => ?_
  have : b ≠ a := by rintro rfl; rw [ha] at e; cases e
  rw [del_ne this, ho b this]; exact e
noncomputable def metStep (E : List (Int × Int)) (node : Int) (met : List Int) : List Int := met ++ (E.filter fun e => decide ((e.1 = node ∨ e.1 ∈ met) ∧ e.2 ∉ met)).map (·.2)
noncomputable def metN (E : List (Int × Int)) (node : Int) : Nat → List Int → List Int
  | 0, m => m
  | n + 1, m => metN E node n (metStep E node m)
theorem metStep_len (E : List (Int × Int)) (node : Int) (met : List Int) : (metStep E node met).length ≤ met.length + E.length := by
  unfold metStep
  have := List.length_filter_le (fun e : Int × Int => decide ((e.1 = node ∨ e.1 ∈ met) ∧ e.2 ∉ met)) E
  simp only [List.length_append, List.length_map]; lia
theorem mb_elt {loc : Loc} {hp : Hp} {node : Int} {met : List Int} {x : Int × Int} {acc : List V} {R : List V → Hp → Prop} (h1 : loc 1 = some (.int node)) (h75 : loc 75 = some (.lst (met.map .int))) (ha : acc.length ≤ lim) (hR : R (if decide ((x.1 = node ∨ x.1 ∈ met) ∧ x.2 ∉ met) then acc ++ [V.int x.2] else acc) hp) :
    gTup ([51, 52].map gVar) (vE x) (fun loc1 hp2 => tAnd (tOr (tBin bEq (dVar 51) (dVar 1)) (tOr (tBin bIn (dVar 51) (dVar 75)) (fun Q _ _ hp => Q false hp))) (tAnd (tBin bNotIn (dVar 52) (dVar 75)) (fun Q _ _ hp => Q true hp)) (fun b hp3 => if b then cElt (dVar 52) R acc loc1 hp3 else R acc hp3) noXA loc1 hp2) noX loc hp := by
  simp [↓rd h1, ↓rd h75]
  by_cases c1 : x.1 = node <;> by_cases c2 : x.1 ∈ met <;> by_cases c3 : x.2 ∈ met <;> simp [c1, c2, c3] at hR ⊢ <;> simp_all
theorem mb_step {R : Fw → Loc → Hp → Prop} {X : XS} {E : List (Int × Int)} {node : Int} {hp : Hp} {met : List Int} {loc : Loc} (hE : E.length ≤ 6) (hl : met.length ≤ 24) (h1 : loc 1 = some (.int node)) (h44 : loc 44 = some (.lst (E.map vE))) (h75 : loc 75 = some (.lst (met.map .int)))
    (q : R .next (upd loc 75 (.lst ((metStep E node met).map .int))) hp) : L_law_met_1 R X loc hp := by
  unfold L_law_met_1
  refine sq ?_
  rw [e_sAsg, e_dBin, e_dVar, rd h75, e_dComp, e_dVar, rd h44, it_lst]
  refine cLp_pure vE (fun e => decide ((e.1 = node ∨ e.1 ∈ met) ∧ e.2 ∉ met)) (fun e => .int e.2) E [] hp (by unfold lim; simp; lia) (by simp) ?_ ?_
  · intro x hx acc ha R hR
    exact mb_elt h1 h75 ha hR
  · have e : List.map V.int met ++ List.map (fun e : Int × Int => V.int e.2) (List.filter (fun e => decide ((e.1 = node ∨ e.1 ∈ met) ∧ e.2 ∉ met)) E) = (metStep E node met).map .int := by simp [metStep, List.map_map, Function.comp_def]
    have hml := metStep_len E node met
    rw [List.nil_append, e_bAddL, e, ← List.length_append, e, e_gVar]
    exact ⟨lim2 _ (by rw [List.length_map]; lia), nsk q⟩
theorem met_loop {Q : Fw → Loc → Hp → Prop} {E : List (Int × Int)} {node : Int} {v : V} {hp0 hp : Hp} (hv : ∀ h h', same v h h') (hE : E.length ≤ 6) :
    ∀ (us : List V) (met : List Int) (loc : Loc), met.length + us.length * 6 ≤ 24 → loc 1 = some (.int node) → loc 44 = some (.lst (E.map vE)) → loc 75 = some (.lst (met.map .int)) →
    (∀ loc', loc' 75 = some (.lst ((metN E node us.length met).map .int)) → Q .next loc' hp) → fLoop v hp0 (gVar 76) L_law_met_1 Q us loc hp
  | [], met, loc, hl, h1, h44, h75, q => by exact q loc h75
  | u :: us, met, loc, hl, h1, h44, h75, q => by
    rw [List.length_cons] at hl
    rw [fLoopC, e_gVar]
    have hml := metStep_len E node met
    refine mb_step (node := node) hE (by lia) ((upd_ne (by decide)).trans h1) ((upd_ne (by decide)).trans h44) ((upd_ne (by decide)).trans h75) ⟨hv _ _, ?_⟩
    exact met_loop (node := node) hv hE us (metStep E node met) _ (by lia) ((upd_ne (by decide)).trans ((upd_ne (by decide)).trans h1)) ((upd_ne (by decide)).trans ((upd_ne (by decide)).trans h44)) Mine.us (by simpa [metN] using q)
theorem c_law_met {Q : V → Hp → Prop} {X : XA} {E : List (Int × Int)} {node : Int} {hp : Hp} (hE : E.length ≤ 6) (q : Q (.lst ((metN E node 4 []).map .int)) hp) : C_law_met [.lst (E.map vE), .int node] Q X hp := by
  refine ⟨[(44, .lst (E.map vE)), (1, .int node)], by simp [bdPos], ?_⟩
  simp only [D_law_met, e_sSeq, e_sAsg, e_dLst, e_aNil, e_gVar, e_sFor, e_dCall, e_aCons, e_dCon, e_dRange1, it_of (iter_rng (lo := 0) (hi := 4) (by decide) (by decide))]
  refine ⟨by simp, ?_⟩
  refine met_loop (node := node) (E := E) (by simp) hE _ [] _ (by simp [rngList]) (by simp [upd, locOf_cons]) (by simp [upd, locOf_cons]) (by simp) fun loc' h => ?_
  simp [↓rd h]
  simpa [rngList] using q
end Mine
namespace Mine
noncomputable def vNs (xs : List Nat) : List V := xs.map fun (n : Nat) => V.int n
noncomputable def rowS (r : Nat) : List Nat := List.replicate r 32 ++ [9]
noncomputable def encR (rows : List Nat) : List Nat := rows.flatMap rowS
theorem parse_sp : ∀ (k : Nat) (l rows : List Nat) (b : Nat), parse (List.replicate k 32 ++ l) rows b = parse l rows (b + k)
  | 0, l, rows, b => by simp
  | k + 1, l, rows, b => by
    rw [List.replicate_succ, List.cons_append, parse, if_pos rfl, parse_sp k l rows (b + 1)]
    congr 1; lia
theorem parse_rows : ∀ (rs l rows : List Nat), parse (encR rs ++ l) rows 0 = parse l (rows ++ rs) 0
  | [], l, rows => by simp [encR]
  | r :: rs, l, rows => by
    have : encR (r :: rs) ++ l = List.replicate r 32 ++ (9 :: (encR rs ++ l)) := by simp [encR, rowS]
    rw [this, parse_sp, parse, if_neg (by decide), if_pos rfl, parse_rows rs l]
    simp
theorem parse_text (rs : List Nat) (k : Nat) (c : Nat) (l : List Nat) (h1 : c ≠ 32) (h2 : c ≠ 9) : parse (encR rs ++ (List.replicate k 32 ++ c :: l)) [] 0 = (rs, k) := by
  rw [parse_rows, parse_sp, parse, if_neg h1, if_neg h2]; simp
noncomputable def rowL (node : Int) (m run s : Nat) : List Nat :=
  let L := List.replicate s (m + run - 1) ++ List.replicate (m - 1 - s) (m + run - 2)
  if node.fmod 2 = 1 then L.reverse else L
theorem flat_rep {α : Type} (k : Nat) (x : α) : (List.replicate k [x]).flatten = List.replicate k x := by
  induction k with
  | zero => rfl
  | succ k ih => simp [List.replicate_succ, ih]
theorem strs_map : ∀ ls : List (List Nat), strsOf (ls.map .str) = some ls
  | [] => rfl
  | l :: ls => congrArg (Option.map (l :: ·)) (strs_map ls)
theorem item_nat {xs : List Nat} {k s : Nat} (h : xs[k]? = some s) : itemAt (vNs xs) (k : Int) = some (.int s) := by
  unfold itemAt vNs
  rw [if_pos (by lia)]
  simp [h]
theorem encR_len : ∀ rows : List Nat, (encR rows).length = (rows.map (· + 1)).sum
  | [] => rfl
  | r :: rows => by simp [encR] ; have := encR_len rows; simp [encR] at this; simp [rowS, this]
theorem rowL_len (node : Int) (m run s : Nat) (hs : s ≤ m - 1) : (rowL node m run s).length = m - 1 := by
  unfold rowL; simp only []; split <;> simp <;> lia
theorem rowL_mem {node : Int} {m run s r : Nat} (h : r ∈ rowL node m run s) : r = m + run - 1 ∨ r = m + run - 2 := by
  unfold rowL at h
  simp only [] at h
  have : r ∈ List.replicate s (m + run - 1) ++ List.replicate (m - 1 - s) (m + run - 2) := by
    split at h
    · exact List.mem_reverse.mp h
    · exact h
  rcases List.mem_append.mp this with h | h
  · exact .inl (List.mem_replicate.mp h).2
  · exact .inr (List.mem_replicate.mp h).2
theorem sum_le_of {B : Nat} : ∀ (xs : List Nat), (∀ x ∈ xs, x ≤ B) → xs.sum ≤ xs.length * B
  | [], _ => by simp
  | x :: xs, h => by
    have := sum_le_of xs fun y hy => h y (List.mem_cons_of_mem _ hy)
    have := h x List.mem_cons_self
    simp only [List.sum_cons, List.length_cons, Nat.add_mul]; lia
theorem e_size {Q : V → Hp → Prop} {XE : XA} {loc : Loc} {hp : Hp} {vs : List V} {m run : Nat} (hm : vs.length = m) (h : m + run ≤ 20) (hr0 : 0 < run) (e68 : loc 68 = some (.lst vs)) (e70 : loc 70 = some (.int (run : Nat))) :
    dBin (bInt (· - ·)) (dBin bAdd (dCall dLen (aCons (dVar 68) aNil)) (dVar 70)) (dCon (.int 1)) Q XE loc hp = Q (.int ((m + run - 1 : Nat) : Int)) hp := by
  simp only [e_dBin, e_dCall, e_aCons, e_dVar, rd e68, rd e70, e_aNil, e_dLenL, hm, e_dCon, e_bAdd, e_bInt]
  rw [show ((m : Int) + (run : Int) - 1) = ((m + run - 1 : Nat) : Int) by lia]
  exact propext (and_iff_right (lim2 _ (by lia)))
theorem e_row {Q : V → Hp → Prop} {XE : XA} {loc : Loc} {hp : Hp} {sz n : DE} {k c : Nat} (h1 : ∀ Q : V → Hp → Prop, sz Q XE loc hp = Q (.int (k : Nat)) hp) (h2 : ∀ Q : V → Hp → Prop, n Q XE loc hp = Q (.int (c : Nat)) hp) (hk : k ≤ 20) (hc : c ≤ 10)
    (q : Q (.lst (List.replicate c (.str (rowS k)))) hp) : dBin bMulA (dLst (aCons (dBin bAdd (dBin bMulA (dCon (.str [32])) sz) (dCon (.str [9]))) aNil)) n Q XE loc hp := by
  simp only [e_dBin, e_dLst, e_aCons, e_dCon, h1, h2, e_aNil, e_bMulS, e_bAddS, e_bMulL, Int.toNat_natCast, flat_rep]
  have z : ∀ i : Nat, i ≤ 20 → -(10 ^ 9) < (i : Int) ∧ (i : Int) < 10 ^ 9 := fun i h => by lia
  exact ⟨(z _ hk).1, (z _ hk).2, lim2 _ (by simp; lia), lim2 _ (by simp; lia), lim2 _ (by simp), (z _ (by lia)).1, (z _ (by lia)).2, lim2 _ (by simp; lia), q⟩
theorem e_less1 {Q : V → Hp → Prop} {XE : XA} {loc : Loc} {hp : Hp} {k : Nat} (hk : 0 < k) (h : loc 71 = some (.int (k : Nat))) : dBin (bInt (· - ·)) (dVar 71) (dCon (.int 1)) Q XE loc hp = Q (.int ((k - 1 : Nat) : Int)) hp := by
  simp only [e_dBin, e_dVar, rd h, e_dCon, e_bInt]
  rw [show ((k : Int) - 1) = ((k - 1 : Nat) : Int) by lia]
theorem e_spot {Q : V → Hp → Prop} {XE : XA} {loc : Loc} {hp : Hp} {spots : List Nat} {run s : Nat} (hl : spots.length ≤ 10) (hs : spots[run]? = some s) (e68 : loc 68 = some (.lst (vNs spots))) (e70 : loc 70 = some (.int (run : Nat))) :
    dBin bItem (dVar 68) (dVar 70) Q XE loc hp = Q (.int (s : Nat)) hp := by
  simp only [e_dBin, e_dVar, rd e68, rd e70, e_bItemL, item_nat hs, Option.some.injEq, exists_eq_left']
  exact propext (and_iff_right (lim2 _ (by simp [vNs]; lia)))
theorem e_left {Q : V → Hp → Prop} {XE : XA} {loc : Loc} {hp : Hp} {spots : List Nat} {run s : Nat} (hl : spots.length ≤ 10) (hs : spots[run]? = some s) (hsm : s < spots.length) (e68 : loc 68 = some (.lst (vNs spots))) (e70 : loc 70 = some (.int (run : Nat))) :
    dBin (bInt (· - ·)) (dBin (bInt (· - ·)) (dCall dLen (aCons (dVar 68) aNil)) (dCon (.int 1))) (dBin bItem (dVar 68) (dVar 70)) Q XE loc hp = Q (.int ((spots.length - 1 - s : Nat) : Int)) hp := by
  have hv : (vNs spots).length = spots.length := by simp [vNs]
  rw [e_dBin]
  simp only [e_spot hl hs e68 e70, e_dBin, e_dCall, e_aCons, e_dVar, rd e68, e_aNil, e_dLenL, hv, e_dCon, e_bInt]
  rw [show ((spots.length : Int) - 1 - (s : Int)) = ((spots.length - 1 - s : Nat) : Int) by lia]
  exact propext (and_iff_right (lim2 _ (by lia)))
theorem e_rows {Q : Fw → Loc → Hp → Prop} {X : XS} {hp : Hp} {loc : Loc} {spots : List Nat} {run s k : Nat} (hm4 : spots.length ≤ 10) (hs : spots[run]? = some s) (hsm : s < spots.length) (hk : k ≤ 20) (hk0 : 0 < k)
    (e68 : loc 68 = some (.lst (vNs spots))) (e70 : loc 70 = some (.int (run : Nat))) (e71 : loc 71 = some (.int (k : Nat)))
    (q : Q .next (upd loc 72 (.lst (((List.replicate s k ++ List.replicate (spots.length - 1 - s) (k - 1)).map rowS).map .str))) hp) :
    sAsg (dBin bAdd (dBin bMulA (dLst (aCons (dBin bAdd (dBin bMulA (dCon (.str [32])) (dVar 71)) (dCon (.str [9]))) aNil)) (dBin bItem (dVar 68) (dVar 70))) (dBin bMulA (dLst (aCons (dBin bAdd (dBin bMulA (dCon (.str [32])) (dBin (bInt (· - ·)) (dVar 71) (dCon (.int 1)))) (dCon (.str [9]))) aNil)) (dBin (bInt (· - ·)) (dBin (bInt (· - ·)) (dCall dLen (aCons (dVar 68) aNil)) (dCon (.int 1))) (dBin bItem (dVar 68) (dVar 70))))) (gVar 72) Q X loc hp := by
  rw [e_sAsg, e_dBin]
  refine e_row (k := k) (c := s) (fun Q => by simp only [e_dVar, rd e71]) (fun Q => e_spot hm4 hs e68 e70) hk (by lia) ?_
  refine e_row (fun Q => e_less1 hk0 e71) (fun Q => e_left hm4 hs hsm e68 e70) (by lia) (by lia) ?_
  rw [e_bAddL, e_gVar]
  refine ⟨lim2 _ (by simp; lia), ?_⟩
  simpa only [List.map_append, List.map_replicate] using q
theorem e_turn {Q : Fw → Loc → Hp → Prop} {X : XS} {hp : Hp} {loc : Loc} {node : Int} {L : List Nat} (hL : L.length ≤ 10) (e1 : loc 1 = some (.int node)) (e72 : loc 72 = some (.lst ((L.map rowS).map .str)))
    (q : ∀ loc', (∀ i, i ≠ 72 → loc' i = loc i) → loc' 72 = some (.lst (((if node.fmod 2 = 1 then L.reverse else L).map rowS).map .str)) → Q .next loc' hp) :
    sIf (tBin bEq (dBin bMod (dVar 1) (dCon (.int 2))) (dCon (.int 1))) (sSeq (sAsg (dCut (dVar 72) (dCon .none) (dCon .none) (dNeg (dCon (.int 1)))) (gVar 72)) sSkip) sSkip Q X loc hp := by
  simp only [e_sIf, e_tBin, e_dBin, e_dVar, rd e1, e_dCon, e_bMod, e_eqI, ex_bool]
  refine ⟨by decide, ?_⟩
  by_cases h : node.fmod 2 = 1
  · simp only [h, if_true] at q
    simp [h, ↓rd e72, cut_rev, -List.map_map]
    refine ⟨lim2 _ (by lia), q _ (fun i hi => upd_ne hi) ?_⟩
    simp
  · simp only [h, if_false] at q
    simp [h]
    exact q loc (fun _ _ => rfl) e72
theorem e_join {Q : Fw → Loc → Hp → Prop} {X : XS} {hp : Hp} {loc : Loc} {text L : List Nat} (hl : text.length ≤ 2000) (h1 : ∀ r ∈ L, r ≤ 20) (h2 : L.length ≤ 10) (e69 : loc 69 = some (.str text)) (e72 : loc 72 = some (.lst ((L.map rowS).map .str)))
    (q : Q .next (upd loc 69 (.str (text ++ encR L))) hp) : sAsg (dBin bAdd (dVar 69) (dMeth isStr dJoin0 (dCon (.str [])) (aCons (dVar 72) aNil))) (gVar 69) Q X loc hp := by
  have hE : (encR L).length ≤ 210 := by
    rw [encR_len]
    have := sum_le_of (B := 21) (L.map (· + 1)) (by
      intro x hx
      obtain ⟨r, hr, rfl⟩ := List.mem_map.mp hx
      have := h1 r hr; lia)
    simp only [List.length_map] at this
    lia
  have e : (L.map rowS).flatten = encR L := by simp [encR, List.flatMap]
  simp only [e_sAsg, e_dBin, e_dVar, rd e69, e_dMeth, e_dCon, e_aCons, rd e72, e_aNil]
  refine ⟨⟨_, rfl⟩, _, _, L.map rowS, rfl, rfl, strs_map _, ?_, ?_⟩
  · rw [e]; exact lim2 _ (by lia)
  · rw [e]; show bAdd _ _ _ _; rw [e_bAddS, e_gVar]
    exact ⟨Nat.le_trans (show _ ≤ 3000 by lia) (by decide), q⟩
theorem text_body {R : Fw → Loc → Hp → Prop} {X : XS} {hp : Hp} {loc : Loc} {node : Int} {spots text : List Nat} {m run s : Nat} (hm : spots.length = m) (hm4 : m ≤ 10) (hr : run < m) (hr0 : 0 < run) (hs : spots[run]? = some s) (hsm : s ≤ m - 1) (hl : text.length ≤ 2000)
    (e1 : loc 1 = some (.int node)) (e68 : loc 68 = some (.lst (vNs spots))) (e69 : loc 69 = some (.str text)) (e70 : loc 70 = some (.int (run : Nat)))
    (q : ∀ loc', loc' 1 = some (.int node) → loc' 68 = some (.lst (vNs spots)) → loc' 69 = some (.str (text ++ encR (rowL node m run s))) → R .next loc' hp) : L_law_text_1 R X loc hp := by
  subst hm
  unfold L_law_text_1
  refine sq ?_
  rw [e_sAsg, e_size (m := spots.length) (by simp [vNs]) (by lia) hr0 e68 e70, e_gVar]
  refine nsq (e_rows hm4 hs (by lia) (by lia) (by lia) ((upd_ne (by decide)).trans e68) ((upd_ne (by decide)).trans e70) us (nsq ?_))
  refine e_turn (node := node) (by simp; lia) ((upd_ne (by decide)).trans ((upd_ne (by decide)).trans e1)) us fun loc' hi h72 => nsq ?_
  have e : (if node.fmod 2 = 1 then (List.replicate s (spots.length + run - 1) ++ List.replicate (spots.length - 1 - s) (spots.length + run - 1 - 1)).reverse else List.replicate s (spots.length + run - 1) ++ List.replicate (spots.length - 1 - s) (spots.length + run - 1 - 1)) = rowL node spots.length run s := rfl
  rw [e] at h72
  refine e_join hl (fun r hr => by have := rowL_mem hr; lia) (by rw [rowL_len _ _ _ _ hsm]; lia) ((hi _ (by decide)).trans ((upd_ne (by decide)).trans ((upd_ne (by decide)).trans e69))) h72 (nx ?_)
  exact q _ ((upd_ne (by decide)).trans ((hi _ (by decide)).trans ((upd_ne (by decide)).trans ((upd_ne (by decide)).trans e1)))) ((upd_ne (by decide)).trans ((hi _ (by decide)).trans ((upd_ne (by decide)).trans ((upd_ne (by decide)).trans e68)))) us
noncomputable def rowsN (node : Int) (spots : List Nat) (js : List Nat) : List Nat := js.flatMap fun run => rowL node spots.length run (spots[run]?.getD 0)
theorem text_loop {Q : Fw → Loc → Hp → Prop} {v : V} {hp0 hp : Hp} {node : Int} {spots : List Nat} (hv : ∀ h h', same v h h') (hm4 : spots.length ≤ 4) (hsp : ∀ s ∈ spots, s ≤ spots.length - 1) : ∀ (js text : List Nat) (loc : Loc), (∀ j ∈ js, 0 < j ∧ j < spots.length) → text.length + js.length * 210 ≤ 2000 →
    loc 1 = some (.int node) → loc 68 = some (.lst (vNs spots)) → loc 69 = some (.str text) →
    (∀ loc', loc' 68 = some (.lst (vNs spots)) → loc' 69 = some (.str (text ++ encR (rowsN node spots js))) → Q .next loc' hp) → fLoop v hp0 (gVar 70) L_law_text_1 Q (js.map fun j => .int (j : Nat)) loc hp
  | [], text, loc, _, _, e1, e68, e69, q => by exact q loc e68 (by simpa [rowsN, encR] using e69)
  | j :: js, text, loc, hj, hl, e1, e68, e69, q => by
    rw [List.map_cons, fLoopC, e_gVar]
    simp only [List.length_cons] at hl
    obtain ⟨h0, h1⟩ := hj j List.mem_cons_self
    have hs : spots[j]? = some spots[j] := List.getElem?_eq_getElem h1
    have hsm := hsp _ (List.getElem_mem h1)
    have hrl : (encR (rowL node spots.length j spots[j])).length ≤ 210 := by
      rw [encR_len]
      have := sum_le_of (B := 21) ((rowL node spots.length j spots[j]).map (· + 1)) (by
        intro x hx
        obtain ⟨r, hr, rfl⟩ := List.mem_map.mp hx
        have := rowL_mem hr; lia)
      simp only [List.length_map, rowL_len _ _ _ _ hsm] at this
      lia
    refine text_body (node := node) (spots := spots) (text := text) (m := spots.length) (run := j) (s := spots[j]) rfl (by lia) h1 h0 hs hsm (by lia) (by simp [upd, e1]) (by simp [upd, e68]) (by simp [upd, e69]) (by simp) fun loc' f1 f68 f69 => ⟨hv _ _, ?_⟩
    refine text_loop hv hm4 hsp js _ loc' (fun k hk => hj k (List.mem_cons_of_mem _ hk)) (by rw [List.length_append]; lia) f1 f68 f69 fun loc2 g68 g69 => q loc2 g68 ?_
    rw [g69]
    simp [rowsN, encR, hs]
noncomputable def textOf (node : Int) (spots : List Nat) : List Nat := encR (rowsN node spots (List.range' 1 (spots.length - 1))) ++ (List.replicate (spots[0]?.getD 0) 32 ++ [120, 32, 9])
theorem rowsN_len (node : Int) (spots : List Nat) (hsp : ∀ s ∈ spots, s ≤ spots.length - 1) : ∀ js : List Nat, (∀ j ∈ js, j < spots.length) → (rowsN node spots js).length = js.length * (spots.length - 1) := by
  intro js
  induction js with
  | nil => intro _; simp [rowsN]
  | cons j js ih =>
    intro h
    have hj := h j List.mem_cons_self
    rw [rowsN, List.flatMap_cons, List.length_append, List.length_cons, rowL_len, Nat.succ_mul, Nat.add_comm]
    · exact congrArg (· + _) (ih fun k hk => h k (List.mem_cons_of_mem _ hk))
    · rw [List.getElem?_eq_getElem hj]; exact hsp _ (List.getElem_mem hj)
theorem enc_le (L : List Nat) (h1 : ∀ r ∈ L, r ≤ 20) (h2 : L.length ≤ 9) : (encR L).length ≤ 900 := by
  rw [encR_len]
  have := sum_le_of (B := 21) (L.map (· + 1)) (by
    intro x hx
    obtain ⟨r, hr, rfl⟩ := List.mem_map.mp hx
    exact Nat.succ_le_succ (h1 r hr))
  rw [List.length_map] at this
  lia
theorem encN_le {node : Int} {spots : List Nat} (hm4 : spots.length ≤ 4) (hsp : ∀ s ∈ spots, s ≤ spots.length - 1) : (encR (rowsN node spots (List.range' 1 (spots.length - 1)))).length ≤ 900 := by
  refine enc_le _ (fun r hr => ?_) ?_
  · obtain ⟨j, hj, h⟩ := List.mem_flatMap.mp hr
    rw [List.mem_range'_1] at hj
    have := rowL_mem h; lia
  · rw [rowsN_len _ _ hsp _ (fun j hj => by rw [List.mem_range'_1] at hj; lia), List.length_range']
    have : spots.length - 1 ≤ 3 := by lia
    exact Nat.mul_le_mul this this
theorem e_tail {Q : V → Hp → Prop} {XE : XA} {loc : Loc} {hp : Hp} {text : List Nat} {spots : List Nat} {s : Nat} (hm4 : spots.length ≤ 4) (ht : text.length ≤ 900) (hs : spots[0]? = some s) (hsm : s ≤ 4) (f68 : loc 68 = some (.lst (vNs spots))) (f69 : loc 69 = some (.str text))
    (q : Q (.str (text ++ (List.replicate s 32 ++ [120, 32, 9]))) hp) : dBin bAdd (dBin bAdd (dVar 69) (dBin bMulA (dCon (.str [32])) (dBin bItem (dVar 68) (dCon (.int 0))))) (dCon (.str [120, 32, 9])) Q XE loc hp := by
  have hi : itemAt (vNs spots) 0 = some (.int s) := item_nat hs
  simp only [e_dBin, e_dVar, rd f68, rd f69, e_dCon, e_bItemL, hi, Option.some.injEq, exists_eq_left', e_bMulS, e_bAddS, Int.toNat_natCast, flat_rep]
  rw [List.append_assoc]
  exact ⟨lim2 _ (by simp [vNs]; lia), by lia, by lia, lim2 _ (by simp; lia), lim2 _ (by simp; lia), lim2 _ (by simp; lia), q⟩
theorem c_law_text {Q : V → Hp → Prop} {X : XA} {hp : Hp} {node : Int} {spots : List Nat} (h0 : 0 < spots.length) (hm4 : spots.length ≤ 4) (hsp : ∀ s ∈ spots, s ≤ spots.length - 1) (q : Q (.str (textOf node spots)) hp) : C_law_text [.int node, .lst (vNs spots)] Q X hp := by
  refine ⟨[(1, .int node), (68, .lst (vNs spots))], by simp [bdPos], ?_⟩
  have hlen : (vNs spots).length = spots.length := by simp [vNs]
  unfold D_law_text
  refine sq ?_
  rw [e_sAsg, e_dCon, e_gVar]
  refine nsq ?_
  rw [e_sFor, e_dCall, e_aCons, e_dCon, e_aCons, e_dCall, e_aCons, e_dVar, rd (show upd (locOf [(1, V.int node), (68, V.lst (vNs spots))]) 69 (.str []) 68 = some (.lst (vNs spots)) by simp [locOf_cons, upd]), e_aNil, e_dLenL, hlen]
  refine ⟨lim2 _ (by lia), ?_⟩
  rw [e_aNil, e_dRange2]
  refine ⟨_, iter_rng (by decide) (by lia), ?_⟩
  rw [show (1 : Int) = ((1 : Nat) : Int) from rfl, rng_nat2]
  refine text_loop (node := node) (spots := spots) (by simp) hm4 hsp _ [] _ (fun j hj => by rw [List.mem_range'_1] at hj; lia) (by simp; lia) (by simp [upd, locOf_cons]) (by simp [upd, locOf_cons]) (by simp [upd]) fun loc' f68 f69 => nsq ?_
  have hs : spots[0]? = some spots[0] := List.getElem?_eq_getElem h0
  have hsm := hsp _ (List.getElem_mem h0)
  rw [e_sRet]
  refine e_tail hm4 (encN_le hm4 hsp) hs (by lia) f68 f69 ?_
  unfold textOf at q
  rw [hs] at q
  exact q
end Mine
namespace Mine
noncomputable def colT (spots : List Nat) (size run : Nat) : Nat :=
  (spots.length - 1) * ((spots.length + run - 2) / size * size + size) + if (spots.length + run - 1) % size = 0 then (spots[run]?.getD 0) * size else 0
theorem small_nat {n : Nat} (h : n ≤ 1000) : small (n : Int) := ⟨by lia, by lia⟩
theorem e_colAdd {Q : Fw → Loc → Hp → Prop} {X : XS} {hp : Hp} {loc : Loc} {spots : List Nat} {size k col : Nat} (hm4 : spots.length ≤ 4) (hsz : 0 < size) (hk : k ≤ 20) (h0 : 0 < spots.length)
    (e71 : loc 71 = some (.int (size : Nat))) (e68 : loc 68 = some (.lst (vNs spots))) (e73 : loc 73 = some (.int (col : Nat))) (e74 : loc 74 = some (.int ((k + 1 : Nat) : Int)))
    (q : Q .next (upd loc 73 (.int ((col + (spots.length - 1) * (k / size * size + size) : Nat) : Int))) hp) :
    sAsg (dBin bAdd (dVar 73) (dBin bMulA (dBin (bInt (· - ·)) (dCall dLen (aCons (dVar 68) aNil)) (dCon (.int 1))) (dBin bAdd (dBin bMulA (dBin bDiv (dBin (bInt (· - ·)) (dVar 74) (dCon (.int 1))) (dVar 71)) (dVar 71)) (dVar 71)))) (gVar 73) Q X loc hp := by
  have hlen : (vNs spots).length = spots.length := by simp [vNs]
  have hfd : (((k + 1 : Nat) : Int) - 1).fdiv (size : Int) = ((k / size : Nat) : Int) := by
    rw [show (((k + 1 : Nat) : Int) - 1) = (k : Int) by lia, Int.fdiv_eq_ediv_of_nonneg _ (Int.natCast_nonneg _)]; rfl
  have e1 : ((spots.length : Int) - 1) = ((spots.length - 1 : Nat) : Int) := by lia
  simp only [e_sAsg, e_dBin, e_dVar, rd e71, rd e68, rd e73, rd e74, e_dCall, e_aCons, e_aNil, e_dLenL, hlen, e_dCon, e_bInt, e_bDiv, hfd, e_bMulA, e_bAdd, e_gVar, e1]
  simp only [Int.natCast_add, Int.natCast_mul] at q
  exact ⟨lim2 _ (by lia), ⟨by lia, .inl (by lia)⟩, .inl (small_nat (Nat.le_trans (Nat.div_le_self _ _) (by lia))), .inl (small_nat (by lia)), q⟩
theorem e_colIf {Q : Fw → Loc → Hp → Prop} {X : XS} {hp : Hp} {loc : Loc} {spots : List Nat} {size k s col run : Nat} (hm4 : spots.length ≤ 4) (hsz : 0 < size) (hs : spots[run]? = some s) (hs4 : s ≤ 4)
    (e71 : loc 71 = some (.int (size : Nat))) (e68 : loc 68 = some (.lst (vNs spots))) (e73 : loc 73 = some (.int (col : Nat))) (e74 : loc 74 = some (.int (k : Nat))) (e70 : loc 70 = some (.int (run : Nat)))
    (q : ∀ loc', (∀ i, i ≠ 73 → loc' i = loc i) → loc' 73 = some (.int ((col + (if k % size = 0 then s * size else 0) : Nat) : Int)) → Q .next loc' hp) :
    sIf (tBin bEq (dBin bMod (dVar 74) (dVar 71)) (dCon (.int 0))) (sSeq (sAsg (dBin bAdd (dVar 73) (dBin bMulA (dBin bItem (dVar 68) (dVar 70)) (dVar 71))) (gVar 73)) sSkip) sSkip Q X loc hp := by
  have hfm : (k : Int).fmod (size : Int) = ((k % size : Nat) : Int) := by
    rw [Int.fmod_eq_emod_of_nonneg _ (Int.natCast_nonneg _)]; rfl
  simp only [e_sIf, e_tBin, e_dBin, e_dVar, rd e74, rd e71, e_bMod, hfm, e_dCon, e_eqI, ex_bool]
  refine ⟨by lia, ?_⟩
  by_cases c : k % size = 0
  · rw [if_pos c] at q
    rw [if_pos (by rw [c]; rfl)]
    refine sq ?_
    rw [e_sAsg, e_dBin, e_dVar, rd e73, e_dBin, e_spot (by lia) hs e68 e70, e_dVar, rd e71, e_bMulA]
    refine ⟨.inl (small_nat (by lia)), ?_⟩
    rw [e_bAdd, e_gVar]
    exact nx (q _ (fun i hi => upd_ne hi) (us.trans (by rw [Int.natCast_add, Int.natCast_mul])))
  · rw [if_neg c] at q
    rw [if_neg (by rw [decide_eq_true_eq]; exact fun z => c (Int.ofNat_inj.mp z))]
    exact q loc (fun _ _ => rfl) e73
theorem col_body {R : Fw → Loc → Hp → Prop} {X : XS} {hp : Hp} {loc : Loc} {spots : List Nat} {size run col : Nat} (hm4 : spots.length ≤ 4) (hr : run < spots.length) (hr0 : 0 < run) (hsz : 0 < size) (hsp : ∀ s ∈ spots, s ≤ spots.length - 1)
    (e71 : loc 71 = some (.int (size : Nat))) (e68 : loc 68 = some (.lst (vNs spots))) (e73 : loc 73 = some (.int (col : Nat))) (e70 : loc 70 = some (.int (run : Nat)))
    (q : ∀ loc', loc' 71 = some (.int (size : Nat)) → loc' 68 = some (.lst (vNs spots)) → loc' 73 = some (.int ((col + colT spots size run : Nat) : Int)) → R .next loc' hp) : L_law_column_1 R X loc hp := by
  have hs : spots[run]? = some spots[run] := List.getElem?_eq_getElem hr
  have hsm := hsp _ (List.getElem_mem hr)
  obtain ⟨k, hk⟩ : ∃ k, spots.length + run - 1 = k + 1 := ⟨spots.length + run - 2, by lia⟩
  have hk2 : spots.length + run - 2 = k := congrArg Nat.pred hk
  unfold colT at q
  rw [hk, hk2, hs, ← Nat.add_assoc] at q
  unfold L_law_column_1
  refine sq ?_
  rw [e_sAsg, e_size (m := spots.length) (by simp [vNs]) (by lia) hr0 e68 e70, e_gVar, hk]
  refine nsq (e_colAdd hm4 hsz (by lia) (by lia) ((upd_ne (by decide)).trans e71) ((upd_ne (by decide)).trans e68) ((upd_ne (by decide)).trans e73) us (nsq ?_))
  refine e_colIf hm4 hsz hs (by lia) ((upd_ne (by decide)).trans ((upd_ne (by decide)).trans e71)) ((upd_ne (by decide)).trans ((upd_ne (by decide)).trans e68)) us ((upd_ne (by decide)).trans us) ((upd_ne (by decide)).trans ((upd_ne (by decide)).trans e70)) fun loc' hi h => nx ?_
  exact q loc' ((hi _ (by decide)).trans ((upd_ne (by decide)).trans ((upd_ne (by decide)).trans e71))) ((hi _ (by decide)).trans ((upd_ne (by decide)).trans ((upd_ne (by decide)).trans e68))) h
theorem col_loop {Q : Fw → Loc → Hp → Prop} {v : V} {hp0 hp : Hp} {spots : List Nat} {size : Nat} (hv : ∀ h h', same v h h') (hm4 : spots.length ≤ 4) (hsz : 0 < size) (hsp : ∀ s ∈ spots, s ≤ spots.length - 1) : ∀ (js : List Nat) (col : Nat) (loc : Loc), (∀ j ∈ js, 0 < j ∧ j < spots.length) →
    loc 71 = some (.int (size : Nat)) → loc 68 = some (.lst (vNs spots)) → loc 73 = some (.int (col : Nat)) →
    (∀ loc', loc' 73 = some (.int ((col + (js.map (colT spots size)).sum : Nat) : Int)) → Q .next loc' hp) → fLoop v hp0 (gVar 70) L_law_column_1 Q (js.map fun j => .int (j : Nat)) loc hp
  | [], col, loc, _, e1, e68, e73, q => by exact q loc (by simpa using e73)
  | j :: js, col, loc, hj, e1, e68, e73, q => by
    rw [List.map_cons, fLoopC, e_gVar]
    obtain ⟨h0, h1⟩ := hj j List.mem_cons_self
    refine col_body (spots := spots) (size := size) (col := col) (run := j) hm4 h1 h0 hsz hsp (by simp [upd, e1]) (by simp [upd, e68]) (by simp [upd, e73]) (by simp) fun loc' f1 f68 f73 => ⟨hv _ _, ?_⟩
    refine col_loop hv hm4 hsz hsp js _ loc' (fun k hk => hj k (List.mem_cons_of_mem _ hk)) f1 f68 f73 fun loc2 g => q loc2 ?_
    rw [g]
    simp only [List.map_cons, List.sum_cons]
    congr 3; lia
noncomputable def colP (spots : List Nat) (size : Nat) : Nat := spots[0]?.getD 0 + ((List.range' 1 (spots.length - 1)).map (colT spots size)).sum
theorem c_law_column {Q : V → Hp → Prop} {X : XA} {hp : Hp} {spots : List Nat} {size : Nat} (h0 : 0 < spots.length) (hm4 : spots.length ≤ 4) (hsz : 0 < size) (hsp : ∀ s ∈ spots, s ≤ spots.length - 1) (q : Q (.int (colP spots size : Nat)) hp) : C_law_column [.lst (vNs spots), .int (size : Nat)] Q X hp := by
  refine ⟨[(68, .lst (vNs spots)), (71, .int (size : Nat))], by simp [bdPos], ?_⟩
  have hL : lim = 1000000 := rfl
  have hlen : (vNs spots).length = spots.length := by simp [vNs]
  have hs : spots[0]? = some spots[0] := List.getElem?_eq_getElem h0
  have hi := item_nat hs
  simp only [Int.cast_ofNat_Int] at hi
  simp [D_law_column, hlen, hi]
  refine ⟨by lia, _, iter_rng (by decide) (by lia), ?_⟩
  rw [show (1 : Int) = ((1 : Nat) : Int) from rfl, rng_nat2]
  refine col_loop (spots := spots) (size := size) (by simp) hm4 hsz hsp _ spots[0] _ (fun j hj => by rw [List.mem_range'_1] at hj; lia) (by simp [upd, locOf_cons]) (by simp [upd, locOf_cons]) (by simp [upd]) fun loc' f => ?_
  simp only [rd f]
  unfold colP at q
  rw [hs] at q
  exact q
end Mine
namespace Mine
structure SS where
  nodes : List Int
  np : Int → Int
  succ : Int → List Int
  ready : Option (List Int)
  pass : Int
  fin : Int
noncomputable def setF {α : Type} (f : Int → α) (n : Int) (v : α) : Int → α := fun m => if m = n then v else f m
noncomputable def rdy (R : Addr) : Option (List Int) → V
  | none => .none
  | some _ => .ref R
noncomputable def vI (n k : Int) (l : Addr) : O := .sl cN [some (.int n), some (.int k), some (.ref l)]
structure Rep (Z hp : Hp) (x dd D : Addr) (ia la : Int → Addr) (R : Addr) (S : SS) : Prop where
  hx : hp x = some (.inst cT dd)
  hd : hp dd = some (.ns [(2, .ref D), (5, rdy R S.ready), (11, .int S.pass), (12, .int S.fin)])
  hD : ∃ ep, hp D = some (.dict (S.nodes.map fun n => (n, V.ref (ia n))) ep)
  hi : ∀ n ∈ S.nodes, hp (ia n) = some (vI n (S.np n) (la n))
  hl : ∀ n ∈ S.nodes, hp (la n) = some (.lst ((S.succ n).map .int))
  hr : ∀ r, S.ready = some r → hp R = some (.lst (r.map .int))
  ii : ∀ n ∈ S.nodes, ∀ m ∈ S.nodes, ia n = ia m → n = m
  ll : ∀ n ∈ S.nodes, ∀ m ∈ S.nodes, la n = la m → n = m
  lR : S.ready ≠ none → ∀ n ∈ S.nodes, la n ≠ R
  nd : S.nodes.Nodup
  df : ∀ m, m ∉ S.nodes → S.np m = 0 ∧ S.succ m = []
  gr : Grow Z hp
  ox : Z x = Option.none
  od : Z dd = Option.none
  oD : Z D = Option.none
  oi : ∀ n ∈ S.nodes, Z (ia n) = Option.none ∧ Z (la n) = Option.none
  oR : S.ready ≠ none → Z R = Option.none
  sz : S.nodes.length ≤ 1000
noncomputable def Own (Z hp : Hp) (x : Addr) (S : SS) : Prop := ∃ dd D ia la R, Rep Z hp x dd D ia la R S
theorem Rep.grow {Z hp hp' : Hp} {x dd D R : Addr} {ia la : Int → Addr} {S : SS} (r : Rep Z hp x dd D ia la R S) (g : Grow hp hp') : Rep Z hp' x dd D ia la R S :=
  { r with hx := g _ _ r.hx, hd := g _ _ r.hd, hD := (by obtain ⟨ep, h⟩ := r.hD; exact ⟨ep, g _ _ h⟩), hi := fun n h => g _ _ (r.hi n h), hl := fun n h => g _ _ (r.hl n h), hr := fun q h => g _ _ (r.hr q h), gr := r.gr.trans g }
theorem Own.grow {Z hp hp' : Hp} {x : Addr} {S : SS} (r : Own Z hp x S) (g : Grow hp hp') : Own Z hp' x S := (by obtain ⟨dd, D, ia, la, R, r⟩ := r; exact ⟨dd, D, ia, la, R, r.grow g⟩)
theorem ne_of {hp : Hp} {a b : Addr} {o o' : O} (h : hp a = some o) (h' : hp b = some o') (n : o ≠ o') : a ≠ b := by
  rintro rfl; rw [h] at h'; cases h'; exact n rfl
theorem ne_none {hp : Hp} {a b : Addr} {o : O} (h : hp a = some o) (h' : hp b = Option.none) : a ≠ b := by
  rintro rfl; rw [h] at h'; cases h'
theorem upd_ne' {hp : Hp} {a b : Addr} {o : O} (h : b ≠ a) : upd hp a o b = hp b := upd_ne h
theorem Own.other {Z hp : Hp} {x : Addr} {S : SS} (r : Own Z hp x S) {g : Addr} {o : O} (h : hp g = Option.none ∨ ∃ o', Z g = some o') : Own (upd Z g o) (upd hp g o) x S := by
  obtain ⟨dd, D, ia, la, R, r⟩ := r
  have key : ∀ a o', hp a = some o' → Z a = Option.none → a ≠ g := by
    intro a o' h1 h2
    rintro rfl
    rcases h with h | ⟨o'', h⟩
    · rw [h] at h1; cases h1
    · rw [h] at h2; cases h2
  have U : ∀ a o', hp a = some o' → Z a = Option.none → upd hp g o a = some o' := fun a o' h1 h2 => by rw [upd_ne (key a o' h1 h2)]; exact h1
  have W : ∀ a o', hp a = some o' → Z a = Option.none → upd Z g o a = Option.none := fun a o' h1 h2 => by rw [upd_ne (key a o' h1 h2)]; exact h2
  obtain ⟨ep, hD⟩ := r.hD
  refine ⟨dd, D, ia, la, R, { r with
    hx := U _ _ r.hx r.ox, hd := U _ _ r.hd r.od, hD := ⟨ep, U _ _ hD r.oD⟩, hi := fun n h => U _ _ (r.hi n h) (r.oi n h).1, hl := fun n h => U _ _ (r.hl n h) (r.oi n h).2
    hr := fun q h => U _ _ (r.hr q h) (r.oR (by rw [h]; simp)), gr := ?_, ox := W _ _ r.hx r.ox, od := W _ _ r.hd r.od, oD := W _ _ hD r.oD, oi := fun n h => ⟨W _ _ (r.hi n h) (r.oi n h).1, W _ _ (r.hl n h) (r.oi n h).2⟩
    oR := fun h => ?_ }⟩
  · intro a o' e
    by_cases c : a = g
    · subst c; rw [upd_same] at e ⊢; exact e
    · rw [upd_ne c] at e ⊢; exact r.gr _ _ e
  · cases q : S.ready with
    | none => exact absurd q h
    | some z => exact W _ _ (r.hr z q) (r.oR h)
section
variable {Z hp : Hp} {x dd D R : Addr} {ia la : Int → Addr} {S : SS}
theorem Rep.setNp (r : Rep Z hp x dd D ia la R S) {n k : Int} (hn : n ∈ S.nodes) : Rep Z (upd hp (ia n) (vI n k (la n))) x dd D ia la R { S with np := setF S.np n k } := by
  obtain ⟨ep, hD⟩ := r.hD
  have e := r.hi n hn
  refine { r with hx := ?_, hd := ?_, hD := ⟨ep, ?_⟩, hi := fun m hm => ?_, hl := fun m hm => ?_, hr := fun q h => ?_, df := fun m hm => ?_, gr := r.gr.upd (r.oi n hn).1 }
  · rw [upd_ne (ne_of r.hx e (by simp [vI]))]; exact r.hx
  · rw [upd_ne (ne_of r.hd e (by simp [vI]))]; exact r.hd
  · rw [upd_ne (ne_of hD e (by simp [vI]))]; exact hD
  · by_cases c : m = n
    · subst c; simp [setF]
    · rw [upd_ne (fun z => c (r.ii m hm n hn z))]; simp only [setF, if_neg c]; exact r.hi m hm
  · rw [upd_ne (ne_of (r.hl m hm) e (by simp [vI]))]; exact r.hl m hm
  · rw [upd_ne (ne_of (r.hr q h) e (by simp [vI]))]; exact r.hr q h
  · have : m ≠ n := by rintro rfl; exact hm hn
    simp only [setF, if_neg this]; exact r.df m hm
theorem Rep.setSucc (r : Rep Z hp x dd D ia la R S) {n : Int} {l : List Int} (hn : n ∈ S.nodes) : Rep Z (upd hp (la n) (.lst (l.map .int))) x dd D ia la R { S with succ := setF S.succ n l } := by
  obtain ⟨ep, hD⟩ := r.hD
  have e := r.hl n hn
  refine { r with hx := ?_, hd := ?_, hD := ⟨ep, ?_⟩, hi := fun m hm => ?_, hl := fun m hm => ?_, hr := fun q h => ?_, df := fun m hm => ?_, gr := r.gr.upd (r.oi n hn).2 }
  · rw [upd_ne (ne_of r.hx e (by simp))]; exact r.hx
  · rw [upd_ne (ne_of r.hd e (by simp))]; exact r.hd
  · rw [upd_ne (ne_of hD e (by simp))]; exact hD
  · rw [upd_ne (ne_of (r.hi m hm) e (by simp [vI]))]; exact r.hi m hm
  · by_cases c : m = n
    · subst c; simp [setF]
    · rw [upd_ne (fun z => c (r.ll m hm n hn z))]; simp only [setF, if_neg c]; exact r.hl m hm
  · rw [upd_ne (fun z => r.lR (by rw [h]; simp) n hn z.symm)]; exact r.hr q h
  · have : m ≠ n := by rintro rfl; exact hm hn
    simp only [setF, if_neg this]; exact r.df m hm
theorem Rep.setReady (r : Rep Z hp x dd D ia la R S) {q₀ q : List Int} (h : S.ready = some q₀) : Rep Z (upd hp R (.lst (q.map .int))) x dd D ia la R { S with ready := some q } := by
  obtain ⟨ep, hD⟩ := r.hD
  have e := r.hr _ h
  have hne : S.ready ≠ none := by rw [h]; simp
  refine { r with hx := ?_, hd := ?_, hD := ⟨ep, ?_⟩, hi := fun m hm => ?_, hl := fun m hm => ?_, hr := fun q h => ?_, lR := fun _ => r.lR hne, gr := r.gr.upd (r.oR hne), oR := fun _ => r.oR hne }
  · rw [upd_ne (ne_of r.hx e (by simp))]; exact r.hx
  · rw [upd_ne (ne_of r.hd e (by simp))]; have := r.hd; rw [h] at this; exact this
  · rw [upd_ne (ne_of hD e (by simp))]; exact hD
  · rw [upd_ne (ne_of (r.hi m hm) e (by simp [vI]))]; exact r.hi m hm
  · rw [upd_ne (r.lR hne m hm)]; exact r.hl m hm
  · cases h; simp
theorem Rep.setD (r : Rep Z hp x dd D ia la R S) {p f : Int} : Rep Z (upd hp dd (.ns [(2, .ref D), (5, rdy R S.ready), (11, .int p), (12, .int f)])) x dd D ia la R { S with pass := p, fin := f } := by
  obtain ⟨ep, hD⟩ := r.hD
  have e := r.hd
  refine { r with hx := ?_, hd := ?_, hD := ⟨ep, ?_⟩, hi := fun m hm => ?_, hl := fun m hm => ?_, hr := fun q h => ?_, gr := r.gr.upd r.od }
  · rw [upd_ne (ne_of r.hx e (by simp))]; exact r.hx
  · simp
  · rw [upd_ne (ne_of hD e (by simp))]; exact hD
  · rw [upd_ne (ne_of (r.hi m hm) e (by simp [vI]))]; exact r.hi m hm
  · rw [upd_ne (ne_of (r.hl m hm) e (by simp))]; exact r.hl m hm
  · rw [upd_ne (ne_of (r.hr q h) e (by simp))]; exact r.hr q h
end
end Mine
namespace Mine
theorem c_nodeinfo {Q : V → Hp → Prop} {X : XA} {hp : Hp} {n : Int} (q : ∀ i l hp', hp i = Option.none → hp l = Option.none → i ≠ l → hp' i = some (vI n 0 l) → hp' l = some (.lst []) → (∀ a, a ≠ i → a ≠ l → hp' a = hp a) → Q (.ref i) hp') : dMakeS cN C_NodeInfo_init [.int n] Q X hp := by
  intro i hi
  refine ⟨[(0, .ref i), (1, .int n)], by simp [bdPos], ?_⟩
  have e0 : (upd hp i (.sl cN [])) i = some (.sl cN []) := upd_same ..
  have uu : ∀ o o', upd (upd hp i o) i o' = upd hp i o' := fun o o' => by funext j; simp only [upd]; split <;> rfl
  have sS : ∀ (vs : List (Option V)) (k : Nat) (v : V) (K : Hp → Prop), bSetS cN k (.ref i) v K (upd hp i (.sl cN vs)) = K (upd hp i (.sl cN (slSet vs k v))) := fun vs k v K => by rw [setS_ref (upd_same ..), uu]
  simp [D_NodeInfo_init, ↓sS, slSet]
  intro l hl
  have hli : l ≠ i := by rintro rfl; simp at hl
  rw [upd_ne hli] at hl
  have e2 : (upd (upd hp i (.sl cN [some (.int n), some (.int 0)])) l (.lst [])) i = some (.sl cN [some (.int n), some (.int 0)]) := by rw [upd_ne (Ne.symm hli)]; simp
  rw [setS_ref e2]
  refine q i l _ hi hl (Ne.symm hli) (by simp [slSet, vI]) (by rw [upd_ne hli]; simp) fun a n1 n2 => ?_
  rw [upd_ne n1, upd_ne n2, upd_ne n1]
section
variable {Z hp : Hp} {x dd D R : Addr} {ia la : Int → Addr} {S : SS}
noncomputable def getS (S : SS) (n : Int) : SS := { S with nodes := if n ∈ S.nodes then S.nodes else S.nodes ++ [n] }
theorem Rep.at (r : Rep Z hp x dd D ia la R S) {i : Nat} {v : V} {Q : V → Hp → Prop} (h : List.lookup i [(2, V.ref D), (5, rdy R S.ready), (11, .int S.pass), (12, .int S.fin)] = some v) (n : notFn v = true) : bAttr cT i (.ref x) Q hp = Q v hp := at_ref r.hx r.hd h n
theorem find_nodes (ia : Int → Addr) (n : Int) : ∀ nodes : List Int, eAt (nodes.map fun m => (m, V.ref (ia m))) n = if n ∈ nodes then some (.ref (ia n)) else Option.none
  | [] => by simp [eAt]
  | m :: ms => by
    have ih := find_nodes ia n ms
    unfold eAt at ih ⊢
    rw [List.map_cons, List.find?_cons]
    by_cases c : m = n
    · subst c; simp
    · have : ¬ n = m := fun z => c z.symm
      simp only [c, decide_false, List.mem_cons, this, false_or]
      exact ih
theorem Rep.add (r : Rep Z hp x dd D ia la R S) {n : Int} (hn : n ∉ S.nodes) (hz : S.nodes.length + 1 ≤ 1000) {i l : Addr} {hp' : Hp} {ep : Nat} (hi : hp i = Option.none) (hl : hp l = Option.none) (hil : i ≠ l) (ei : hp' i = some (vI n 0 l)) (el : hp' l = some (.lst [])) (eD : hp' D = some (.dict (S.nodes.map (fun m => (m, V.ref (ia m))) ++ [(n, V.ref i)]) ep)) (eo : ∀ a, a ≠ i → a ≠ l → a ≠ D → hp' a = hp a) :
    Rep Z hp' x dd D (setF ia n i) (setF la n l) R (getS S n) := by
  have hns : (getS S n).nodes = S.nodes ++ [n] := by simp [getS, hn]
  obtain ⟨ep0, hD⟩ := r.hD
  have ne : ∀ m ∈ S.nodes, m ≠ n := fun m hm => by rintro rfl; exact hn hm
  have keep : ∀ a o, hp a = some o → a ≠ D → hp' a = some o := fun a o h h2 => by rw [eo a (ne_none h hi) (ne_none h hl) h2]; exact h
  have iam : ∀ m ∈ S.nodes, setF ia n i m = ia m := fun m hm => by simp [setF, ne m hm]
  have lam : ∀ m ∈ S.nodes, setF la n l m = la m := fun m hm => by simp [setF, ne m hm]
  have ian : setF ia n i n = i := by simp [setF]
  have lan : setF la n l n = l := by simp [setF]
  have df := r.df n hn
  have np : (getS S n).np = S.np := rfl
  have su : (getS S n).succ = S.succ := rfl
  have re : (getS S n).ready = S.ready := rfl
  refine ⟨keep _ _ r.hx (ne_of r.hx hD (by simp)), keep _ _ r.hd (ne_of r.hd hD (by simp)), ⟨ep, ?_⟩, fun m hm => ?_, fun m hm => ?_, fun q h => ?_, fun m hm k hk => ?_, fun m hm k hk => ?_, fun h m hm => ?_, ?_, fun m hm => ?_, ?_, r.ox, r.od, r.oD, fun m hm => ?_, r.oR, ?_⟩
  · rw [eD, hns, List.map_append]
    congr 3
    · apply List.map_congr_left; intro m hm; rw [iam m hm]
    · simp [ian]
  · rw [hns] at hm
    rcases List.mem_append.mp hm with h | h
    · rw [iam m h, lam m h]; exact keep _ _ (r.hi m h) (ne_of (r.hi m h) hD (by simp [vI]))
    · simp at h; subst h; rw [ian, lan, np, df.1]; exact ei
  · rw [hns] at hm
    rcases List.mem_append.mp hm with h | h
    · rw [lam m h]; exact keep _ _ (r.hl m h) (ne_of (r.hl m h) hD (by simp))
    · simp at h; subst h; rw [lan, su, df.2]; exact el
  · exact keep _ _ (r.hr q h) (ne_of (r.hr q h) hD (by simp))
  · rw [hns] at hm hk
    intro e
    rcases List.mem_append.mp hm with h | h <;> rcases List.mem_append.mp hk with h' | h'
    · rw [iam m h, iam k h'] at e; exact r.ii m h k h' e
    · simp at h'; subst h'; rw [iam m h, ian] at e; exact absurd e (ne_none (r.hi m h) hi)
    · simp at h; subst h; rw [iam k h', ian] at e; exact absurd e.symm (ne_none (r.hi k h') hi)
    · simp at h h'; rw [h, h']
  · rw [hns] at hm hk
    intro e
    rcases List.mem_append.mp hm with h | h <;> rcases List.mem_append.mp hk with h' | h'
    · rw [lam m h, lam k h'] at e; exact r.ll m h k h' e
    · simp at h'; subst h'; rw [lam m h, lan] at e; exact absurd e (ne_none (r.hl m h) hl)
    · simp at h; subst h; rw [lam k h', lan] at e; exact absurd e.symm (ne_none (r.hl k h') hl)
    · simp at h h'; rw [h, h']
  · rw [hns] at hm
    rcases List.mem_append.mp hm with h' | h'
    · rw [lam m h']; exact r.lR h m h'
    · simp at h'; subst h'; rw [lan]
      cases q : S.ready with
      | none => exact absurd q h
      | some z => exact fun e => ne_none (r.hr z q) hl e.symm
  · rw [hns]
    rw [List.nodup_append]
    exact ⟨r.nd, by simp, fun a ha b hb => by simp at hb; subst hb; exact ne a ha⟩
  · rw [hns] at hm
    exact r.df m fun h => hm (List.mem_append_left _ h)
  · intro a o e
    have h := r.gr _ _ e
    refine keep _ _ h ?_
    rintro rfl
    rw [r.oD] at e; cases e
  · rw [hns] at hm
    rcases List.mem_append.mp hm with h | h
    · rw [iam m h, lam m h]; exact r.oi m h
    · simp at h; subst h; rw [ian, lan]; exact ⟨r.gr.back hi, r.gr.back hl⟩
  · rw [hns]; simpa using hz
theorem eSet_new (ia : Int → Addr) (n : Int) (i : Addr) (nodes : List Int) (h : n ∉ nodes) : eSet (nodes.map fun m => (m, V.ref (ia m))) n (.ref i) = (nodes.map fun m => (m, V.ref (ia m))) ++ [(n, .ref i)] := by
  unfold eSet
  rw [if_neg]
  simp only [List.any_map, List.any_eq_true, not_exists, not_and, Function.comp, decide_eq_true_eq]
  intro m hm e; subst e; exact h hm
theorem c_getinfo {Q : V → Hp → Prop} {X : XA} (r : Rep Z hp x dd D ia la R S) {n : Int} (hz : S.nodes.length + 1 ≤ 1000) (q : ∀ hp' ia' la', Rep Z hp' x dd D ia' la' R (getS S n) → Q (.ref (ia' n)) hp') : C_TS__get_nodeinfo [.ref x, .int n] Q X hp := by
  refine ⟨[(0, .ref x), (1, .int n)], by simp [bdPos], ?_⟩
  obtain ⟨ep, hD⟩ := r.hD
  have a2 : ∀ (Q : V → Hp → Prop), bAttr cT 2 (.ref x) Q hp = Q (.ref D) hp := fun Q => r.at rfl rfl
  have hz' : S.nodes.length ≤ lim := by unfold lim; lia
  have dg : ∀ (Q : V → Hp → Prop) (X : XA), dGet [.ref D, .int n] Q X hp = Q ((eAt (S.nodes.map fun n => (n, V.ref (ia n))) n).getD .none) hp := by
    intro Q X
    apply propext; constructor
    · rintro ⟨a, es, ep', k, h1, h2, h3⟩
      simp only [List.cons.injEq, V.ref.injEq, V.int.injEq, and_true] at h1
      obtain ⟨rfl, rfl⟩ := h1
      rw [hD] at h2; cases h2; exact h3
    · intro h; exact ⟨_, _, _, _, rfl, hD, h⟩
  have isd : isDct hp (.ref D) := ⟨D, _, ep, rfl, hD⟩
  simp only [D_TS__get_nodeinfo, e_sSeq, e_sIfN, e_dMeth, e_dAttr, e_dVar, rd_loc, if_true, a2, e_aCons, e_aNil, if_neg (show ¬ (1 : Nat) = 0 by decide), dg, find_nodes]
  refine ⟨isd, ?_⟩
  by_cases c : n ∈ S.nodes
  · simp only [if_pos c, Option.getD_some, on_rn]
    simp
    refine q hp ia la ?_
    have : getS S n = S := by simp [getS, c]
    rw [this]; exact r
  · simp only [if_neg c, Option.getD_none, on_nn]
    simp
    refine c_nodeinfo fun i l hp' h1 h2 h3 h4 h5 h6 => ?_
    have hx' : hp' x = some (.inst cT dd) := by rw [h6 x (ne_none r.hx h1) (ne_none r.hx h2)]; exact r.hx
    have hd' : hp' dd = some (.ns [(2, .ref D), (5, rdy R S.ready), (11, .int S.pass), (12, .int S.fin)]) := by rw [h6 dd (ne_none r.hd h1) (ne_none r.hd h2)]; exact r.hd
    have hD' : hp' D = some (.dict (S.nodes.map fun n => (n, V.ref (ia n))) ep) := by rw [h6 D (ne_none hD h1) (ne_none hD h2)]; exact hD
    rw [at_ref hx' hd' (v := .ref D) rfl rfl]
    refine ⟨D, n, rfl, rfl, ?_⟩
    rw [hD']
    refine ⟨by simpa using hz', fun ep' => ?_⟩
    rw [eSet_new _ _ _ _ c]
    have hDi : D ≠ i := ne_none hD h1
    have hDl : D ≠ l := ne_none hD h2
    have := q _ _ _ (Rep.add (hp' := upd hp' D (.dict (S.nodes.map (fun m => (m, V.ref (ia m))) ++ [(n, V.ref i)]) ep')) (ep := ep') r c hz h1 h2 h3 (by rw [upd_ne (Ne.symm hDi)]; exact h4) (by rw [upd_ne (Ne.symm hDl)]; exact h5) (by simp) fun a n1 n2 n3 => by rw [upd_ne n3]; exact h6 a n1 n2)
    simpa [setF] using this
end
end Mine
namespace Mine
noncomputable def addP (n : Int) (S : SS) (p : Int) : SS := { getS S p with succ := setF S.succ p (S.succ p ++ [n]) }
noncomputable def addS (S : SS) (n : Int) (ps : List Int) : SS := ps.foldl (addP n) { getS S n with np := setF S.np n (S.np n + ps.length) }
theorem getS_mem (S : SS) (n : Int) : n ∈ (getS S n).nodes := by
  unfold getS; simp only []; split
  · assumption
  · simp
theorem getS_len (S : SS) (n : Int) : (getS S n).nodes.length ≤ S.nodes.length + 1 := by
  unfold getS; simp only []; split <;> simp
section
variable {Z hp : Hp} {x dd D R : Addr} {ia la : Int → Addr} {S : SS}
theorem Rep.inst (r : Rep Z hp x dd D ia la R S) {j : Nat} (hj : j ≠ 2 ∧ j ≠ 5 ∧ j ≠ 11 ∧ j ≠ 12) : isInst cT j hp (.ref x) := by
  refine ⟨dd, _, r.hx, r.hd, ?_⟩
  simp [Ne.symm hj.1, Ne.symm hj.2.1, Ne.symm hj.2.2.1, Ne.symm hj.2.2.2]
theorem Rep.slot (r : Rep Z hp x dd D ia la R S) {n : Int} (hn : n ∈ S.nodes) {k : Nat} {v : V} {Q : V → Hp → Prop} (h : ([some (.int n), some (.int (S.np n)), some (.ref (la n))] : List (Option V))[k]? = some (some v)) (nf : notFn v = true) : bSlot cN k (.ref (ia n)) Q hp = Q v hp := sl_ref (r.hi n hn) h nf
theorem add_body {R' : Fw → Loc → Hp → Prop} {X : XS} {loc : Loc} {n p : Int} (r : Rep Z hp x dd D ia la R S) (hz : S.nodes.length + 1 ≤ 1000) (hs : (S.succ p).length ≤ 100000) (e0 : loc 0 = some (.ref x)) (e1 : loc 1 = some (.int n)) (e8 : loc 8 = some (.int p))
    (q : ∀ loc' hp' ia' la', Rep Z hp' x dd D ia' la' R (addP n S p) → loc' 0 = some (.ref x) → loc' 1 = some (.int n) → R' .next loc' hp') : L_TS_add_1 R' X loc hp := by
  simp [L_TS_add_1, ↓rd e0, ↓rd e1, ↓rd e8, r.inst, -Bool.exists_bool]
  refine c_getinfo r hz fun hp' ia' la' r' => ?_
  have hm := getS_mem S p
  rw [r'.slot hm (k := 2) (v := .ref (la' p)) rfl rfl]
  refine ⟨isLst_ref (r'.hl p hm), e_append (r'.hl p hm) ?_ ?_⟩
  · simp only [List.length_map]
    have : (getS S p).succ = S.succ := rfl
    rw [this]; unfold lim; lia
  · have e : (List.map V.int ((getS S p).succ p) ++ [V.int n]) = List.map V.int (S.succ p ++ [n]) := by simp [getS]
    rw [e]
    exact q _ _ ia' la' (r'.setSucc hm) (by simp [upd, e0]) (by simp [upd, e1])
theorem addP_sz (n : Int) (S : SS) (p : Int) : (addP n S p).nodes.length ≤ S.nodes.length + 1 ∧ ∀ m, ((addP n S p).succ m).length ≤ (S.succ m).length + 1 := by
  refine ⟨getS_len S p, fun m => ?_⟩
  simp only [addP, setF]
  split
  · rename_i h; subst h; simp
  · lia
theorem add_loop {Q : Fw → Loc → Hp → Prop} {v : V} {hp0 : Hp} {n : Int} (hv : ∀ h h', same v h h') : ∀ (ps : List Int) (S : SS) (hp : Hp) (ia la : Int → Addr) (loc : Loc), Rep Z hp x dd D ia la R S → S.nodes.length + ps.length ≤ 999 → (∀ m, (S.succ m).length + ps.length ≤ 10000) → loc 0 = some (.ref x) → loc 1 = some (.int n) →
    (∀ loc' hp' ia' la', Rep Z hp' x dd D ia' la' R (ps.foldl (addP n) S) → Q .next loc' hp') → fLoop v hp0 (gVar 8) L_TS_add_1 Q (ps.map .int) loc hp
  | [], S, hp, ia, la, loc, r, _, _, e0, e1, q => by exact q loc hp ia la r
  | p :: ps, S, hp, ia, la, loc, r, hz, hs, e0, e1, q => by
    rw [List.map_cons, fLoopC, e_gVar]
    simp only [List.length_cons] at hz hs
    have := addP_sz n S p
    refine add_body (n := n) (p := p) r (by lia) (by have := hs p; lia) (by simp [upd, e0]) (by simp [upd, e1]) (by simp) fun loc' hp' ia' la' r' f0 f1 => ⟨hv _ _, ?_⟩
    exact add_loop hv ps _ hp' ia' la' loc' r' (by lia) (fun m => by have := this.2 m; have := hs m; lia) f0 f1 q
theorem c_add {Q : V → Hp → Prop} {X : XA} {n : Int} {ps : List Int} (r : Own Z hp x S) (h0 : S.ready = none) (hz : S.nodes.length + ps.length ≤ 998) (hs : ∀ m, (S.succ m).length + ps.length ≤ 10000) (q : ∀ hp', Own Z hp' x (addS S n ps) → Q .none hp') : C_TS_add (.ref x :: .int n :: ps.map .int) Q X hp := by
  obtain ⟨dd, D, ia, la, R, r⟩ := r
  refine ⟨[(0, .ref x), (1, .int n), (4, .tup (ps.map .int))], ?_, ?_⟩
  · exact if_pos (by rw [List.length_map]; unfold lim; lia)
  have a5 : ∀ (Q : V → Hp → Prop), bAttr cT 5 (.ref x) Q hp = Q .none hp := fun Q => r.at (by rw [h0]; rfl) rfl
  simp [D_TS_add, ↓a5, r.inst, -Bool.exists_bool]
  refine c_getinfo r (by lia) fun hp' ia' la' r' => ?_
  have hm := getS_mem S n
  rw [r'.slot hm (k := 1) (v := .int (S.np n)) rfl rfl]
  refine ⟨by unfold lim; lia, ?_⟩
  rw [e_bInt, setS_ref (r'.hi n hm)]
  have r2 := r'.setNp (k := S.np n + ps.length) hm
  refine add_loop (n := n) (by simp) ps _ _ ia' la' _ r2 ?_ (fun m => by have := hs m; exact this) (by simp [upd, locOf_cons]) (by simp [upd, locOf_cons]) fun loc' hp2 ia2 la2 r3 => ?_
  · have := getS_len S n; simp only []; lia
  · exact q _ ⟨dd, D, ia2, la2, R, r3⟩
theorem c_sorter {Q : V → Hp → Prop} {X : XA} (q : ∀ x hp', hp x = Option.none → Own hp hp' x ⟨[], fun _ => 0, fun _ => [], none, 0, 0⟩ → Q (.ref x) hp') : dMake cT C_TS_init [] Q X hp := by
  intro x dd hx hd hne
  refine ⟨[(0, .ref x), (10, .none)], rfl, ?_⟩
  have e1 : (upd (upd hp dd (.ns [])) x (.inst cT dd)) x = some (.inst cT dd) := by simp
  have e2 : (upd (upd hp dd (.ns [])) x (.inst cT dd)) dd = some (.ns []) := by rw [upd_ne (Ne.symm hne)]; simp
  generalize hh : upd (upd hp dd (.ns [])) x (.inst cT dd) = hp1 at e1 e2
  simp [D_TS_init]
  intro D hD ep
  have hDx : x ≠ D := ne_none e1 hD
  have hDd : dd ≠ D := ne_none e2 hD
  have m1 : ∀ o, (upd (upd hp1 D (.dict [] ep)) dd o) x = some (.inst cT dd) := fun o => by rw [upd_ne hne, upd_ne hDx]; exact e1
  have m2 : ∀ o, (upd (upd hp1 D (.dict [] ep)) dd o) dd = some o := fun o => upd_same _ _ _
  have uu : ∀ o o', upd (upd (upd hp1 D (.dict [] ep)) dd o) dd o' = upd (upd hp1 D (.dict [] ep)) dd o' := fun o o' => by funext j; simp only [upd]; split <;> rfl
  have sA : ∀ (fs : List (Nat × V)) (i : Nat) (v : V) (K : Hp → Prop), fs.length ≤ 10 → bSetA cT i (.ref x) v K (upd (upd hp1 D (.dict [] ep)) dd (.ns fs)) = K (upd (upd hp1 D (.dict [] ep)) dd (.ns (fSet fs i v))) := fun fs i v K hl => by rw [setA_ref (m1 _) (m2 _) (by lia), uu]
  have s0 : ∀ (i : Nat) (v : V) (K : Hp → Prop), bSetA cT i (.ref x) v K (upd hp1 D (.dict [] ep)) = K (upd (upd hp1 D (.dict [] ep)) dd (.ns (fSet [] i v))) := fun i v K => setA_ref (by rw [upd_ne hDx]; exact e1) (by rw [upd_ne hDd]; exact e2) (by simp)
  simp [s0, sA, fSet]
  have gr1 : Grow hp hp1 := by
    intro b o e
    have n1 : b ≠ dd := ne_none e hd
    have n2 : b ≠ x := ne_none e hx
    rw [← hh, upd_ne n2, upd_ne n1]; exact e
  refine q x _ hx ⟨dd, D, fun _ => 0, fun _ => 0, 0, ⟨m1 _, m2 _, ⟨ep, ?_⟩, by simp, by simp, by simp, by simp, by simp, by simp, by simp, by simp, ?_, hx, hd, gr1.back hD, by simp, by simp, by simp⟩⟩
  · rw [upd_ne (Ne.symm hDd)]; simp
  · exact (gr1.upd (gr1.back hD)).upd hd
end
end Mine
namespace Mine
section
variable {Z hp : Hp} {x dd D R : Addr} {ia la : Int → Addr} {S : SS}
noncomputable def outS (S : SS) (r : List Int) : SS := r.foldl (fun S n => { S with np := setF S.np n (-1) }) S
theorem outS_nodes : ∀ (r : List Int) (S : SS), (outS S r).nodes = S.nodes ∧ (outS S r).succ = S.succ ∧ (outS S r).ready = S.ready ∧ (outS S r).pass = S.pass ∧ (outS S r).fin = S.fin ∧ ∀ m, (outS S r).np m = if m ∈ r then -1 else S.np m
  | [], S => ⟨rfl, rfl, rfl, rfl, rfl, fun m => by simp [outS]⟩
  | n :: r, S => by
    obtain ⟨h1, h2, h3, h4, h5, h6⟩ := outS_nodes r { S with np := setF S.np n (-1) }
    refine ⟨h1, h2, h3, h4, h5, fun m => ?_⟩
    have : (outS S (n :: r)).np m = (outS { S with np := setF S.np n (-1) } r).np m := rfl
    rw [this, h6]
    simp only [setF, List.mem_cons]
    by_cases c : m ∈ r <;> by_cases c2 : m = n <;> simp [c, c2]
theorem Rep.item (r : Rep Z hp x dd D ia la R S) {n : Int} (hn : n ∈ S.nodes) {Q : V → Hp → Prop} : bItem (.ref D) (.int n) Q hp = Q (.ref (ia n)) hp := by
  obtain ⟨ep, hD⟩ := r.hD
  exact item_dict hD (by rw [find_nodes, if_pos hn])
theorem ready_body {R' : Fw → Loc → Hp → Prop} {X : XS} {loc : Loc} {n : Int} (r : Rep Z hp x dd D ia la R S) (hn : n ∈ S.nodes) (e13 : loc 13 = some (.ref D)) (e1 : loc 1 = some (.int n))
    (q : ∀ hp', Rep Z hp' x dd D ia la R { S with np := setF S.np n (-1) } → R' .next loc hp') : L_TS_get_ready_1 R' X loc hp := by
  simp [L_TS_get_ready_1, ↓rd e13, ↓rd e1, ↓r.item hn, ↓setS_ref (r.hi n hn), slSet]
  exact q _ (r.setNp hn)
theorem ready_loop {Q : Fw → Loc → Hp → Prop} {v : V} {hp0 : Hp} (hv : ∀ h h', same v h h') : ∀ (ns : List Int) (S : SS) (hp : Hp) (loc : Loc), Rep Z hp x dd D ia la R S → (∀ n ∈ ns, n ∈ S.nodes) → loc 13 = some (.ref D) →
    (∀ loc' hp', Rep Z hp' x dd D ia la R (outS S ns) → (∀ i, i ≠ 1 → loc' i = loc i) → Q .next loc' hp') → fLoop v hp0 (gVar 1) L_TS_get_ready_1 Q (ns.map .int) loc hp
  | [], S, hp, loc, r, _, e, q => by exact q loc hp r fun _ _ => rfl
  | n :: ns, S, hp, loc, r, h, e, q => by
    rw [List.map_cons, fLoopC, e_gVar]
    refine ready_body (n := n) r (h n List.mem_cons_self) (by simp [upd, e]) (by simp) fun hp' r' => ⟨hv _ _, ?_⟩
    exact ready_loop hv ns _ hp' _ r' (fun m hm => h m (List.mem_cons_of_mem _ hm)) (by simp [upd, e]) fun loc' hp2 r2 h2 => q loc' hp2 r2 fun i hi => by rw [h2 i hi, upd_ne hi]
noncomputable def readyS (S : SS) (r : List Int) : SS := { outS S r with ready := some [], pass := S.pass + r.length }
theorem c_ready {Q : V → Hp → Prop} {X : XA} {r : List Int} (o : Own Z hp x S) (hr : S.ready = some r) (hn : ∀ n ∈ r, n ∈ S.nodes) (hl : r.length ≤ 1000) (q : ∀ hp', Own Z hp' x (readyS S r) → Q (.tup (r.map .int)) hp') : C_TS_get_ready [.ref x] Q X hp := by
  obtain ⟨dd, D, ia, la, R, o⟩ := o
  refine ⟨[(0, .ref x)], by simp [bdPos], ?_⟩
  have hrv : rdy R S.ready = .ref R := by rw [hr]; rfl
  have a5 : ∀ (Q : V → Hp → Prop), bAttr cT 5 (.ref x) Q hp = Q (.ref R) hp := fun Q => o.at (by rw [hrv]; rfl) rfl
  have a2 : ∀ (Q : V → Hp → Prop), bAttr cT 2 (.ref x) Q hp = Q (.ref D) hp := fun Q => o.at rfl rfl
  have hlim : (r.map V.int).length ≤ lim := by simp; unfold lim; lia
  simp [D_TS_get_ready, ↓a5, ↓a2, ↓tupL_ref (o.hr r hr) hlim, -Bool.exists_bool]
  refine ready_loop (by simp) r S hp _ o hn (by simp [upd]) fun loc' hp' o' hloc => ?_
  obtain ⟨h1, h2, h3, h4, h5, h6⟩ := outS_nodes r S
  have e0 : loc' 0 = some (.ref x) := by rw [hloc 0 (by decide)]; simp [upd, locOf_cons]
  have e3 : loc' 3 = some (.tup (r.map .int)) := by rw [hloc 3 (by decide)]; simp [upd]
  have hr' : (outS S r).ready = some r := by rw [h3]; exact hr
  have b5 : ∀ (Q : V → Hp → Prop), bAttr cT 5 (.ref x) Q hp' = Q (.ref R) hp' := fun Q => o'.at (by rw [hr']; rfl) rfl
  simp only [rd e0, b5]
  refine ⟨isLst_ref (o'.hr r hr'), R, _, rfl, o'.hr r hr', hlim, ?_⟩
  have o2 := o'.setReady (q := []) hr'
  rw [List.map_nil] at o2
  have b11 : ∀ (Q : V → Hp → Prop), bAttr cT 11 (.ref x) Q (upd hp' R (.lst [])) = Q (.int S.pass) (upd hp' R (.lst [])) := fun Q => o2.at (by simp only [rdy]; rw [h4]; rfl) rfl
  simp only [b11, rd e3]
  have hrl : r.length ≤ lim := by unfold lim; lia
  simp [hrl]
  rw [setA_ref o2.hx o2.hd (by simp)]
  have o3 := o2.setD (p := S.pass + r.length) (f := (outS S r).fin)
  refine q _ ⟨dd, D, ia, la, R, ?_⟩
  simpa [fSet, readyS] using o3
theorem c_active {Q : V → Hp → Prop} {X : XA} {r : List Int} (o : Own Z hp x S) (hr : S.ready = some r) (hl : r.length ≤ 1000) (q : Q (.bool (decide (S.fin < S.pass) || !r.isEmpty)) hp) : C_TS_is_active [.ref x] Q X hp := by
  obtain ⟨dd, D, ia, la, R, o⟩ := o
  refine ⟨[(0, .ref x)], by simp [bdPos], ?_⟩
  have a5 : ∀ (Q : V → Hp → Prop), bAttr cT 5 (.ref x) Q hp = Q (.ref R) hp := fun Q => o.at (by rw [hr]; rfl) rfl
  have a11 : ∀ (Q : V → Hp → Prop), bAttr cT 11 (.ref x) Q hp = Q (.int S.pass) hp := fun Q => o.at rfl rfl
  have a12 : ∀ (Q : V → Hp → Prop), bAttr cT 12 (.ref x) Q hp = Q (.int S.fin) hp := fun Q => o.at rfl rfl
  have hlim : r.length ≤ lim := by unfold lim; lia
  simp [D_TS_is_active, ↓a5, ↓a11, ↓a12, -Bool.exists_bool]
  split
  · rename_i c; simpa [c] using q
  · rename_i c
    refine ⟨_, r.map .int, rfl, listOf_ref (o.hr r hr), by simpa using hlim, ?_⟩
    have : (r.map V.int).isEmpty = r.isEmpty := by cases r <;> rfl
    rw [this]; simpa [c] using q
noncomputable def decS (S : SS) (s : Int) : SS := { S with np := setF S.np s (S.np s - 1), ready := if S.np s - 1 = 0 then S.ready.map (· ++ [s]) else S.ready }
noncomputable def doneS (S : SS) (n : Int) : SS := { (S.succ n).foldl decS { S with np := setF S.np n (-2) } with fin := S.fin + 1 }
theorem dec_body {R' : Fw → Loc → Hp → Prop} {X : XS} {loc : Loc} {s : Int} {r : List Int} (o : Rep Z hp x dd D ia la R S) (hn : s ∈ S.nodes) (hr : S.ready = some r) (hl : r.length ≤ 10000) (e0 : loc 0 = some (.ref x)) (e13 : loc 13 = some (.ref D)) (e23 : loc 23 = some (.int s))
    (q : ∀ loc' hp', Rep Z hp' x dd D ia la R (decS S s) → (∀ i, i ≠ 24 → loc' i = loc i) → R' .next loc' hp') : L_TS_done_1 R' X loc hp := by
  have o2 := o.setNp (k := S.np s - 1) hn
  have sl : ∀ (Q : V → Hp → Prop), bSlot cN 1 (.ref (ia s)) Q (upd hp (ia s) (.sl cN [some (.int s), some (.int (S.np s - 1)), some (.ref (la s))])) = Q (.int (S.np s - 1)) (upd hp (ia s) (vI s (S.np s - 1) (la s))) := fun Q => sl_ref (upd_same ..) rfl rfl
  have a5 : ∀ (Q : V → Hp → Prop), bAttr cT 5 (.ref x) Q (upd hp (ia s) (vI s (S.np s - 1) (la s))) = Q (.ref R) (upd hp (ia s) (vI s (S.np s - 1) (la s))) := fun Q => o2.at (by simp only [hr, rdy]; rfl) rfl
  simp [L_TS_done_1, ↓rd e13, ↓rd e23, ↓rd e0, ↓o.item hn, ↓o.slot hn (k := 1) (v := .int (S.np s)) rfl rfl, ↓setS_ref (o.hi s hn), slSet, ↓sl, ↓a5, -Bool.exists_bool]
  split
  · rename_i c
    refine ⟨isLst_ref (o2.hr r hr), e_append (o2.hr r hr) (by simp; unfold lim; lia) ?_⟩
    rw [show List.map V.int r ++ [V.int s] = (r ++ [s]).map .int by simp]
    have o3 := o2.setReady (q := r ++ [s]) hr
    refine q _ _ ?_ fun i hi => upd_ne hi
    simpa [decS, c, hr] using o3
  · rename_i c
    refine q _ _ ?_ fun i hi => upd_ne hi
    simpa [decS, c] using o2
theorem dec_loop {Q : Fw → Loc → Hp → Prop} {hp0 : Hp} {n : Int} : ∀ (ss : List Int) (S : SS) (hp : Hp) (loc : Loc) (r : List Int), Rep Z hp x dd D ia la R S → n ∈ S.nodes → hp0 (la n) = some (.lst ((S.succ n).map .int)) → (∀ s ∈ ss, s ∈ S.nodes) → S.ready = some r → r.length + ss.length ≤ 10000 → loc 0 = some (.ref x) → loc 13 = some (.ref D) →
    (∀ loc' hp', Rep Z hp' x dd D ia la R (ss.foldl decS S) → (∀ i, i ≠ 23 → i ≠ 24 → loc' i = loc i) → Q .next loc' hp') → fLoop (.ref (la n)) hp0 (gVar 23) L_TS_done_1 Q (ss.map .int) loc hp
  | [], S, hp, loc, r, o, _, _, _, _, _, _, _, q => by exact q loc hp o fun _ _ _ => rfl
  | s :: ss, S, hp, loc, r, o, hn, h0, h, hr, hl, e0, e13, q => by
    rw [List.map_cons, fLoopC, e_gVar]
    simp only [List.length_cons] at hl
    refine dec_body (s := s) o (h s List.mem_cons_self) hr (by lia) (by simp [upd, e0]) (by simp [upd, e13]) (by simp) fun loc' hp' o' hloc => ⟨?_, ?_⟩
    · show hp' (la n) = hp0 (la n)
      rw [h0, o'.hl n hn]; rfl
    · have hr' : ∃ r', (decS S s).ready = some r' ∧ r'.length ≤ r.length + 1 := by
        simp only [decS, hr]
        split
        · exact ⟨_, rfl, by simp⟩
        · exact ⟨_, rfl, by lia⟩
      obtain ⟨r', hr', hl'⟩ := hr'
      refine dec_loop ss _ hp' loc' r' o' hn h0 (fun m hm => h m (List.mem_cons_of_mem _ hm)) hr' (by lia) ?_ ?_ fun loc2 hp2 o2 h2 => q loc2 hp2 o2 fun i h1 h3 => ?_
      · rw [hloc 0 (by decide)]; simp [upd, e0]
      · rw [hloc 13 (by decide)]; simp [upd, e13]
      · rw [h2 i h1 h3, hloc i h3, upd_ne h1]
theorem foldDec_nodes : ∀ (ss : List Int) (S : SS), (ss.foldl decS S).nodes = S.nodes ∧ (ss.foldl decS S).succ = S.succ ∧ (ss.foldl decS S).pass = S.pass ∧ (ss.foldl decS S).fin = S.fin
  | [], S => ⟨rfl, rfl, rfl, rfl⟩
  | s :: ss, S => foldDec_nodes ss (decS S s)
theorem done_body {R' : Fw → Loc → Hp → Prop} {X : XS} {loc : Loc} {n : Int} {r : List Int} (o : Rep Z hp x dd D ia la R S) (hn : n ∈ S.nodes) (hm : S.np n = -1) (hs : ∀ s ∈ S.succ n, s ∈ S.nodes) (hr : S.ready = some r) (hl : r.length + (S.succ n).length ≤ 10000) (e0 : loc 0 = some (.ref x)) (e13 : loc 13 = some (.ref D)) (e1 : loc 1 = some (.int n))
    (q : ∀ loc' hp', Rep Z hp' x dd D ia la R (doneS S n) → (loc' 0 = loc 0 ∧ loc' 13 = loc 13) → R' .next loc' hp') : L_TS_done_2 R' X loc hp := by
  obtain ⟨ep, hD⟩ := o.hD
  have dg : ∀ (Q : V → Hp → Prop) (X : XA), dGet [.ref D, .int n] Q X hp = Q (.ref (ia n)) hp := by
    intro Q X
    apply propext; constructor
    · rintro ⟨a, es, ep', k, h1, h2, h3⟩
      simp only [List.cons.injEq, V.ref.injEq, V.int.injEq, and_true] at h1
      obtain ⟨rfl, rfl⟩ := h1
      rw [hD] at h2; cases h2; rw [find_nodes, if_pos hn] at h3; exact h3
    · intro h; exact ⟨_, _, _, _, rfl, hD, by rw [find_nodes, if_pos hn]; exact h⟩
  have isd : isDct hp (.ref D) := ⟨D, _, ep, rfl, hD⟩
  have o2 := o.setNp (k := -2) hn
  have sl2 : ∀ (Q : V → Hp → Prop), bSlot cN 2 (.ref (ia n)) Q (upd hp (ia n) (.sl cN [some (.int n), some (.int (-2)), some (.ref (la n))])) = Q (.ref (la n)) (upd hp (ia n) (vI n (-2) (la n))) := fun Q => sl_ref (upd_same ..) rfl rfl
  simp [L_TS_done_2, ↓rd e13, ↓rd e1, ↓rd e0, ↓dg, isd, ↓o.slot hn (k := 1) (v := .int (S.np n)) rfl rfl, hm, ↓setS_ref (o.hi n hn), slSet, ↓sl2, -Bool.exists_bool]
  refine ⟨(S.succ n).map .int, iter_lstref (o2.hl n hn), ?_⟩
  refine dec_loop (S.succ n) _ _ _ r o2 hn (o2.hl n hn) hs hr hl (by simp [upd, e0]) (by simp [upd, e13]) fun loc' hp' o' hloc => ?_
  have f0 : loc' 0 = some (.ref x) := by rw [hloc 0 (by decide) (by decide)]; simp [upd, e0]
  have f13 : loc' 13 = some (.ref D) := by rw [hloc 13 (by decide) (by decide)]; simp [upd, e13]
  have hf := foldDec_nodes (S.succ n) { S with np := setF S.np n (-2) }
  have b12 : ∀ (Q : V → Hp → Prop), bAttr cT 12 (.ref x) Q hp' = Q (.int S.fin) hp' := fun Q => o'.at (by rw [hf.2.2.2]; rfl) rfl
  simp only [rd f0, b12, e_bInt]
  rw [setA_ref o'.hx o'.hd (by simp)]
  have o3 := o'.setD (p := ((S.succ n).foldl decS { S with np := setF S.np n (-2) }).pass) (f := S.fin + 1)
  refine q _ _ ?_ ⟨by rw [f0, e0], by rw [f13, e13]⟩
  simpa [fSet, doneS] using o3
end
end Mine
namespace Mine
section
variable {Z hp : Hp} {x dd D R : Addr} {ia la : Int → Addr} {S : SS}
noncomputable def DoneOk : SS → List Int → Prop
  | _, [] => True
  | S, n :: ns => n ∈ S.nodes ∧ S.np n = -1 ∧ (∀ s ∈ S.succ n, s ∈ S.nodes) ∧ (∃ r, S.ready = some r ∧ r.length + (S.succ n).length ≤ 10000) ∧ DoneOk (doneS S n) ns
theorem done_loop {Q : Fw → Loc → Hp → Prop} {v : V} {hp0 : Hp} (hv : ∀ h h', same v h h') : ∀ (ns : List Int) (S : SS) (hp : Hp) (loc : Loc), Rep Z hp x dd D ia la R S → DoneOk S ns → loc 0 = some (.ref x) → loc 13 = some (.ref D) →
    (∀ loc' hp', Rep Z hp' x dd D ia la R (ns.foldl doneS S) → Q .next loc' hp') → fLoop v hp0 (gVar 1) L_TS_done_2 Q (ns.map .int) loc hp
  | [], S, hp, loc, o, _, _, _, q => by exact q loc hp o
  | n :: ns, S, hp, loc, o, ⟨h1, h2, h3, ⟨r, h4, h5⟩, h6⟩, e0, e13, q => by
    rw [List.map_cons, fLoopC, e_gVar]
    refine done_body (n := n) (r := r) o h1 h2 h3 h4 h5 (by simp [upd, e0]) (by simp [upd, e13]) (by simp) fun loc' hp' o' hl => ⟨hv _ _, ?_⟩
    exact done_loop hv ns _ hp' loc' o' h6 (by rw [hl.1]; simp [upd, e0]) (by rw [hl.2]; simp [upd, e13]) q
theorem c_done {Q : V → Hp → Prop} {X : XA} {ns : List Int} (o : Own Z hp x S) (hk : DoneOk S ns) (hl : ns.length ≤ 1000) (hr : S.ready ≠ none) (q : ∀ hp', Own Z hp' x (ns.foldl doneS S) → Q .none hp') : C_TS_done (.ref x :: ns.map .int) Q X hp := by
  obtain ⟨dd, D, ia, la, R, o⟩ := o
  refine ⟨[(0, .ref x), (21, .tup (ns.map .int))], ?_, ?_⟩
  · exact if_pos (by rw [List.length_map]; unfold lim; lia)
  obtain ⟨r, hr⟩ : ∃ r, S.ready = some r := by
    cases h : S.ready with
    | none => exact absurd h hr
    | some r => exact ⟨r, rfl⟩
  have a5 : ∀ (Q : V → Hp → Prop), bAttr cT 5 (.ref x) Q hp = Q (.ref R) hp := fun Q => o.at (by rw [hr]; rfl) rfl
  have a2 : ∀ (Q : V → Hp → Prop), bAttr cT 2 (.ref x) Q hp = Q (.ref D) hp := fun Q => o.at rfl rfl
  simp [D_TS_done, ↓a5, ↓a2, -Bool.exists_bool]
  exact done_loop (by simp) ns S hp _ o hk (by simp [upd, locOf_cons]) (by simp [upd]) fun loc' hp' o' => q hp' ⟨dd, D, ia, la, R, o'⟩
noncomputable abbrev Stk := List (Int × List Int)
noncomputable def Ch (succ : Int → List Int) (B : Int → Prop) (root : Int → Prop) : Int → Stk → Prop
  | v, [] => root v
  | v, (u, rem) :: st => (∃ c, succ u = c ++ v :: rem ∧ ∀ y ∈ c, ¬ B y) ∧ Ch succ B root u st
end
end Mine
namespace Mine
noncomputable abbrev Ent := Int × List Int × Addr
noncomputable def ent : List Ent → List (Int × V)
  | [] => []
  | e :: st => ent st ++ [(e.1, V.int st.length)]
structure FS (hpS hp : Hp) (a14 a15 a16 a17 : Addr) (la : Int → Addr) (S : SS) (seen : List Int) (st : List Ent) : Prop where
  gr : Grow hpS hp
  n14 : hpS a14 = Option.none
  n15 : hpS a15 = Option.none
  n16 : hpS a16 = Option.none
  n17 : hpS a17 = Option.none
  h14 : hp a14 = some (.lst (st.reverse.map fun e => V.int e.1))
  h15 : hp a15 = some (.lst (st.reverse.map fun e => V.nxt e.2.2))
  h16 : hp a16 = some (.set seen)
  h17 : ∃ ep, hp a17 = some (.dict (ent st) ep)
  ne : a14 ≠ a15
  its : ∀ e ∈ st, e.1 ∈ S.nodes ∧ hpS e.2.2 = Option.none ∧ ∃ k, hp e.2.2 = some (.it (la e.1) k) ∧ (S.succ e.1).drop k = e.2.1
  dis : (st.map (·.2.2)).Nodup
  ndn : (st.map (·.1)).Nodup
  sin : ∀ e ∈ st, e.1 ∈ seen
  snd : seen.Nodup
  sns : ∀ s ∈ seen, s ∈ S.nodes
theorem ent_any (v : Int) : ∀ st : List Ent, (ent st).any (fun e => decide (e.1 = v)) = decide (v ∈ st.map (·.1))
  | [] => rfl
  | e :: st => by
    rw [ent, List.any_append, ent_any v st]
    simp only [List.any_cons, List.any_nil, Bool.or_false, List.map_cons, List.mem_cons, Bool.decide_or]
    have hc : decide (e.1 = v) = decide (v = e.1) := decide_eq_decide.mpr ⟨Eq.symm, Eq.symm⟩
    rw [hc, Bool.or_comm]
theorem ent_len : ∀ st : List Ent, (ent st).length = st.length
  | [] => rfl
  | e :: st => by simp [ent, ent_len st]
theorem ent_set {v : Int} {u : V} {st : List Ent} (h : v ∉ st.map (·.1)) : eSet (ent st) v u = ent st ++ [(v, u)] := by
  unfold eSet
  rw [ent_any, if_neg (by simpa using h)]
theorem ent_keys : ∀ (st : List Ent) (p : Int × V), p ∈ ent st → p.1 ∈ st.map (·.1)
  | e :: st, p, h => by
    rw [ent] at h
    rcases List.mem_append.mp h with h | h
    · exact List.mem_cons_of_mem _ (ent_keys st p h)
    · simp at h; subst h; simp
theorem ent_del {e : Ent} {st : List Ent} (h : e.1 ∉ st.map (·.1)) : eDel (ent (e :: st)) e.1 = ent st := by
  unfold eDel
  rw [ent, List.filter_append]
  have : (ent st).filter (fun p => decide (p.1 ≠ e.1)) = ent st := by
    apply List.filter_eq_self.mpr
    intro p hp
    have := ent_keys st p hp
    simp only [decide_eq_true_eq]
    intro z; rw [z] at this; exact h this
  rw [this]; simp
noncomputable def posI (v : Int) (st : List Ent) : Nat := (st.map (·.1)).reverse.idxOf v
theorem ent_at (v : Int) : ∀ st : List Ent, (st.map (·.1)).Nodup → v ∈ st.map (·.1) → eAt (ent st) v = some (.int (posI v st : Nat))
  | e :: st, hn, hv => by
    rw [List.map_cons, List.nodup_cons] at hn
    unfold eAt
    rw [ent, List.find?_append]
    by_cases c : v ∈ st.map (·.1)
    · have ih := ent_at v st hn.2 c
      unfold eAt at ih
      cases q : (ent st).find? fun p => decide (p.1 = v) with
      | none => rw [q] at ih; cases ih
      | some p =>
        rw [q] at ih
        simp only [Option.map_some, Option.some.injEq] at ih
        simp only [Option.some_or, Option.map_some, ih]
        congr 3
        unfold posI
        rw [List.map_cons, List.reverse_cons, List.idxOf_append, if_pos (by simpa using c)]
    · have hve : v = e.1 := by simpa [c] using hv
      subst hve
      have : (ent st).find? (fun p => decide (p.1 = e.1)) = none := by
        rw [List.find?_eq_none]
        intro p hp z
        simp only [decide_eq_true_eq] at z
        have := ent_keys st p hp
        rw [z] at this; exact c this
      rw [this]
      simp only [Option.none_or, List.find?_cons, decide_true, Option.map_some]
      congr 3
      unfold posI
      rw [List.map_cons, List.reverse_cons, List.idxOf_append, if_neg (by simpa using c)]
      simp
section
variable {hpS hp : Hp} {a14 a15 a16 a17 : Addr} {la : Int → Addr} {S : SS} {seen : List Int} {st : List Ent}
theorem FS.n_it (f : FS hpS hp a14 a15 a16 a17 la S seen st) {e : Ent} (he : e ∈ st) : e.2.2 ≠ a14 ∧ e.2.2 ≠ a15 ∧ e.2.2 ≠ a16 ∧ e.2.2 ≠ a17 := by
  obtain ⟨_, _, k, h, _⟩ := f.its e he
  obtain ⟨ep, h17⟩ := f.h17
  exact ⟨ne_of h f.h14 (by simp), ne_of h f.h15 (by simp), ne_of h f.h16 (by simp), ne_of h h17 (by simp)⟩
theorem FS.n16x (f : FS hpS hp a14 a15 a16 a17 la S seen st) : a16 ≠ a14 ∧ a16 ≠ a15 ∧ a16 ≠ a17 ∧ a17 ≠ a14 ∧ a17 ≠ a15 := by
  obtain ⟨ep, h17⟩ := f.h17
  exact ⟨ne_of f.h16 f.h14 (by simp), ne_of f.h16 f.h15 (by simp), ne_of f.h16 h17 (by simp), ne_of h17 f.h14 (by simp), ne_of h17 f.h15 (by simp)⟩
theorem FS.push (f : FS hpS hp a14 a15 a16 a17 la S seen st) {v : Int} {I : Addr} {hp' : Hp} {ep : Nat} (hv : v ∉ seen) (hn : v ∈ S.nodes) (hI : hp I = Option.none)
    (e14 : hp' a14 = some (.lst ((st.reverse.map fun e => V.int e.1) ++ [.int v]))) (e15 : hp' a15 = some (.lst ((st.reverse.map fun e => V.nxt e.2.2) ++ [.nxt I]))) (e16 : hp' a16 = some (.set (v :: seen))) (e17 : hp' a17 = some (.dict (ent st ++ [(v, V.int st.length)]) ep))
    (eI : hp' I = some (.it (la v) 0)) (eo : ∀ a, a ≠ a14 → a ≠ a15 → a ≠ a16 → a ≠ a17 → a ≠ I → hp' a = hp a) : FS hpS hp' a14 a15 a16 a17 la S (v :: seen) ((v, S.succ v, I) :: st) := by
  refine ⟨?_, f.n14, f.n15, f.n16, f.n17, by simpa using e14, by simpa using e15, e16, ⟨ep, by simpa [ent] using e17⟩, f.ne, fun e he => ?_, ?_, ?_, fun e he => ?_, ?_, fun s hs => ?_⟩
  · intro a o e
    rw [eo a (ne_none e f.n14) (ne_none e f.n15) (ne_none e f.n16) (ne_none e f.n17) (ne_none (f.gr _ _ e) hI)]
    exact f.gr _ _ e
  · rcases List.mem_cons.mp he with rfl | he
    · exact ⟨hn, f.gr.back hI, 0, eI, by simp⟩
    · obtain ⟨h1, h2, k, h3, h4⟩ := f.its e he
      obtain ⟨m1, m2, m3, m4⟩ := f.n_it he
      exact ⟨h1, h2, k, by rw [eo _ m1 m2 m3 m4 (ne_none h3 hI)]; exact h3, h4⟩
  · rw [List.map_cons, List.nodup_cons]
    refine ⟨fun h => ?_, f.dis⟩
    obtain ⟨e, he, h⟩ := List.mem_map.mp h
    obtain ⟨_, _, k, h3, _⟩ := f.its e he
    exact ne_none h3 hI h
  · rw [List.map_cons, List.nodup_cons]
    refine ⟨fun h => ?_, f.ndn⟩
    obtain ⟨e, he, h⟩ := List.mem_map.mp h
    have := f.sin e he
    rw [h] at this; exact hv this
  · rcases List.mem_cons.mp he with rfl | he
    · exact List.mem_cons_self
    · exact List.mem_cons_of_mem _ (f.sin e he)
  · rw [List.nodup_cons]; exact ⟨hv, f.snd⟩
  · rcases List.mem_cons.mp hs with rfl | hs
    · exact hn
    · exact f.sns s hs
theorem FS.next {u s : Int} {rem : List Int} {I : Addr} (f : FS hpS hp a14 a15 a16 a17 la S seen ((u, s :: rem, I) :: st)) {k : Nat} (hk : hp I = some (.it (la u) k)) (hd : (S.succ u).drop k = s :: rem) : FS hpS (upd hp I (.it (la u) (k + 1))) a14 a15 a16 a17 la S seen ((u, rem, I) :: st) := by
  obtain ⟨m1, m2, m3, m4⟩ := f.n_it (List.mem_cons_self)
  obtain ⟨ep, h17⟩ := f.h17
  have hI := (f.its _ List.mem_cons_self).2.1
  refine ⟨f.gr.upd hI, f.n14, f.n15, f.n16, f.n17, by rw [upd_ne (Ne.symm m1)]; simpa using f.h14, by rw [upd_ne (Ne.symm m2)]; simpa using f.h15, by rw [upd_ne (Ne.symm m3)]; exact f.h16, ⟨ep, by rw [upd_ne (Ne.symm m4)]; simpa [ent] using h17⟩, f.ne, fun e he => ?_, f.dis, f.ndn, fun e he => ?_, f.snd, f.sns⟩
  · rcases List.mem_cons.mp he with rfl | he
    · refine ⟨(f.its _ List.mem_cons_self).1, hI, k + 1, by simp, ?_⟩
      have : (S.succ u).drop (k + 1) = ((S.succ u).drop k).drop 1 := by rw [List.drop_drop]
      rw [this, hd]; rfl
    · obtain ⟨h1, h2, k', h3, h4⟩ := f.its e (List.mem_cons_of_mem _ he)
      refine ⟨h1, h2, k', ?_, h4⟩
      rw [upd_ne]; exact h3
      intro z
      have := f.dis
      rw [List.map_cons, List.nodup_cons] at this
      exact this.1 (List.mem_map.mpr ⟨e, he, z⟩)
  · rcases List.mem_cons.mp he with rfl | he
    · exact f.sin (u, s :: rem, I) List.mem_cons_self
    · exact f.sin e (List.mem_cons_of_mem _ he)
theorem FS.pop {u : Int} {rem : List Int} {I : Addr} (f : FS hpS hp a14 a15 a16 a17 la S seen ((u, rem, I) :: st)) {hp' : Hp} {ep : Nat}
    (e14 : hp' a14 = some (.lst (st.reverse.map fun e => V.int e.1))) (e15 : hp' a15 = some (.lst (st.reverse.map fun e => V.nxt e.2.2))) (e17 : hp' a17 = some (.dict (ent st) ep)) (eo : ∀ a, a ≠ a14 → a ≠ a15 → a ≠ a17 → a ≠ I → hp' a = hp a) : FS hpS hp' a14 a15 a16 a17 la S seen st := by
  obtain ⟨m1, m2, m3, m4⟩ := f.n_it (List.mem_cons_self)
  have hI := (f.its _ List.mem_cons_self).2.1
  obtain ⟨p1, p2, p3, p4, p5⟩ := f.n16x
  have dis := f.dis
  have ndn := f.ndn
  rw [List.map_cons, List.nodup_cons] at dis ndn
  refine ⟨?_, f.n14, f.n15, f.n16, f.n17, e14, e15, by rw [eo a16 p1 p2 p3 (Ne.symm m3)]; exact f.h16, ⟨ep, e17⟩, f.ne, fun e he => ?_, dis.2, ndn.2, fun e he => f.sin e (List.mem_cons_of_mem _ he), f.snd, f.sns⟩
  · intro a o e
    rw [eo a (ne_none e f.n14) (ne_none e f.n15) (ne_none e f.n17) (ne_none e hI)]
    exact f.gr _ _ e
  · obtain ⟨h1, h2, k', h3, h4⟩ := f.its e (List.mem_cons_of_mem _ he)
    obtain ⟨r1, r2, r3, r4⟩ := f.n_it (List.mem_cons_of_mem _ he)
    refine ⟨h1, h2, k', ?_, h4⟩
    rw [eo _ r1 r2 r4]; exact h3
    intro z
    exact dis.1 (List.mem_map.mpr ⟨e, he, z⟩)
end
end Mine
namespace Mine
theorem nodup_le {α : Type} [DecidableEq α] : ∀ (xs ys : List α), xs.Nodup → (∀ x ∈ xs, x ∈ ys) → xs.length ≤ ys.length
  | [], ys, _, _ => by simp
  | x :: xs, ys, hn, h => by
    rw [List.nodup_cons] at hn
    have hx := h x List.mem_cons_self
    have := nodup_le xs (ys.erase x) hn.2 fun y hy => by
      have := h y (List.mem_cons_of_mem _ hy)
      rw [List.mem_erase_of_ne (by rintro rfl; exact hn.1 hy)]; exact this
    rw [List.length_erase_of_mem hx] at this
    have : 0 < ys.length := List.length_pos_of_mem hx
    simp only [List.length_cons]; lia
theorem itemAt_last (xs : List V) (y : V) : itemAt (xs ++ [y]) (-1) = some y := by
  unfold itemAt
  rw [if_neg (by lia), if_pos (by simp; lia)]
  have : (-1 + ((xs ++ [y]).length : Int)).toNat = xs.length := by simp; lia
  rw [this]; simp
section
variable {Z hpS hp : Hp} {x dd D R a14 a15 a16 a17 : Addr} {ia la : Int → Addr} {S : SS} {seen : List Int} {st : List Ent}
theorem FS.len (f : FS hpS hp a14 a15 a16 a17 la S seen st) (hz : S.nodes.length ≤ 1000) : st.length ≤ 1000 ∧ seen.length ≤ 1000 := by
  have h1 := nodup_le (st.map (·.1)) S.nodes f.ndn (fun v hv => by
    obtain ⟨e, he, rfl⟩ := List.mem_map.mp hv
    exact f.sns _ (f.sin e he))
  have h2 := nodup_le seen S.nodes f.snd f.sns
  simp only [List.length_map] at h1
  lia
structure LC (loc : Loc) (D a14 a15 a16 a17 : Addr) : Prop where
  l13 : loc 13 = some (.ref D)
  l14 : loc 14 = some (.ref a14)
  l15 : loc 15 = some (.ref a15)
  l16 : loc 16 = some (.ref a16)
  l17 : loc 17 = some (.ref a17)
theorem LC.upd {loc : Loc} {v : V} (l : LC loc D a14 a15 a16 a17) : LC (Mine.upd loc 1 v) D a14 a15 a16 a17 :=
  ⟨by rw [upd_ne (by decide)]; exact l.l13, by rw [upd_ne (by decide)]; exact l.l14, by rw [upd_ne (by decide)]; exact l.l15, by rw [upd_ne (by decide)]; exact l.l16, by rw [upd_ne (by decide)]; exact l.l17⟩
theorem fc_body1 {R' : Fw → Loc → Hp → Prop} {X : XS} {loc : Loc} {u : Int} {rem : List Int} {I : Addr} (r : Rep Z hpS x dd D ia la R S) (f : FS hpS hp a14 a15 a16 a17 la S seen ((u, rem, I) :: st)) (l : LC loc D a14 a15 a16 a17)
    (q1 : ∀ s rem' hp', rem = s :: rem' → FS hpS hp' a14 a15 a16 a17 la S seen ((u, rem', I) :: st) → R' .brk (upd loc 1 (.int s)) hp')
    (q2 : ∀ hp', rem = [] → FS hpS hp' a14 a15 a16 a17 la S seen st → R' .next loc hp') : L_TS__find_cycle_1 R' X loc hp := by
  obtain ⟨hl1, hl2⟩ := f.len r.sz
  simp only [List.length_cons] at hl1
  obtain ⟨hu, hIS, k, hk, hd⟩ := f.its _ List.mem_cons_self
  simp only [] at hk hd hu hIS
  have h15 := f.h15
  have h14 := f.h14
  simp only [List.reverse_cons, List.map_append, List.map_cons, List.map_nil] at h15 h14
  obtain ⟨ep, h17⟩ := f.h17
  obtain ⟨m1, m2, m3, m4⟩ := f.n_it (List.mem_cons_self)
  obtain ⟨p1, p2, p3, p4, p5⟩ := f.n16x
  have hlim : lim = 1000000 := rfl
  have hsl := f.gr _ _ (r.hl u hu)
  have hle : ((st.reverse.map fun e => V.nxt e.2.2) ++ [V.nxt I]).length ≤ lim := by simp; lia
  simp [L_TS__find_cycle_1, ↓rd l.l15, ↓item_list h15 hle (itemAt_last _ _), -Bool.exists_bool]
  refine ⟨_, _, hk, _, hsl, ?_⟩
  rw [List.getElem?_map]
  cases rem with
  | cons s rem' =>
    have : (S.succ u)[k]? = some s := by
      have := congrArg (fun z : List Int => z[0]?) hd
      simpa using this
    rw [this]
    simp only [Option.map_some]
    exact q1 s rem' _ rfl (f.next hk hd)
  | nil =>
    have : (S.succ u)[k]? = none := by
      have := congrArg (fun z : List Int => z[0]?) hd
      simpa using this
    rw [this]
    simp only [Option.map_none]
    have g14 : (del hp I) a14 = some (.lst ((st.reverse.map fun e => V.int e.1) ++ [.int u])) := by rw [del_ne (Ne.symm m1)]; exact h14
    have g15 : (del hp I) a15 = some (.lst ((st.reverse.map fun e => V.nxt e.2.2) ++ [.nxt I])) := by rw [del_ne (Ne.symm m2)]; exact h15
    have g17 : (del hp I) a17 = some (.dict (ent ((u, [], I) :: st)) ep) := by rw [del_ne (Ne.symm m4)]; exact h17
    simp only [rd l.l17, rd l.l14, rd l.l15]
    have hun : u ∉ st.map (·.1) := by have := f.ndn; rw [List.map_cons, List.nodup_cons] at this; exact this.1
    refine ⟨isLst_ref g14, a14, _, V.int u, rfl, g14, by simp; lia, by simp, ?_⟩
    simp only [List.dropLast_concat]
    refine ⟨a17, u, _, ep, rfl, rfl, by rw [upd_ne p4]; exact g17, by rw [ent_len]; simp; lia, ?_, fun ep' => ?_⟩
    · rw [ent_at u _ f.ndn (by simp)]; rfl
    · have f15 : (upd (upd (del hp I) a14 (.lst (st.reverse.map fun e => V.int e.1))) a17 (.dict (eDel (ent ((u, [], I) :: st)) u) ep')) a15 = some (.lst ((st.reverse.map fun e => V.nxt e.2.2) ++ [.nxt I])) := by
        rw [upd_ne (Ne.symm p5), upd_ne (Ne.symm f.ne)]; exact g15
      refine ⟨isLst_ref f15, a15, _, V.nxt I, rfl, f15, by simp; lia, by simp, ?_⟩
      simp only [List.dropLast_concat]
      refine q2 _ rfl (f.pop (ep := ep') ?_ (by simp) ?_ fun a n1 n2 n3 n4 => ?_)
      · rw [upd_ne f.ne, upd_ne (Ne.symm p4)]; simp
      · rw [upd_ne p5, upd_same]; rw [show eDel (ent ((u, [], I) :: st)) u = ent st from ent_del (e := (u, [], I)) hun]
      · rw [upd_ne n2, upd_ne n3, upd_ne n1, del_ne n4]
noncomputable def unw : List Ent → Option (Int × List Ent)
  | [] => none
  | (u, [], I) :: st => unw st
  | (u, s :: rem, I) :: st => some (s, (u, rem, I) :: st)
theorem fc_inner {Q : Fw → Loc → Hp → Prop} (r : Rep Z hpS x dd D ia la R S) : ∀ (st : List Ent) (n : Nat) (hp : Hp) (loc : Loc), st.length < n → FS hpS hp a14 a15 a16 a17 la S seen st → LC loc D a14 a15 a16 a17 →
    (∀ s st' loc' hp', unw st = some (s, st') → FS hpS hp' a14 a15 a16 a17 la S seen st' → LC loc' D a14 a15 a16 a17 → loc' 1 = some (.int s) → Q .next loc' hp') → (unw st = none → ∀ hp', FS hpS hp' a14 a15 a16 a17 la S seen [] → Q .brk loc hp') →
    wLoop (tTru (dVar 14)) L_TS__find_cycle_1 (sSeq sBrk sSkip) Q n loc hp
  | [], n + 1, hp, loc, _, f, l, q1, q2 => by
    rw [wLoopC]
    have h14 : hp a14 = some (.lst []) := by simpa using f.h14
    simp only [e_tTru, e_dVar, rd l.l14, tr_ref h14]
    simp
    exact q2 rfl hp f
  | (u, rem, I) :: st, n + 1, hp, loc, hn, f, l, q1, q2 => by
    rw [wLoopC]
    simp only [List.length_cons] at hn
    have h14 := f.h14
    have hlim : lim = 1000000 := rfl
    obtain ⟨hl1, hl2⟩ := f.len r.sz
    have hne : (List.map (fun e : Ent => V.int e.1) ((u, rem, I) :: st).reverse).isEmpty = false := by simp
    simp only [e_tTru, e_dVar, rd l.l14, tr_ref h14]
    rw [hne]
    refine ⟨by simp only [List.length_map, List.length_reverse]; lia, ?_⟩
    simp only [Bool.not_false, if_true]
    refine fc_body1 r f l (fun s rem' hp' e f' => ?_) (fun hp' e f' => ?_)
    · subst e
      exact q1 s _ _ hp' rfl f' l.upd (by simp)
    · subst e
      exact fc_inner r st n hp' loc (by lia) f' l q1 q2
end
end Mine
namespace Mine
section
variable {Z hpS hp : Hp} {x dd D R a14 a15 a16 a17 : Addr} {ia la : Int → Addr} {S : SS} {seen : List Int} {st : List Ent}
noncomputable def ring (v : Int) (st : List Ent) : List Int := (st.map (·.1)).reverse.drop (posI v st) ++ [v]
theorem FS.inSeen (f : FS hpS hp a14 a15 a16 a17 la S seen st) {v : Int} {Q : V → Hp → Prop} : bIn (.int v) (.ref a16) Q hp = Q (.bool (decide (v ∈ seen))) hp := by
  apply propext; constructor
  · rintro ⟨r, h, q⟩
    obtain ⟨k, hk, rfl⟩ := (inRes_o f.h16).mp h
    cases hk; exact q
  · intro q; exact ⟨_, (inRes_o f.h16).mpr ⟨v, rfl, rfl⟩, q⟩
theorem FS.inStk (f : FS hpS hp a14 a15 a16 a17 la S seen st) {v : Int} {Q : V → Hp → Prop} : bIn (.int v) (.ref a17) Q hp = Q (.bool (decide (v ∈ st.map (·.1)))) hp := by
  obtain ⟨ep, h17⟩ := f.h17
  apply propext; constructor
  · rintro ⟨r, h, q⟩
    obtain ⟨k, hk, rfl⟩ := (inRes_o h17).mp h
    cases hk; rw [ent_any] at q; exact q
  · intro q; exact ⟨_, (inRes_o h17).mpr ⟨v, rfl, rfl⟩, by rw [ent_any]; exact q⟩
theorem fc_ring {Q : Fw → Loc → Hp → Prop} {X : XS} {loc : Loc} {v : Int} (r : Rep Z hpS x dd D ia la R S) (f : FS hpS hp a14 a15 a16 a17 la S seen st) (l : LC loc D a14 a15 a16 a17) (e1 : loc 1 = some (.int v))
    (q0 : v ∈ st.map (·.1) → Q (.ret (.lst ((ring v st).map .int))) loc hp) (q1 : v ∉ st.map (·.1) → Q .next loc hp) :
    sSeq (sIf (tBin bIn (dVar 1) (dVar 17)) (sSeq (sRet (dBin bAdd (dCut (dVar 14) (dBin bItem (dVar 17) (dVar 1)) (dCon .none) (dCon .none)) (dLst (aCons (dVar 1) aNil)))) sSkip) sSkip) sSkip Q X loc hp := by
  obtain ⟨hl1, hl2⟩ := f.len r.sz
  refine sq ?_
  rw [e_sIf, e_tBin, e_dVar, rd e1, e_dVar, rd l.l17, f.inStk, ex_bool]
  by_cases c2 : v ∈ st.map (·.1)
  · rw [decide_eq_true c2, if_pos rfl]
    obtain ⟨ep, h17⟩ := f.h17
    have hcut : cutV (st.reverse.map fun e => V.int e.1) (some (posI v st : Nat)) Option.none Option.none = ((st.map (·.1)).reverse.drop (posI v st)).map .int := by
      rw [cut_drop]
      simp [List.map_drop, Function.comp_def]
    refine sq ?_
    simp only [e_sRet, e_dBin, e_dCut, e_dVar, rd e1, rd l.l14, rd l.l17, item_dict h17 (ent_at v st f.ndn c2), e_dCon]
    refine ⟨_, some (posI v st : Nat), Option.none, Option.none, listOf_ref f.h14, by simp; unfold lim; lia, rfl, rfl, rfl, by simp, ?_⟩
    rw [hcut]
    simp only [e_dLst, e_aCons, e_dVar, rd e1, e_aNil, e_bAddL]
    refine ⟨lim2 _ (by simp), by simp; unfold lim; lia, ?_⟩
    rw [show ((st.map (·.1)).reverse.drop (posI v st)).map V.int ++ [V.int v] = (ring v st).map .int by simp [ring]]
    exact q0 c2
  · rw [decide_eq_false c2, if_neg Bool.false_ne_true]
    exact q1 c2
theorem fc_push {Q : Fw → Loc → Hp → Prop} {X : XS} {loc : Loc} {v : Int} (r : Rep Z hpS x dd D ia la R S) (f : FS hpS hp a14 a15 a16 a17 la S seen st) (l : LC loc D a14 a15 a16 a17) (e1 : loc 1 = some (.int v)) (hv : v ∈ S.nodes) (c : v ∉ seen)
    (q : ∀ I hp', FS hpS hp' a14 a15 a16 a17 la S (v :: seen) ((v, S.succ v, I) :: st) → Q .next loc hp') :
    sSeq (sExp (dMeth isSet dAdd (dVar 16) (aCons (dVar 1) aNil))) (sSeq (sExp (dMeth isLst dAppend (dVar 15) (aCons (dAttr bNextA (dCall dIter (aCons (dAttr (bSlot cN 2) (dBin bItem (dVar 13) (dVar 1))) aNil))) aNil)))
      (sSeq (sAsg (dCall dLen (aCons (dVar 14) aNil)) (gItem (dVar 17) (dVar 1))) (sSeq (sExp (dMeth isLst dAppend (dVar 14) (aCons (dVar 1) aNil))) sSkip))) Q X loc hp := by
  have hlim : lim = 1000000 := rfl
  obtain ⟨hl1, hl2⟩ := f.len r.sz
  have c2 : v ∉ st.map (·.1) := fun h => by
    obtain ⟨e, he, rfl⟩ := List.mem_map.mp h
    exact c (f.sin e he)
  obtain ⟨ep, h17⟩ := f.h17
  obtain ⟨p1, p2, p3, p4, p5⟩ := f.n16x
  obtain ⟨epD, hD⟩ := r.hD
  refine sq ?_
  rw [e_sExp, e_dMeth, e_dVar, rd l.l16, e_aCons, e_dVar, rd e1, e_aNil]
  refine ⟨⟨a16, _, rfl, f.h16⟩, a16, seen, v, rfl, f.h16, by unfold scanBound; lia, ?_⟩
  rw [if_neg c]
  refine nsq ?_
  have o1 : ∀ a, a ≠ a16 → upd hp a16 (.set (v :: seen)) a = hp a := fun a h => upd_ne h
  have g16 : upd hp a16 (.set (v :: seen)) a16 = some (.set (v :: seen)) := us
  generalize upd hp a16 (.set (v :: seen)) = hp1 at *
  have gD := (o1 _ (ne_none hD f.n16)).trans (f.gr _ _ hD)
  have gi := (o1 _ (ne_none (r.hi v hv) f.n16)).trans (f.gr _ _ (r.hi v hv))
  have gl := (o1 _ (ne_none (r.hl v hv) f.n16)).trans (f.gr _ _ (r.hl v hv))
  have g15 := (o1 _ (Ne.symm p2)).trans f.h15
  rw [e_sExp, e_dMeth, e_dVar, rd l.l15]
  refine ⟨isLst_ref g15, ?_⟩
  rw [e_aCons, e_dAttr, e_dCall, e_aCons, e_dAttr, e_dBin, e_dVar, rd l.l13, e_dVar, rd e1, item_dict gD (by rw [find_nodes, if_pos hv]), sl_ref gi (k := 2) (v := .ref (la v)) rfl rfl, e_aNil]
  refine ⟨la v, _, rfl, gl, fun I hI => ?_⟩
  have hI16 : I ≠ a16 := by rintro rfl; rw [g16] at hI; cases hI
  have n14 : a14 ≠ I := ne_none ((o1 _ (Ne.symm p1)).trans f.h14) hI
  have n15 : a15 ≠ I := ne_none g15 hI
  have n17 : a17 ≠ I := ne_none ((o1 _ (Ne.symm p3)).trans h17) hI
  have hIhp : hp I = Option.none := (o1 I hI16).symm.trans hI
  have oo : ∀ a, a ≠ a16 → a ≠ I → upd hp1 I (.it (la v) 0) a = hp a := fun a h h2 => (upd_ne h2).trans (o1 a h)
  have gI : upd hp1 I (.it (la v) 0) I = some (.it (la v) 0) := us
  have k16 := (upd_ne (v := .it (la v) 0) (Ne.symm hI16)).trans g16
  refine ⟨la v, 0, gI, ?_⟩
  generalize upd hp1 I (.it (la v) 0) = hp2 at *
  clear gD gi gl g15 g16 o1 hI hD
  rw [e_aNil]
  refine e_append (us := st.reverse.map fun e => V.nxt e.2.2) ((oo _ (Ne.symm p2) n15).trans f.h15) (by simp; lia) (nsq ?_)
  rw [e_sAsg, e_dCall, e_aCons, e_dVar, rd l.l14, e_aNil, len_ref (vs := st.reverse.map fun e => V.int e.1) ((upd_ne f.ne).trans ((oo _ (Ne.symm p1) n14).trans f.h14)) (by simp; lia), e_gItem, e_dVar, rd l.l17, e_dVar, rd e1]
  refine ⟨a17, v, rfl, rfl, ?_⟩
  rw [upd_ne p5, oo _ (Ne.symm p3) n17, h17]
  refine ⟨by rw [ent_len]; lia, fun ep' => nsq ?_⟩
  rw [ent_set c2, e_sExp, e_dMeth, e_dVar, rd l.l14, e_aCons, e_dVar, rd e1, e_aNil]
  have k14 : (upd (upd hp2 a15 (.lst ((st.reverse.map fun e => V.nxt e.2.2) ++ [.nxt I]))) a17 (.dict (ent st ++ [(v, .int (st.reverse.map fun e => V.int e.1).length)]) ep')) a14 = some (.lst (st.reverse.map fun e => V.int e.1)) :=
    (upd_ne (Ne.symm p4)).trans ((upd_ne f.ne).trans ((oo _ (Ne.symm p1) n14).trans f.h14))
  refine ⟨isLst_ref k14, e_append k14 (by simp; lia) (nx (q I _ ?_))⟩
  exact f.push (v := v) (I := I) (ep := ep') c hv hIhp us ((upd_ne (Ne.symm f.ne)).trans ((upd_ne (Ne.symm p5)).trans us)) ((upd_ne p1).trans ((upd_ne p3).trans ((upd_ne p2).trans k16))) ((upd_ne p4).trans (us.trans (by rw [List.length_map, List.length_reverse]))) ((upd_ne (Ne.symm n14)).trans ((upd_ne (Ne.symm n17)).trans ((upd_ne (Ne.symm n15)).trans gI)))
    (fun a h1 h2 h3 h4 h5 => (upd_ne h1).trans ((upd_ne h4).trans ((upd_ne h2).trans (oo a h3 h5))))
theorem fc_body2 {R' : Fw → Loc → Hp → Prop} {X : XS} {loc : Loc} {v : Int} (r : Rep Z hpS x dd D ia la R S) (f : FS hpS hp a14 a15 a16 a17 la S seen st) (l : LC loc D a14 a15 a16 a17) (e1 : loc 1 = some (.int v)) (hv : v ∈ S.nodes)
    (q0 : v ∈ seen → v ∈ st.map (·.1) → R' (.ret (.lst ((ring v st).map .int))) loc hp)
    (q1 : ∀ seen1 st1, ((v ∈ seen ∧ v ∉ st.map (·.1) ∧ seen1 = seen ∧ st1 = st) ∨ (v ∉ seen ∧ seen1 = v :: seen ∧ ∃ I, st1 = (v, S.succ v, I) :: st)) →
      (∀ s st' loc' hp', unw st1 = some (s, st') → FS hpS hp' a14 a15 a16 a17 la S seen1 st' → LC loc' D a14 a15 a16 a17 → loc' 1 = some (.int s) → R' .next loc' hp') ∧ (unw st1 = none → ∀ loc' hp', LC loc' D a14 a15 a16 a17 → FS hpS hp' a14 a15 a16 a17 la S seen1 [] → R' .brk loc' hp')) : L_TS__find_cycle_2 R' X loc hp := by
  have wh : ∀ (seen1 : List Int) (st1 : List Ent) (hp1 : Hp), FS hpS hp1 a14 a15 a16 a17 la S seen1 st1 → ((v ∈ seen ∧ v ∉ st.map (·.1) ∧ seen1 = seen ∧ st1 = st) ∨ (v ∉ seen ∧ seen1 = v :: seen ∧ ∃ I, st1 = (v, S.succ v, I) :: st)) →
      nxt (sSeq (sWhile (tTru (dVar 14)) L_TS__find_cycle_1 (sSeq sBrk sSkip)) sSkip) R' X .next loc hp1 := by
    intro seen1 st1 hp1 f1 h
    obtain ⟨qa, qb⟩ := q1 seen1 st1 h
    exact nsq ⟨st1.length + 1, fc_inner r st1 _ hp1 loc (Nat.lt_succ_self _) f1 l (fun s st' loc' hp' h1 h2 h3 h4 => nx (qa s st' loc' hp' h1 h2 h3 h4)) (fun h1 hp' h2 => qb h1 loc hp' l h2)⟩
  unfold L_TS__find_cycle_2
  refine sq ?_
  rw [e_sIf, e_tBin, e_dVar, rd e1, e_dVar, rd l.l16, f.inSeen, ex_bool]
  by_cases c : v ∈ seen
  · rw [decide_eq_true c, if_pos rfl]
    exact fc_ring r f l e1 (q0 c) fun c2 => wh seen st hp f (.inl ⟨c, c2, rfl, rfl⟩)
  · rw [decide_eq_false c, if_neg Bool.false_ne_true]
    exact fc_push r f l e1 hv c fun I hp' f' => wh _ _ hp' f' (.inr ⟨c, rfl, I, rfl⟩)
end
end Mine
namespace Mine
noncomputable def toS (st : List Ent) : Stk := st.map fun e => (e.1, e.2.1)
structure GB (S : SS) (B : Int → Prop) (rank : Int → Nat) : Prop where
  cls : ∀ v ∈ S.nodes, ∀ s ∈ S.succ v, s ∈ S.nodes
  bad : ∀ v ∈ S.nodes, B v → ∃ s ∈ S.succ v, B s
  good : ∀ v ∈ S.nodes, ¬ B v → ∀ s ∈ S.succ v, ¬ B s ∧ rank s < rank v
noncomputable def InvA (S : SS) (B : Int → Prop) (root : Int → Prop) (seen : List Int) (v : Int) (st : List Ent) : Prop :=
  v ∈ S.nodes ∧ Ch S.succ B root v (toS st) ∧ (∀ s ∈ seen, s ∉ st.map (·.1) → ¬ B s) ∧ ∀ e ∈ st, e.1 ∈ S.nodes
noncomputable def InvB (S : SS) (B : Int → Prop) (root : Int → Prop) (seen : List Int) (st : List Ent) : Prop :=
  (match st with | [] => True | e :: st' => (∃ c, S.succ e.1 = c ++ e.2.1 ∧ ∀ y ∈ c, ¬ B y) ∧ Ch S.succ B root e.1 (toS st')) ∧ (∀ s ∈ seen, s ∉ st.map (·.1) → ¬ B s) ∧ ∀ e ∈ st, e.1 ∈ S.nodes
section
variable {S : SS} {B : Int → Prop} {rank : Int → Nat} {root : Int → Prop} {seen : List Int} {v : Int} {st : List Ent}
theorem invB_unw (g : GB S B rank) : ∀ (st : List Ent), InvB S B root seen st → (∀ s st', unw st = some (s, st') → InvA S B root seen s st') ∧ (unw st = none → ∀ s ∈ seen, ¬ B s)
  | [], h => ⟨fun s st' e => by (cases e), fun _ s hs => h.2.1 s hs (by simp)⟩
  | (u, [], I) :: st, ⟨⟨⟨c, hc, hg⟩, hch⟩, hf, hn⟩ => by
    have hu : u ∈ S.nodes := hn (u, [], I) List.mem_cons_self
    simp only [List.append_nil] at hc
    have hub : ¬ B u := fun hb => by
      obtain ⟨s, hs, hb'⟩ := g.bad u hu hb
      rw [hc] at hs; exact hg s hs hb'
    have : InvB S B root seen st := by
      refine ⟨?_, fun s hs hns => ?_, fun e he => hn e (List.mem_cons_of_mem _ he)⟩
      · cases st with
        | nil => trivial
        | cons e st' =>
          simp only [toS, List.map_cons, Ch] at hch
          obtain ⟨⟨c', h1, h2⟩, h3⟩ := hch
          refine ⟨⟨c' ++ [u], by rw [h1]; simp, fun y hy => ?_⟩, h3⟩
          rcases List.mem_append.mp hy with h | h
          · exact h2 y h
          · simp at h; subst h; exact hub
      · by_cases z : s = u
        · subst z; exact hub
        · exact hf s hs (by simp only [List.map_cons, List.mem_cons, not_or]; exact ⟨z, hns⟩)
    have ih := invB_unw g st this
    exact ih
  | (u, s :: rem, I) :: st, ⟨⟨⟨c, hc, hg⟩, hch⟩, hf, hn⟩ => by
    have hu : u ∈ S.nodes := hn (u, s :: rem, I) List.mem_cons_self
    refine ⟨fun s' st' e => ?_, fun e => by cases e⟩
    simp only [unw, Option.some.injEq, Prod.mk.injEq] at e
    obtain ⟨rfl, rfl⟩ := e
    refine ⟨g.cls u hu s (by rw [hc]; simp), ⟨⟨c, hc, hg⟩, hch⟩, hf, fun e he => ?_⟩
    rcases List.mem_cons.mp he with rfl | he
    · exact hu
    · exact hn e (List.mem_cons_of_mem _ he)
theorem ch_rank (g : GB S B rank) : ∀ (st : List Ent) (v : Int), (∀ e ∈ st, e.1 ∈ S.nodes) → Ch S.succ B root v (toS st) → ∀ e ∈ st, ¬ B e.1 → ¬ B v ∧ rank v < rank e.1
  | e0 :: st, v, hn, h, e, he, hb => by
    simp only [toS, List.map_cons, Ch] at h
    obtain ⟨⟨c, hc, _⟩, hch⟩ := h
    have h0 := hn e0 List.mem_cons_self
    have hv : v ∈ S.succ e0.1 := by rw [hc]; simp
    rcases List.mem_cons.mp he with rfl | he
    · exact g.good e.1 h0 hb v hv
    · obtain ⟨h1, h2⟩ := ch_rank g st e0.1 (fun e he => hn e (List.mem_cons_of_mem _ he)) hch e he hb
      obtain ⟨h3, h4⟩ := g.good e0.1 h0 h1 v hv
      exact ⟨h3, by lia⟩
theorem InvA.bad (g : GB S B rank) (h : InvA S B root seen v st) (hm : v ∈ st.map (·.1)) : B v := by
  by_cases c : B v
  · exact c
  · obtain ⟨e, he, rfl⟩ := List.mem_map.mp hm
    have := (ch_rank g st e.1 h.2.2.2 h.2.1 e he c).2
    lia
theorem InvA.toB (h : InvA S B root seen v st) {seen1 : List Int} {st1 : List Ent} (hc : (v ∈ seen ∧ v ∉ st.map (·.1) ∧ seen1 = seen ∧ st1 = st) ∨ (v ∉ seen ∧ seen1 = v :: seen ∧ ∃ I, st1 = (v, S.succ v, I) :: st)) : InvB S B root seen1 st1 := by
  rcases hc with ⟨h1, h2, rfl, rfl⟩ | ⟨h1, rfl, I, rfl⟩
  · have hg := h.2.2.1 v h1 h2
    refine ⟨?_, h.2.2.1, h.2.2.2⟩
    have hch := h.2.1
    cases st1 with
    | nil => trivial
    | cons e st' =>
      simp only [toS, List.map_cons, Ch] at hch
      obtain ⟨⟨c', h1, h2⟩, h3⟩ := hch
      refine ⟨⟨c' ++ [v], by rw [h1]; simp, fun y hy => ?_⟩, h3⟩
      rcases List.mem_append.mp hy with h | h
      · exact h2 y h
      · simp at h; subst h; exact hg
  · refine ⟨⟨⟨[], by simp, by simp⟩, h.2.1⟩, fun s hs hn => ?_, fun e he => ?_⟩
    · simp only [List.map_cons, List.mem_cons, not_or] at hn
      rcases List.mem_cons.mp hs with rfl | hs
      · exact absurd rfl hn.1
      · exact h.2.2.1 s hs hn.2
    · rcases List.mem_cons.mp he with rfl | he
      · exact h.1
      · exact h.2.2.2 e he
noncomputable def remS (st : List Ent) : Nat := (st.map fun e => e.2.1.length).sum
noncomputable def unS (succ : Int → List Int) (nodes seen : List Int) : Nat := ((nodes.filter fun n => decide (n ∉ seen)).map fun n => (succ n).length).sum
theorem remS_unw : ∀ (st : List Ent) (s : Int) (st' : List Ent), unw st = some (s, st') → remS st' + 1 = remS st
  | (u, [], I) :: st, s, st', h => by
    have := remS_unw st s st' h
    simp only [remS, List.map_cons, List.sum_cons, List.length_nil] at this ⊢; lia
  | (u, x :: rem, I) :: st, s, st', h => by
    simp only [unw, Option.some.injEq, Prod.mk.injEq] at h
    obtain ⟨rfl, rfl⟩ := h
    simp only [remS, List.map_cons, List.sum_cons, List.length_cons]; lia
theorem unS_cons (succ : Int → List Int) (v : Int) (seen : List Int) : ∀ (nodes : List Int), nodes.Nodup → v ∈ nodes → v ∉ seen → unS succ nodes (v :: seen) + (succ v).length = unS succ nodes seen
  | n :: nodes, hn, hv, hs => by
    rw [List.nodup_cons] at hn
    unfold unS
    by_cases c : n = v
    · subst c
      have e1 : (n :: nodes).filter (fun m => decide (m ∉ n :: seen)) = nodes.filter fun m => decide (m ∉ seen) := by
        rw [List.filter_cons, if_neg (by simp)]
        apply List.filter_congr
        intro m hm
        have : m ≠ n := by rintro rfl; exact hn.1 hm
        simp [this]
      have e2 : (n :: nodes).filter (fun m => decide (m ∉ seen)) = n :: nodes.filter fun m => decide (m ∉ seen) := by
        rw [List.filter_cons, if_pos (by simpa using hs)]
      rw [e1, e2, List.map_cons, List.sum_cons]; lia
    · have hv' : v ∈ nodes := by
        rcases List.mem_cons.mp hv with h | h
        · exact absurd h.symm c
        · exact h
      have ih := unS_cons succ v seen nodes hn.2 hv' hs
      unfold unS at ih
      rw [List.filter_cons, List.filter_cons]
      by_cases d : n ∈ seen
      · rw [if_neg (by simp [d]), if_neg (by simp [d])]; exact ih
      · rw [if_pos (by simp [d, c]), if_pos (by simp [d])]
        simp only [List.map_cons, List.sum_cons]; lia
end
section
variable {Z hpS hp : Hp} {x dd D R a14 a15 a16 a17 : Addr} {ia la : Int → Addr} {S : SS} {B : Int → Prop} {rank : Int → Nat} {root : Int → Prop}
theorem fc_outer {Q : Fw → Loc → Hp → Prop} (r : Rep Z hpS x dd D ia la R S) (g : GB S B rank) : ∀ (n : Nat) (seen : List Int) (st : List Ent) (v : Int) (hp : Hp) (loc : Loc), remS st + unS S.succ S.nodes seen < n → FS hpS hp a14 a15 a16 a17 la S seen st → LC loc D a14 a15 a16 a17 → loc 1 = some (.int v) → InvA S B root seen v st →
    (∀ st v hp' loc', Ch S.succ B root v (toS st) → B v → v ∈ st.map (·.1) → (st.map (·.1)).Nodup → (∀ e ∈ st, e.1 ∈ S.nodes) → Grow hpS hp' → Q (.ret (.lst ((ring v st).map .int))) loc' hp') →
    (∀ seen' hp' loc', (∀ s ∈ seen, s ∈ seen') → v ∈ seen' → (∀ s ∈ seen', ¬ B s) → FS hpS hp' a14 a15 a16 a17 la S seen' [] → LC loc' D a14 a15 a16 a17 → Q .next loc' hp') →
    wLoop (tTru (dCon (.bool true))) L_TS__find_cycle_2 sSkip Q n loc hp
  | n + 1, seen, st, v, hp, loc, hn, f, l, e1, inv, q0, q1 => by
    rw [wLoopC]
    simp only [e_tTru, e_dCon, tr_bool, if_true]
    refine fc_body2 r f l e1 inv.1 (fun hs hm => q0 st v hp loc inv.2.1 (inv.bad g hm) hm f.ndn inv.2.2.2 f.gr) fun seen1 st1 hc => ?_
    have ib := invB_unw g _ (inv.toB hc)
    have hmu : remS st1 + unS S.succ S.nodes seen1 = remS st + unS S.succ S.nodes seen := by
      rcases hc with ⟨h1, h2, rfl, rfl⟩ | ⟨h1, rfl, I, rfl⟩
      · rfl
      · have := unS_cons S.succ v seen S.nodes r.nd inv.1 h1
        simp only [remS, List.map_cons, List.sum_cons]; unfold remS at hn; lia
    have hsub : (∀ s ∈ seen, s ∈ seen1) ∧ v ∈ seen1 := by
      rcases hc with ⟨h1, h2, rfl, rfl⟩ | ⟨h1, rfl, I, rfl⟩
      · exact ⟨fun s h => h, h1⟩
      · exact ⟨fun s h => List.mem_cons_of_mem _ h, List.mem_cons_self⟩
    refine ⟨fun s st' loc' hp' hu f' l' e' => ?_, fun hu loc' hp' l' f' => q1 seen1 hp' loc' hsub.1 hsub.2 (ib.2 hu) f' l'⟩
    have := remS_unw st1 s st' hu
    exact fc_outer r g n seen1 st' s hp' loc' (by lia) f' l' e' (ib.1 s st' hu) q0 fun seen' hp2 loc2 h1 h2 h3 f2 l2 => q1 seen' hp2 loc2 (fun s hs => h1 s (hsub.1 s hs)) (h1 v hsub.2) h3 f2 l2
noncomputable def rootP (B : Int → Prop) (nodes : List Int) (v : Int) : Prop := ∃ pre suf, nodes = pre ++ v :: suf ∧ ∀ u ∈ pre, ¬ B u
theorem fc_for {Q : Fw → Loc → Hp → Prop} (r : Rep Z hpS x dd D ia la R S) (g : GB S B rank) {hp0 : Hp} (h0 : hp0 D = hpS D) : ∀ (suf pre seen : List Int) (hp : Hp) (loc : Loc), S.nodes = pre ++ suf → (∀ u ∈ pre, u ∈ seen) → (∀ s ∈ seen, ¬ B s) → FS hpS hp a14 a15 a16 a17 la S seen [] → LC loc D a14 a15 a16 a17 →
    (∀ st v hp' loc', Ch S.succ B (rootP B S.nodes) v (toS st) → B v → v ∈ st.map (·.1) → (st.map (·.1)).Nodup → (∀ e ∈ st, e.1 ∈ S.nodes) → Grow hpS hp' → Q (.ret (.lst ((ring v st).map .int))) loc' hp') →
    (∀ hp' loc', (∀ s ∈ S.nodes, ¬ B s) → Grow hpS hp' → Q .next loc' hp') →
    fLoop (.ref D) hp0 (gVar 1) L_TS__find_cycle_3 Q (suf.map .int) loc hp
  | [], pre, seen, hp, loc, hnp, hps, hs, f, l, q0, q1 => by
    show Q .next loc hp
    rw [List.append_nil] at hnp
    exact q1 hp loc (fun s h => hs s (hps s (hnp ▸ h))) f.gr
  | v :: suf, pre, seen, hp, loc, hnp, hps, hs, f, l, q0, q1 => by
    rw [List.map_cons, fLoopC, e_gVar]
    have hv : v ∈ S.nodes := by rw [hnp]; simp
    have e1 : (upd loc 1 (V.int v)) 1 = some (.int v) := by simp
    have l' : LC (upd loc 1 (V.int v)) D a14 a15 a16 a17 := l.upd
    obtain ⟨epD, hD⟩ := r.hD
    have same : ∀ hp', Grow hpS hp' → same (.ref D) hp0 hp' := fun hp' k => by
      show hp' D = hp0 D
      rw [h0, k _ _ hD, hD]
    have hnp' : S.nodes = (pre ++ [v]) ++ suf := by rw [hnp]; simp
    simp only [L_TS__find_cycle_3, e_sSeq, e_sIf, e_tBin, e_dVar, rd e1, rd l'.l16, f.inSeen, ex_bool]
    by_cases c : v ∈ seen
    · simp only [c, decide_true, if_true, e_sCont]
      refine ⟨same hp f.gr, fc_for r g h0 suf (pre ++ [v]) seen hp _ hnp' (fun u hu => ?_) hs f l' q0 q1⟩
      rcases List.mem_append.mp hu with h | h
      · exact hps u h
      · simp at h; subst h; exact c
    · simp only [c, decide_false]
      simp
      have inv : InvA S B (rootP B S.nodes) seen v [] := ⟨hv, ⟨pre, suf, hnp, fun u hu => hs u (hps u hu)⟩, fun s h _ => hs s h, by simp⟩
      refine ⟨remS [] + unS S.succ S.nodes seen + 1, fc_outer r g _ seen [] v hp _ (by lia) f l' e1 inv (fun st w hp' loc' h1 h2 h3 h4 h5 h6 => ?_) (fun seen' hp' loc' h1 h2 h3 f' l2 => ?_)⟩
      · exact q0 st w hp' loc' h1 h2 h3 h4 h5 h6
      · refine ⟨same hp' f'.gr, fc_for r g h0 suf (pre ++ [v]) seen' hp' loc' hnp' (fun u hu => ?_) h3 f' l2 q0 q1⟩
        rcases List.mem_append.mp hu with h | h
        · exact h1 u (hps u h)
        · simp at h; subst h; exact h2
theorem c_find {Q : V → Hp → Prop} {X : XA} (r : Own Z hp x S) (g : GB S B rank) (q0 : ∀ (st : List Ent) v hp', Ch S.succ B (rootP B S.nodes) v (toS st) → B v → v ∈ st.map (·.1) → (st.map (·.1)).Nodup → (∀ e ∈ st, e.1 ∈ S.nodes) → Grow hp hp' → Q (.lst ((ring v st).map .int)) hp')
    (q1 : ∀ hp', (∀ s ∈ S.nodes, ¬ B s) → Grow hp hp' → Q .none hp') : C_TS__find_cycle [.ref x] Q X hp := by
  obtain ⟨dd, D, ia, la, R, r⟩ := r
  refine ⟨[(0, .ref x)], by simp [bdPos], ?_⟩
  have a2 : ∀ (Q : V → Hp → Prop), bAttr cT 2 (.ref x) Q hp = Q (.ref D) hp := fun Q => r.at rfl rfl
  simp only [D_TS__find_cycle, e_sSeq, e_sAsg, e_dAttr, e_dVar, rd_loc, if_true, a2, e_gVar, e_dNew, e_aNil]
  refine ⟨by simp, fun a14 h14 => ⟨by simp, fun a15 h15 => ?_⟩⟩
  simp only [e_dCall, e_aNil]
  refine ⟨rfl, fun a16 h16 => ?_⟩
  simp only [e_dDict]
  intro a17 h17 ep
  have n15 : a15 ≠ a14 := by rintro rfl; simp at h15
  rw [upd_ne n15] at h15
  have n16a : a16 ≠ a15 := by rintro rfl; simp at h16
  rw [upd_ne n16a] at h16
  have n16b : a16 ≠ a14 := by rintro rfl; simp at h16
  rw [upd_ne n16b] at h16
  have n17a : a17 ≠ a16 := by rintro rfl; simp at h17
  rw [upd_ne n17a] at h17
  have n17b : a17 ≠ a15 := by rintro rfl; simp at h17
  rw [upd_ne n17b] at h17
  have n17c : a17 ≠ a14 := by rintro rfl; simp at h17
  rw [upd_ne n17c] at h17
  obtain ⟨epD, hD⟩ := r.hD
  have f : FS hp (upd (upd (upd (upd hp a14 (.lst [])) a15 (.lst [])) a16 (.set [])) a17 (.dict [] ep)) a14 a15 a16 a17 la S [] [] := by
    refine ⟨(((Grow.new h14).upd h15).upd h16).upd h17, h14, h15, h16, h17, ?_, ?_, ?_, ⟨ep, by simp [ent]⟩, Ne.symm n15, by simp, by simp, by simp, by simp, by simp, by simp⟩
    · rw [upd_ne (Ne.symm n17c), upd_ne (Ne.symm n16b), upd_ne (Ne.symm n15)]; simp
    · rw [upd_ne (Ne.symm n17b), upd_ne (Ne.symm n16a)]; simp
    · rw [upd_ne (Ne.symm n17a)]; simp
  have gD := f.gr _ _ hD
  simp [-Bool.exists_bool]
  refine ⟨S.nodes.map .int, (iter_dictref gD).trans (by simp), ?_⟩
  refine fc_for (Z := Z) (x := x) (R := R) r g (hp0 := upd (upd (upd (upd hp a14 (.lst [])) a15 (.lst [])) a16 (.set [])) a17 (.dict [] ep)) (gD.trans hD.symm) S.nodes [] [] _ _ (by simp) (by simp) (by simp) f ⟨by simp [upd], by simp [upd], by simp [upd], by simp [upd], by simp [upd]⟩ (fun st v hp' loc' h1 h2 h3 h4 h5 h6 => q0 st v hp' h1 h2 h3 h4 h5 h6) (fun hp' loc' h1 h2 => q1 hp' h1 h2)
end
end Mine
namespace Mine
section
variable {Z hp : Hp} {x dd D R : Addr} {ia la : Int → Addr} {S : SS} {B : Int → Prop} {rank : Int → Nat}
theorem Rep.newReady (r : Rep Z hp x dd D ia la R S) (h : S.ready = none) {l : Addr} {q : List Int} (hl : hp l = Option.none) : Rep Z (upd (upd hp l (.lst (q.map .int))) dd (.ns [(2, .ref D), (5, .ref l), (11, .int S.pass), (12, .int S.fin)])) x dd D ia la l { S with ready := some q } := by
  obtain ⟨ep, hD⟩ := r.hD
  have nl : ∀ a o, hp a = some o → a ≠ l := fun a o e => ne_none e hl
  have K : ∀ a o, hp a = some o → a ≠ dd → (upd (upd hp l (.lst (q.map .int))) dd (.ns [(2, .ref D), (5, .ref l), (11, .int S.pass), (12, .int S.fin)])) a = some o := fun a o e n => by rw [upd_ne n, upd_ne (nl a o e)]; exact e
  refine { hx := K _ _ r.hx (ne_of r.hx r.hd (by simp)), hd := by simp [rdy], hD := ⟨ep, K _ _ hD (ne_of hD r.hd (by simp))⟩, hi := fun n hn => K _ _ (r.hi n hn) (ne_of (r.hi n hn) r.hd (by simp [vI])), hl := fun n hn => K _ _ (r.hl n hn) (ne_of (r.hl n hn) r.hd (by simp))
           hr := fun q' h' => ?_, ii := r.ii, ll := r.ll, lR := fun _ n hn => nl _ _ (r.hl n hn), nd := r.nd, df := r.df, gr := (r.gr.upd (r.gr.back hl)).upd r.od, ox := r.ox, od := r.od, oD := r.oD, oi := r.oi, oR := fun _ => r.gr.back hl, sz := r.sz }
  cases h'
  rw [upd_ne (Ne.symm (nl _ _ r.hd))]; simp
noncomputable def prepS (S : SS) : SS := { S with ready := some (S.nodes.filter fun n => decide (S.np n = 0)) }
theorem c_prepare {Q : V → Hp → Prop} {X : XA} (o : Own Z hp x S) (hr : S.ready = none) (g : GB S B rank) (q0 : ∀ hp', Own Z hp' x (prepS S) → (∃ v ∈ S.nodes, B v) → X 1 hp') (q1 : ∀ hp', Own Z hp' x (prepS S) → (∀ s ∈ S.nodes, ¬ B s) → Q .none hp') : C_TS_prepare [.ref x] Q X hp := by
  obtain ⟨dd, D, ia, la, R, o⟩ := o
  refine ⟨[(0, .ref x)], by simp [bdPos], ?_⟩
  have a5 : ∀ (Q : V → Hp → Prop), bAttr cT 5 (.ref x) Q hp = Q .none hp := fun Q => o.at (by rw [hr]; rfl) rfl
  have a2 : ∀ (Q : V → Hp → Prop), bAttr cT 2 (.ref x) Q hp = Q (.ref D) hp := fun Q => o.at rfl rfl
  obtain ⟨ep, hD⟩ := o.hD
  have isd : isDct hp (.ref D) := ⟨D, _, ep, rfl, hD⟩
  simp only [D_TS_prepare, e_sSeq, e_sIf, e_tBin, e_dAttr, e_dVar, rd_loc, if_true, a5, e_dCon, e_bIsNot, on_nn, Bool.not_true, ex_bool]
  simp [↓a2, isd, -Bool.exists_bool]
  refine ⟨D, _, ep, rfl, hD, S.nodes.map fun n => V.ref (ia n), ?_, ?_⟩
  · exact (iter_valsref hD).trans (by simp)
  have hlim : lim = 1000000 := rfl
  have hsz := o.sz
  refine cLp_pure (fun n => V.ref (ia n)) (fun n => decide (S.np n = 0)) V.int S.nodes [] hp (by simp; lia) rfl ?_ ?_
  · intro n hn acc ha R' hR
    simp [↓o.slot hn (k := 1) (v := .int (S.np n)) rfl rfl, ↓o.slot hn (k := 0) (v := .int n) rfl rfl]
    split
    · rename_i c; simp [c] at hR; exact ⟨ha, hR⟩
    · rename_i c; simp [c] at hR; exact hR
  · intro l hl
    simp only [List.nil_append]
    have hx' := (o.grow (Grow.new (o := .lst ((S.nodes.filter fun n => decide (S.np n = 0)).map .int)) hl))
    rw [setA_ref hx'.hx hx'.hd (by simp)]
    have o2 := o.newReady hr (q := S.nodes.filter fun n => decide (S.np n = 0)) hl
    have e : fSet [(2, V.ref D), (5, rdy R S.ready), (11, .int S.pass), (12, .int S.fin)] 5 (.ref l) = [(2, V.ref D), (5, .ref l), (11, .int S.pass), (12, .int S.fin)] := by simp [fSet]
    rw [e]
    have o3 : Own Z _ x (prepS S) := ⟨dd, D, ia, la, l, o2⟩
    have g' : GB (prepS S) B rank := ⟨g.cls, g.bad, g.good⟩
    refine ⟨o2.inst (by decide), ?_⟩
    refine c_find o3 g' (fun st v hp' h1 h2 h3 h4 h5 h6 => ?_) (fun hp' h1 h2 => ?_)
    · have hb : ∃ v ∈ S.nodes, B v := by
        obtain ⟨e, he, rfl⟩ := List.mem_map.mp h3
        exact ⟨e.1, h5 e he, h2⟩
      have hln : (ring v st).length ≤ 1001 := by
        unfold ring
        have := nodup_le (st.map (·.1)) S.nodes h4 (fun w hw => by obtain ⟨e, he, rfl⟩ := List.mem_map.mp hw; exact h5 e he)
        simp only [List.length_append, List.length_drop, List.length_reverse, List.length_map, List.length_cons, List.length_nil] at this ⊢
        lia
      have hne : (List.map V.int (ring v st)).isEmpty = false := by simp [ring]
      simp [hne, -Bool.exists_bool]
      exact ⟨by lia, by lia, q0 hp' (o3.grow h6) hb⟩
    · simp [-Bool.exists_bool]
      exact q1 hp' (o3.grow h2) h1
end
end Mine
namespace Mine
theorem foldDec_spec : ∀ (ss : List Int) (S : SS) (r : List Int), S.ready = some r → ∃ z, (ss.foldl decS S).ready = some (r ++ z) ∧ z.Nodup ∧ (∀ m, m ∈ z ↔ 1 ≤ S.np m ∧ S.np m ≤ (ss.count m : Int)) ∧ ∀ m, (ss.foldl decS S).np m = S.np m - (ss.count m : Int)
  | [], S, r, h => ⟨[], by simpa using h, by simp, fun m => by simp; lia, fun m => by simp⟩
  | s :: ss, S, r, h => by
    have hnp : ∀ m, (decS S s).np m = if m = s then S.np s - 1 else S.np m := fun m => by simp [decS, setF]
    by_cases c : S.np s - 1 = 0
    · have hr : (decS S s).ready = some (r ++ [s]) := by simp [decS, h, c]
      obtain ⟨z, h1, h2, h3, h4⟩ := foldDec_spec ss (decS S s) _ hr
      refine ⟨s :: z, by rw [List.foldl_cons, h1]; simp, ?_, fun m => ?_, fun m => ?_⟩
      · rw [List.nodup_cons]
        refine ⟨fun hm => ?_, h2⟩
        have := (h3 s).mp hm
        rw [hnp, if_pos rfl] at this; lia
      · rw [List.mem_cons, h3, hnp, List.count_cons]
        by_cases e : m = s
        · subst e; simp; lia
        · have : (s == m) = false := by simpa using fun z => e z.symm
          simp [e, this]
      · rw [List.foldl_cons, h4, hnp, List.count_cons]
        by_cases e : m = s
        · subst e; simp; lia
        · have : (s == m) = false := by simpa using fun z => e z.symm
          simp [e, this]
    · have hr : (decS S s).ready = some r := by simp [decS, h, c]
      obtain ⟨z, h1, h2, h3, h4⟩ := foldDec_spec ss (decS S s) _ hr
      refine ⟨z, by rw [List.foldl_cons, h1], h2, fun m => ?_, fun m => ?_⟩
      · rw [h3, hnp, List.count_cons]
        by_cases e : m = s
        · subst e; simp; lia
        · have : (s == m) = false := by simpa using fun z => e z.symm
          simp [e, this]
      · rw [List.foldl_cons, h4, hnp, List.count_cons]
        by_cases e : m = s
        · subst e; simp; lia
        · have : (s == m) = false := by simpa using fun z => e z.symm
          simp [e, this]
noncomputable def inc (nodes : List Int) (succ : Int → List Int) (order : List Int) (n : Int) : Nat := ((nodes.filter fun p => decide (p ∉ order)).map fun p => (succ p).count n).sum
theorem inc_snoc (succ : Int → List Int) (n c : Int) (order : List Int) : ∀ nodes : List Int, nodes.Nodup → c ∈ nodes → c ∉ order → inc nodes succ (order ++ [c]) n + (succ c).count n = inc nodes succ order n
  | p :: nodes, hn, hc, ho => by
    rw [List.nodup_cons] at hn
    unfold inc
    by_cases e : p = c
    · subst e
      have e1 : (p :: nodes).filter (fun m => decide (m ∉ order ++ [p])) = nodes.filter fun m => decide (m ∉ order) := by
        rw [List.filter_cons, if_neg (by simp)]
        apply List.filter_congr
        intro m hm
        have : m ≠ p := by rintro rfl; exact hn.1 hm
        simp [this]
      have e2 : (p :: nodes).filter (fun m => decide (m ∉ order)) = p :: nodes.filter fun m => decide (m ∉ order) := by
        rw [List.filter_cons, if_pos (by simpa using ho)]
      rw [e1, e2, List.map_cons, List.sum_cons]; lia
    · have hc' : c ∈ nodes := by
        rcases List.mem_cons.mp hc with h | h
        · exact absurd h.symm e
        · exact h
      have ih := inc_snoc succ n c order nodes hn.2 hc' ho
      unfold inc at ih
      rw [List.filter_cons, List.filter_cons]
      by_cases d : p ∈ order
      · rw [if_neg (by simp [d]), if_neg (by simp [d])]; exact ih
      · rw [if_pos (by simp [d, e]), if_pos (by simp [d])]
        simp only [List.map_cons, List.sum_cons]; lia
theorem sum_pos : ∀ (xs : List Nat), xs.sum ≠ 0 → ∃ x ∈ xs, x ≠ 0
  | [], h => absurd rfl h
  | x :: xs, h => by
    by_cases c : x = 0
    · subst c
      obtain ⟨y, hy, h'⟩ := sum_pos xs (by simpa using h)
      exact ⟨y, List.mem_cons_of_mem _ hy, h'⟩
    · exact ⟨x, List.mem_cons_self, c⟩
theorem sum_zero' : ∀ (xs : List Nat), xs.sum = 0 → ∀ x ∈ xs, x = 0
  | x :: xs, h, y, hy => by
    simp only [List.sum_cons] at h
    rcases List.mem_cons.mp hy with rfl | hy
    · lia
    · exact sum_zero' xs (by lia) y hy
theorem inc_zero {nodes : List Int} {succ : Int → List Int} {order : List Int} {n : Int} : inc nodes succ order n = 0 ↔ ∀ p ∈ nodes, n ∈ succ p → p ∈ order := by
  unfold inc
  constructor
  · intro h p hp hn
    by_cases c : p ∈ order
    · exact c
    · have := sum_zero' _ h ((succ p).count n) (List.mem_map.mpr ⟨p, List.mem_filter.mpr ⟨hp, by simpa using c⟩, rfl⟩)
      exact absurd hn (List.count_eq_zero.mp this)
  · intro h
    by_cases c : ((nodes.filter fun p => decide (p ∉ order)).map fun p => (succ p).count n).sum = 0
    · exact c
    · obtain ⟨x, hx, hne⟩ := sum_pos _ c
      obtain ⟨p, hp, rfl⟩ := List.mem_map.mp hx
      obtain ⟨h1, h2⟩ := List.mem_filter.mp hp
      have : n ∈ succ p := by
        by_cases z : n ∈ succ p
        · exact z
        · exact absurd (List.count_eq_zero.mpr z) hne
      exact absurd (h p h1 this) (by simpa using h2)
structure KI (nodes : List Int) (succ : Int → List Int) (order W r : List Int) (S : SS) : Prop where
  hn : S.nodes = nodes
  hs : S.succ = succ
  rd : S.ready = some r
  ps : S.pass = order.length + W.length
  fi : S.fin = order.length
  dis : (order ++ (W ++ r)).Nodup
  sub : ∀ n ∈ order ++ (W ++ r), n ∈ nodes
  nW : ∀ n ∈ W, S.np n = -1
  nE : ∀ n ∈ nodes, n ∉ order → n ∉ W → S.np n = inc nodes succ order n
  zero : ∀ n ∈ nodes, n ∉ order → (n ∈ W ++ r ↔ inc nodes succ order n = 0)
  zo : ∀ n ∈ order, inc nodes succ order n = 0
section
variable {nodes : List Int} {succ : Int → List Int} {order W r : List Int} {S : SS}
theorem KI.start (nd : nodes.Nodup) (hn : S.nodes = nodes) (hs : S.succ = succ) (hp : S.pass = 0) (hf : S.fin = 0) (hnp : ∀ n ∈ nodes, S.np n = inc nodes succ [] n) : KI nodes succ [] [] (nodes.filter fun n => decide (S.np n = 0)) (prepS S) := by
  refine ⟨hn, hs, by simp [prepS, hn], by simp [prepS, hp], by simp [prepS, hf], ?_, ?_, by simp, fun n h _ _ => hnp n h, fun n h _ => ?_, by simp⟩
  · simp only [List.nil_append]; exact nd.filter _
  · intro n h
    simp only [List.nil_append] at h
    exact (List.mem_filter.mp h).1
  · simp only [List.nil_append, List.mem_filter, h, true_and, decide_eq_true_eq]
    rw [hnp n h]; lia
theorem KI.out (k : KI nodes succ order W r S) : KI nodes succ order (W ++ r) [] (readyS S r) := by
  obtain ⟨h1, h2, h3, h4, h5, h6⟩ := outS_nodes r S
  have hW : ∀ n ∈ W ++ r, (readyS S r).np n = -1 := by
    intro n hn
    show (outS S r).np n = -1
    rw [h6]
    split
    · rfl
    · rename_i c
      rcases List.mem_append.mp hn with h | h
      · exact k.nW n h
      · exact absurd h c
  refine ⟨h1.trans k.hn, h2.trans k.hs, rfl, ?_, ?_, by simpa using k.dis, by simpa using k.sub, hW, fun n h1 h2 h3 => ?_, ?_, k.zo⟩
  · show S.pass + (r.length : Int) = _
    rw [k.ps]; simp; lia
  · show (outS S r).fin = _
    rw [h5]; exact k.fi
  · show (outS S r).np n = _
    have h3' : n ∉ W ∧ n ∉ r := by simpa using h3
    rw [h6, if_neg h3'.2]; exact k.nE n h1 h2 h3'.1
  · simpa using k.zero
theorem KI.done (nd : nodes.Nodup) (k : KI nodes succ order W r S) {c : Int} (hc : c ∈ W) (hcl : ∀ n ∈ nodes, ∀ s ∈ succ n, s ∈ nodes) : S.np c = -1 ∧ c ∈ nodes ∧ ∃ z, KI nodes succ (order ++ [c]) (W.erase c) (r ++ z) (doneS S c) := by
  have hcn : c ∈ nodes := k.sub c (by simp [hc])
  have hco : c ∉ order := fun h => by
    have := k.dis
    rw [List.nodup_append] at this
    exact this.2.2 c h c (by simp [hc]) rfl
  have dW : (W ++ r).Nodup := (List.nodup_append.mp k.dis).2.1
  have hWn : W.Nodup := (List.nodup_append.mp dW).1
  refine ⟨k.nW c hc, hcn, ?_⟩
  have hrd : ({ S with np := setF S.np c (-2) } : SS).ready = some r := k.rd
  obtain ⟨z, h1, h2, h3, h4⟩ := foldDec_spec (S.succ c) { S with np := setF S.np c (-2) } r hrd
  obtain ⟨f1, f2, f3, f4⟩ := foldDec_nodes (S.succ c) { S with np := setF S.np c (-2) }
  have hsc : S.succ c = succ c := by rw [k.hs]
  rw [hsc] at h1 h3 h4 f1 f2 f3 f4
  have inc1 : ∀ n, inc nodes succ (order ++ [c]) n + (succ c).count n = inc nodes succ order n := fun n => inc_snoc succ n c order nodes nd hcn hco
  have fresh : ∀ n, n ∈ succ c → n ∉ order ∧ n ∉ W ∧ n ∉ r := by
    intro n hn
    have hnn := hcl c hcn n hn
    have hpos : inc nodes succ order n ≠ 0 := fun z => hco (inc_zero.mp z c hcn hn)
    refine ⟨fun h => hpos (k.zo n h), fun h => ?_, fun h => ?_⟩
    · by_cases o : n ∈ order
      · exact hpos (k.zo n o)
      · exact hpos ((k.zero n hnn o).mp (by simp [h]))
    · by_cases o : n ∈ order
      · exact hpos (k.zo n o)
      · exact hpos ((k.zero n hnn o).mp (by simp [h]))
  have npz : ∀ m, m ≠ c → ({ S with np := setF S.np c (-2) } : SS).np m = S.np m := fun m hm => by simp [setF, hm]
  have cc : c ∉ succ c := fun h => (fresh c h).2.1 hc
  have zmem : ∀ m, m ∈ z ↔ m ∈ nodes ∧ m ∉ order ∧ m ≠ c ∧ m ∉ W ∧ m ∉ r ∧ m ∈ succ c ∧ inc nodes succ (order ++ [c]) m = 0 := by
    intro m
    rw [h3]
    constructor
    · rintro ⟨g1, g2⟩
      have hm : m ∈ succ c := by
        by_cases q : m ∈ succ c
        · exact q
        · rw [List.count_eq_zero.mpr q] at g2
          have g3 := Int.le_trans g1 g2
          simp at g3
      have hmc : m ≠ c := fun e => cc (e ▸ hm)
      obtain ⟨a1, a2, a3⟩ := fresh m hm
      have hmn := hcl c hcn m hm
      rw [npz m hmc, k.nE m hmn a1 a2] at g1 g2
      have := inc1 m
      exact ⟨hmn, a1, hmc, a2, a3, hm, by lia⟩
    · rintro ⟨a1, a2, a3, a4, a5, a6, a7⟩
      rw [npz m a3, k.nE m a1 a2 a4]
      have := inc1 m
      have : 0 < (succ c).count m := List.count_pos_iff.mpr a6
      lia
  have npd : ∀ m, (doneS S c).np m = ({ S with np := setF S.np c (-2) } : SS).np m - ((succ c).count m : Int) := fun m => by
    show (List.foldl decS { S with np := setF S.np c (-2) } (S.succ c)).np m = _
    rw [hsc]; exact h4 m
  have eW : ∀ n, n ∈ W.erase c ↔ n ∈ W ∧ n ≠ c := fun n => by rw [hWn.mem_erase_iff]; exact ⟨fun h => ⟨h.2, h.1⟩, fun h => ⟨h.2, h.1⟩⟩
  have pm : List.Perm ((order ++ [c]) ++ (W.erase c ++ (r ++ z))) ((order ++ (W ++ r)) ++ z) := by
    simpa [List.append_assoc] using ((List.perm_cons_erase hc).symm.append_right (r ++ z)).append_left order
  refine ⟨z, ?_, ?_, ?_, ?_, ?_, ?_, ?_, ?_, ?_, ?_, ?_⟩
  · show (List.foldl decS { S with np := setF S.np c (-2) } (S.succ c)).nodes = _
    rw [hsc, f1]; exact k.hn
  · show (List.foldl decS { S with np := setF S.np c (-2) } (S.succ c)).succ = _
    rw [hsc, f2]; exact k.hs
  · show (List.foldl decS { S with np := setF S.np c (-2) } (S.succ c)).ready = _
    rw [hsc, h1]
  · show (List.foldl decS { S with np := setF S.np c (-2) } (S.succ c)).pass = _
    rw [hsc, f3]
    have := List.length_erase_of_mem hc
    have hp : 0 < W.length := List.length_pos_of_mem hc
    have := k.ps
    simp only [List.length_append, List.length_cons, List.length_nil]; lia
  · show S.fin + 1 = _
    rw [k.fi]; simp
  · refine pm.nodup_iff.mpr (List.nodup_append.mpr ⟨k.dis, h2, fun a ha b hb e => ?_⟩)
    rw [← e] at hb
    have zz := (zmem a).mp hb
    rcases List.mem_append.mp ha with h | h
    · exact zz.2.1 h
    · exact (List.mem_append.mp h).elim zz.2.2.2.1 zz.2.2.2.2.1
  · intro n hn
    rcases List.mem_append.mp (pm.mem_iff.mp hn) with h | h
    · exact k.sub n h
    · exact ((zmem n).mp h).1
  · intro n hn
    obtain ⟨h, hne⟩ := (eW n).mp hn
    rw [npd, npz n hne, k.nW n h, List.count_eq_zero.mpr (fun q => (fresh n q).2.1 h)]; simp
  · intro n hn ho hw
    have ho' : n ∉ order ∧ n ≠ c := by simpa using ho
    have hw' : n ∉ W := fun h => hw ((eW n).mpr ⟨h, ho'.2⟩)
    rw [npd, npz n ho'.2, k.nE n hn ho'.1 hw']
    have := inc1 n
    lia
  · intro n hn ho
    have ho' : n ∉ order ∧ n ≠ c := by simpa using ho
    have hz := k.zero n hn ho'.1
    have := inc1 n
    constructor
    · intro h
      rcases List.mem_append.mp h with h | h
      · have := hz.mp (List.mem_append_left _ ((eW n).mp h).1); lia
      · rcases List.mem_append.mp h with h | h
        · have := hz.mp (List.mem_append_right _ h); lia
        · exact ((zmem n).mp h).2.2.2.2.2.2
    · intro h
      by_cases q : n ∈ succ c
      · obtain ⟨a1, a2, a3⟩ := fresh n q
        have := (zmem n).mpr ⟨hn, a1, ho'.2, a2, a3, q, h⟩
        simp [this]
      · rw [List.count_eq_zero.mpr q] at this
        have := hz.mpr (by lia)
        rcases List.mem_append.mp this with h' | h'
        · exact List.mem_append_left _ ((eW n).mpr ⟨h', ho'.2⟩)
        · simp [h']
  · intro n hn
    have := inc1 n
    rcases List.mem_append.mp hn with h | h
    · have := k.zo n h; lia
    · simp at h; subst h
      have := (k.zero n hcn hco).mp (by simp [hc]); lia
end
end Mine
namespace Mine
noncomputable def Lv (S : SS) : Nat → Int → Prop
  | 0, v => v ∈ S.nodes
  | k + 1, v => v ∈ S.nodes ∧ ∃ s ∈ S.succ v, Lv S k s
theorem Lv.down {S : SS} : ∀ {k : Nat} {v : Int}, Lv S (k + 1) v → Lv S k v
  | 0, v, h => h.1
  | k + 1, v, ⟨h1, s, h2, h3⟩ => ⟨h1, s, h2, Lv.down h3⟩
theorem least {P : Nat → Prop} (h : ∃ k, P k) : ∃ k, P k ∧ ∀ j, j < k → ¬ P j := by
  obtain ⟨k, hk⟩ := h
  induction k using Nat.strongRecOn with
  | ind k ih =>
    by_cases c : ∃ j, j < k ∧ P j
    · obtain ⟨j, hj, hp⟩ := c; exact ih j hj hp
    · exact ⟨k, hk, fun j hj hp => c ⟨j, hj, hp⟩⟩
theorem allBelow {P : Nat → Int → Prop} (dn : ∀ k v, ¬ P k v → ¬ P (k + 1) v) : ∀ ss : List Int, (∀ s ∈ ss, ∃ k, ¬ P k s) → ∃ K, ∀ s ∈ ss, ¬ P K s
  | [], _ => ⟨0, by simp⟩
  | s :: ss, h => by
    obtain ⟨K, hK⟩ := allBelow dn ss fun t ht => h t (List.mem_cons_of_mem _ ht)
    obtain ⟨k, hk⟩ := h s List.mem_cons_self
    have up : ∀ v a b, ¬ P a v → ¬ P (a + b) v := fun v a b hn => by
      induction b with
      | zero => exact hn
      | succ b ih => exact dn _ _ ih
    refine ⟨K + k, fun t ht => ?_⟩
    rcases List.mem_cons.mp ht with rfl | ht
    · rw [Nat.add_comm]; exact up _ _ _ hk
    · exact up _ _ _ (hK t ht)
theorem gb_exists (S : SS) (cls : ∀ v ∈ S.nodes, ∀ s ∈ S.succ v, s ∈ S.nodes) : ∃ B rank, GB S B rank ∧ ∀ v ∈ S.nodes, B v ↔ ∀ k, Lv S k v := by
  have hr : ∀ v, ∃ k, (∃ j, ¬ Lv S j v) → ¬ Lv S k v ∧ ∀ j, j < k → Lv S j v := by
    intro v
    by_cases c : ∃ j, ¬ Lv S j v
    · obtain ⟨k, h1, h2⟩ := least c
      exact ⟨k, fun _ => ⟨h1, fun j hj => Classical.not_not.mp (h2 j hj)⟩⟩
    · exact ⟨0, fun h => absurd h c⟩
  refine ⟨fun v => ∀ k, Lv S k v, fun v => (hr v).choose, ⟨cls, fun v hv hb => ?_, fun v hv hb s hs => ?_⟩, fun v _ => Iff.rfl⟩
  · by_cases c : ∃ s ∈ S.succ v, ∀ k, Lv S k s
    · exact c
    · exfalso
      obtain ⟨K, hK⟩ := allBelow (P := Lv S) (fun k v h h' => h h'.down) (S.succ v) fun s hs => by
        by_cases q : ∃ k, ¬ Lv S k s
        · exact q
        · exact absurd ⟨s, hs, fun k => Classical.not_not.mp fun z => q ⟨k, z⟩⟩ c
      obtain ⟨_, s, hs, h⟩ := hb (K + 1)
      exact hK s hs h
  · have hb' : ∃ j, ¬ Lv S j v := Classical.not_forall.mp hb
    obtain ⟨h1, h2⟩ := (hr v).choose_spec hb'
    cases q : (hr v).choose with
    | zero => rw [q] at h1; exact absurd hv h1
    | succ j =>
      rw [q] at h1
      have hsj : ¬ Lv S j s := fun h => h1 ⟨hv, s, hs, h⟩
      refine ⟨fun h => hsj (h j), ?_⟩
      obtain ⟨g1, g2⟩ := (hr s).choose_spec ⟨j, hsj⟩
      by_cases c : (hr s).choose < j + 1
      · exact c
      · exact absurd (g2 j (by lia)) hsj
noncomputable def tot (S : SS) (n : Int) : Nat := (S.nodes.map fun p => (S.succ p).count n).sum
structure WS (S : SS) : Prop where
  nd : S.nodes.Nodup
  df : ∀ m, m ∉ S.nodes → S.succ m = []
theorem sum_map_set (nodes : List Int) (f g : Int → Nat) (p : Int) (d : Nat) (hn : nodes.Nodup) (hp : p ∈ nodes) (h1 : f p = g p + d) (h2 : ∀ m, m ≠ p → f m = g m) : (nodes.map f).sum = (nodes.map g).sum + d := by
  induction nodes with
  | nil => cases hp
  | cons n nodes ih =>
    rw [List.nodup_cons] at hn
    by_cases c : n = p
    · subst c
      have : nodes.map f = nodes.map g := List.map_congr_left fun m hm => h2 m (by rintro rfl; exact hn.1 hm)
      simp only [List.map_cons, List.sum_cons, this, h1]; lia
    · have hp' : p ∈ nodes := by
        rcases List.mem_cons.mp hp with h | h
        · exact absurd h.symm c
        · exact h
      simp only [List.map_cons, List.sum_cons, ih hn.2 hp', h2 n c]; lia
theorem WS.get {S : SS} (w : WS S) (n : Int) : WS (getS S n) ∧ ∀ m, tot (getS S n) m = tot S m := by
  by_cases c : n ∈ S.nodes
  · have : getS S n = S := by simp [getS, c]
    rw [this]; exact ⟨w, fun _ => rfl⟩
  · have hs : (getS S n).nodes = S.nodes ++ [n] := by simp [getS, c]
    refine ⟨⟨?_, fun m hm => ?_⟩, fun m => ?_⟩
    · rw [hs, List.nodup_append]
      exact ⟨w.nd, by simp, fun a ha b hb => by simp at hb; subst hb; rintro rfl; exact c ha⟩
    · rw [hs] at hm
      exact w.df m fun h => hm (List.mem_append_left _ h)
    · unfold tot
      rw [hs, List.map_append, List.sum_append]
      have : (getS S n).succ = S.succ := rfl
      rw [this]
      simp [w.df n c]
theorem WS.addP {S : SS} (w : WS S) (n p : Int) : WS (addP n S p) ∧ (∀ m, tot (addP n S p) m = tot S m + if m = n then 1 else 0) := by
  obtain ⟨w1, t1⟩ := w.get p
  have hp := getS_mem S p
  have hs : (Mine.addP n S p).nodes = (getS S p).nodes := rfl
  have hsu : ∀ m, (Mine.addP n S p).succ m = if m = p then S.succ p ++ [n] else S.succ m := fun m => rfl
  refine ⟨⟨w1.nd, fun m hm => ?_⟩, fun m => ?_⟩
  · rw [hs] at hm
    have : m ≠ p := by rintro rfl; exact hm hp
    rw [hsu, if_neg this]; exact w1.df m hm
  · rw [← t1 m]
    unfold tot
    rw [hs]
    refine sum_map_set _ _ _ p _ w1.nd hp ?_ fun k hk => ?_
    · rw [hsu, if_pos rfl, List.count_append]
      show _ = (S.succ p).count m + _
      congr 1
      by_cases c : m = n
      · subst c; simp
      · simp [c, List.count_cons, Ne.symm c]
    · rw [hsu, if_neg hk]; rfl
theorem fold_add (n : Int) : ∀ (ps : List Int) (S : SS), WS S → WS (ps.foldl (addP n) S) ∧ (∀ m, tot (ps.foldl (addP n) S) m = tot S m + if m = n then ps.length else 0) ∧ (ps.foldl (addP n) S).np = S.np ∧ (ps.foldl (addP n) S).ready = S.ready ∧ (ps.foldl (addP n) S).pass = S.pass ∧ (ps.foldl (addP n) S).fin = S.fin ∧
    (∀ m, m ∈ (ps.foldl (addP n) S).nodes ↔ m ∈ S.nodes ∨ m ∈ ps) ∧ (∀ p m, m ∈ (ps.foldl (addP n) S).succ p ↔ m ∈ S.succ p ∨ (m = n ∧ p ∈ ps)) ∧ ∀ p, ((ps.foldl (addP n) S).succ p).length ≤ (S.succ p).length + ps.length
  | [], S, w => ⟨w, fun m => by simp, rfl, rfl, rfl, rfl, fun m => by simp, fun p m => by simp, fun p => by simp⟩
  | q :: ps, S, w => by
    obtain ⟨w1, t1⟩ := w.addP n q
    obtain ⟨g0, g1, g2, g3, g4, g5, g6, g7, g8⟩ := fold_add n ps (addP n S q) w1
    refine ⟨g0, fun m => ?_, g2, g3, g4, g5, fun m => ?_, fun p m => ?_, fun p => ?_⟩
    · rw [List.foldl_cons, g1, t1]
      by_cases c : m = n <;> simp [c]; lia
    · rw [List.foldl_cons, g6]
      have : m ∈ (addP n S q).nodes ↔ m ∈ S.nodes ∨ m = q := by
        show m ∈ (getS S q).nodes ↔ _
        unfold getS
        simp only []
        split
        · rename_i h
          constructor
          · exact .inl
          · rintro (h' | rfl)
            · exact h'
            · exact h
        · simp
      rw [this, List.mem_cons, or_assoc]
    · rw [List.foldl_cons, g7]
      have : m ∈ (addP n S q).succ p ↔ m ∈ S.succ p ∨ (m = n ∧ p = q) := by
        show m ∈ setF S.succ q (S.succ q ++ [n]) p ↔ _
        unfold setF
        split
        · rename_i h; subst h; simp
        · rename_i h; simp [h]
      rw [this, List.mem_cons]
      constructor
      · rintro ((h | ⟨h1, h2⟩) | ⟨h1, h2⟩)
        · exact .inl h
        · exact .inr ⟨h1, .inl h2⟩
        · exact .inr ⟨h1, .inr h2⟩
      · rintro (h | ⟨h1, h2 | h2⟩)
        · exact .inl (.inl h)
        · exact .inl (.inr ⟨h1, h2⟩)
        · exact .inr ⟨h1, h2⟩
    · rw [List.foldl_cons]
      have h1 := g8 p
      have h2 := (addP_sz n S q).2 p
      simp only [List.length_cons]; lia
structure GW (S : SS) (M : Int → Prop) (L : Int → Int → Prop) (len : Nat) : Prop where
  w : WS S
  np : ∀ n, S.np n = tot S n
  rd : S.ready = none
  ps : S.pass = 0
  fi : S.fin = 0
  mem : ∀ m, m ∈ S.nodes ↔ M m
  edg : ∀ p n, n ∈ S.succ p ↔ L p n
  sz : ∀ p, (S.succ p).length ≤ len
theorem GW.nil : GW ⟨[], fun _ => 0, fun _ => [], none, 0, 0⟩ (fun _ => False) (fun _ _ => False) 0 :=
  ⟨⟨by simp, fun _ _ => rfl⟩, fun n => by simp [tot], rfl, rfl, rfl, by simp, by simp, by simp⟩
theorem GW.add {S : SS} {M : Int → Prop} {L : Int → Int → Prop} {len : Nat} (g : GW S M L len) (n : Int) (ps : List Int) : GW (addS S n ps) (fun m => M m ∨ m = n ∨ m ∈ ps) (fun p m => L p m ∨ (m = n ∧ p ∈ ps)) (len + ps.length) := by
  obtain ⟨w1, t1⟩ := g.w.get n
  have w2 : WS { getS S n with np := setF S.np n (S.np n + ps.length) } := ⟨w1.nd, w1.df⟩
  obtain ⟨g0, g1, g2, g3, g4, g5, g6, g7, g8⟩ := fold_add n ps _ w2
  refine ⟨g0, fun m => ?_, g3.trans g.rd, g4.trans g.ps, g5.trans g.fi, fun m => ?_, fun p m => ?_, fun p => ?_⟩
  · show (List.foldl (addP n) _ ps).np m = _
    rw [g2]
    show setF S.np n (S.np n + ps.length) m = _
    unfold addS
    rw [g1]
    have : tot { getS S n with np := setF S.np n (S.np n + ps.length) } m = tot S m := t1 m
    rw [this]
    unfold setF
    by_cases c : m = n
    · subst c; simp [g.np]
    · simp [c, g.np]
  · unfold addS
    rw [g6]
    show m ∈ (getS S n).nodes ∨ _ ↔ _
    rw [← g.mem m]
    unfold getS
    simp only []
    split
    · rename_i h
      constructor
      · rintro (h' | h')
        · exact .inl h'
        · exact .inr (.inr h')
      · rintro (h' | rfl | h')
        · exact .inl h'
        · exact .inl h
        · exact .inr h'
    · simp [or_assoc]
  · unfold addS
    rw [g7]
    show m ∈ S.succ p ∨ _ ↔ _
    rw [g.edg]
  · have := g8 p
    have h2 : (S.succ p).length ≤ len := g.sz p
    unfold addS
    exact Nat.le_trans this (Nat.add_le_add_right h2 _)
theorem tot_inc (S : SS) (n : Int) : tot S n = inc S.nodes S.succ [] n := by
  unfold tot inc
  rw [List.filter_eq_self.mpr (by simp)]
end Mine
namespace Mine
noncomputable def predsE (E : List (Int × Int)) (n : Int) : List Int := (E.filter fun e => decide (e.2 = n)).map (·.1)
theorem predsE_mem {E : List (Int × Int)} {n p : Int} : p ∈ predsE E n ↔ (p, n) ∈ E := by
  unfold predsE
  simp only [List.mem_map, List.mem_filter, decide_eq_true_eq]
  constructor
  · rintro ⟨⟨a, b⟩, ⟨h1, h2⟩, h3⟩; simp only [] at h2 h3; subst h2 h3; exact h1
  · intro h; exact ⟨(p, n), ⟨h, rfl⟩, rfl⟩
theorem predsE_len (E : List (Int × Int)) (n : Int) : (predsE E n).length ≤ E.length := by
  unfold predsE; simp only [List.length_map]; exact List.length_filter_le _ _
section
variable {Z : Hp} {x : Addr} {E : List (Int × Int)}
noncomputable def addElt : DE := dMeth (isInst cT 53) C_TS_add (dVar 50) (aCons (dVar 1) (aStar (dComp [1] (dVar 44) (gTup ([51, 52].map gVar)) (tBin bEq (dVar 52) (dVar 1)) (cElt (dVar 51))) aNil))
theorem add_elt {Q : V → Hp → Prop} {X : XA} {loc : Loc} {hp : Hp} {S : SS} {n : Int} (o : Own Z hp x S) (hr : S.ready = none) (hz : S.nodes.length ≤ 900) (hs : ∀ m, (S.succ m).length ≤ 900) (hE : E.length ≤ 6) (e50 : loc 50 = some (.ref x)) (e44 : loc 44 = some (.lst (E.map vE))) (e1 : loc 1 = some (.int n))
    (q : ∀ hp', Own Z hp' x (addS S n (predsE E n)) → Q .none hp') : addElt Q X loc hp := by
  have hi : isInst cT 53 hp (.ref x) := by obtain ⟨dd, D, ia, la, R, o⟩ := o; exact o.inst (by decide)
  have hlim : lim = 1000000 := rfl
  have hpl := predsE_len E n
  simp only [addElt, e_dMeth, e_dVar, rd e50]
  refine ⟨hi, ?_⟩
  simp only [e_aCons, e_dVar, rd e1, e_aStar, e_dComp, rd e44, it_lst]
  refine cLp_pure vE (fun e => decide (e.2 = n)) (fun e => .int e.1) E [] hp (by simp; lia) (by simp) ?_ ?_
  · intro e he acc ha R' hR
    simp [↓rd e1]
    split
    · rename_i c; simp [c] at hR; exact ⟨ha, hR⟩
    · rename_i c; simp [c] at hR; exact hR
  · have e : (E.filter fun e => decide (e.2 = n)).map (fun e => V.int e.1) = (predsE E n).map .int := by simp [predsE, Function.comp_def]
    simp only [List.nil_append, is_lst, e_aNil, List.append_nil, e]
    refine ⟨by simp only [List.length_map]; lia, ?_⟩
    exact c_add o hr (by lia) (fun m => by have := hs m; lia) q
theorem addS_len (S : SS) (n : Int) (ps : List Int) : (addS S n ps).nodes.length ≤ S.nodes.length + 1 + ps.length := by
  have : ∀ (ps : List Int) (S : SS), (ps.foldl (addP n) S).nodes.length ≤ S.nodes.length + ps.length := by
    intro ps
    induction ps with
    | nil => intro S; simp
    | cons p ps ih => intro S; have := ih (addP n S p); have := (addP_sz n S p).1; simp only [List.foldl_cons, List.length_cons]; lia
  have h2 := getS_len S n
  exact Nat.le_trans (this ps _) (Nat.add_le_add_right h2 _)
theorem adds_loop {K : List V → Hp → Prop} {hp0 : Hp} {v : V} {loc : Loc} (hv : ∀ h h', same v h h') (hE : E.length ≤ 6) (e50 : loc 50 = some (.ref x)) (e44 : loc 44 = some (.lst (E.map vE))) : ∀ (ns : List Int) (acc : List V) (hp : Hp) (S : SS) (M : Int → Prop) (L : Int → Int → Prop) (len : Nat), Own Z hp x S → GW S M L len → S.nodes.length + 7 * ns.length ≤ 500 → len + 6 * ns.length ≤ 500 → acc.length + ns.length ≤ 500 →
    (∀ hp' S', Own Z hp' x S' → GW S' (fun m => M m ∨ m ∈ ns ∨ ∃ n ∈ ns, (m, n) ∈ E) (fun p m => L p m ∨ (m ∈ ns ∧ (p, m) ∈ E)) (len + 6 * ns.length) → S'.nodes.length ≤ S.nodes.length + 7 * ns.length → K (acc ++ List.replicate ns.length .none) hp') → cLp v hp0 (gVar 1) fNone (cElt addElt) K (ns.map .int) acc loc hp
  | [], acc, hp, S, M, L, len, o, g, _, _, _, q => by
    show K acc hp
    have := q hp S o (by simpa using g) (by simp)
    simpa using this
  | n :: ns, acc, hp, S, M, L, len, o, g, h1, h2, h3, q => by
    simp only [List.length_cons] at h1 h2 h3
    have hlim : lim = 1000000 := rfl
    rw [List.map_cons, cLpC]
    simp only [e_gVar, e_fNone, if_true, e_cElt]
    refine ⟨by lia, ?_⟩
    refine add_elt (n := n) o g.rd (by lia) (fun m => by have := g.sz m; lia) hE (by rw [upd_ne (by decide)]; exact e50) (by rw [upd_ne (by decide)]; exact e44) (by simp) fun hp' o' => ⟨hv _ _, ?_⟩
    have hl := addS_len S n (predsE E n)
    have hpl := predsE_len E n
    have g' := g.add n (predsE E n)
    refine adds_loop hv hE e50 e44 ns (acc ++ [.none]) hp' _ _ _ _ o' g' (by lia) (by lia) (by simp; lia) fun hp2 S2 o2 g2 hl2 => ?_
    have := q hp2 S2 o2 ⟨g2.w, g2.np, g2.rd, g2.ps, g2.fi, fun m => ?_, fun p m => ?_, fun p => Nat.le_trans (g2.sz p) (by simp only [List.length_cons]; lia)⟩ (by simp only [List.length_cons]; lia)
    · simpa [List.replicate_succ] using this
    · rw [g2.mem]
      simp only [predsE_mem, List.mem_cons]
      constructor
      · rintro ((h | h | h) | h | ⟨k, h, h'⟩)
        · exact .inl h
        · exact .inr (.inl (.inl h))
        · exact .inr (.inr ⟨n, .inl rfl, h⟩)
        · exact .inr (.inl (.inr h))
        · exact .inr (.inr ⟨k, .inr h, h'⟩)
      · rintro (h | (h | h) | ⟨k, rfl | h, h'⟩)
        · exact .inl (.inl h)
        · exact .inl (.inr (.inl h))
        · exact .inr (.inl h)
        · exact .inl (.inr (.inr h'))
        · exact .inr (.inr ⟨k, h, h'⟩)
    · rw [g2.edg]
      simp only [predsE_mem, List.mem_cons]
      constructor
      · rintro ((h | ⟨rfl, h⟩) | ⟨h, h'⟩)
        · exact .inl h
        · exact .inr ⟨.inl rfl, h⟩
        · exact .inr ⟨.inr h, h'⟩
      · rintro (h | ⟨rfl | h, h'⟩)
        · exact .inl (.inl h)
        · exact .inl (.inr ⟨rfl, h'⟩)
        · exact .inr ⟨h, h'⟩
noncomputable def add1Elt : DE := dMeth (isInst cT 53) C_TS_add (dVar 50) (aCons (dVar 52) (aCons (dVar 51) aNil))
theorem add1_loop {K : List V → Hp → Prop} {hp0 : Hp} {v : V} {loc : Loc} (hv : ∀ h h', same v h h') (e50 : loc 50 = some (.ref x)) : ∀ (es : List (Int × Int)) (acc : List V) (hp : Hp) (S : SS) (M : Int → Prop) (L : Int → Int → Prop) (len : Nat), Own Z hp x S → GW S M L len → S.nodes.length + 2 * es.length ≤ 500 → len + es.length ≤ 500 → acc.length + es.length ≤ 500 → (∀ e ∈ es, M e.1 ∧ M e.2 ∧ L e.1 e.2) →
    (∀ hp' S', Own Z hp' x S' → GW S' M L (len + es.length) → S'.nodes.length ≤ S.nodes.length + 2 * es.length → K (acc ++ List.replicate es.length .none) hp') → cLp v hp0 (gTup ([51, 52].map gVar)) fNone (cElt add1Elt) K (es.map vE) acc loc hp
  | [], acc, hp, S, M, L, len, o, g, _, _, _, _, q => by
    show K acc hp
    have := q hp S o (by simpa using g) (by simp)
    simpa using this
  | e :: es, acc, hp, S, M, L, len, o, g, h1, h2, h3, h4, q => by
    simp only [List.length_cons] at h1 h2 h3
    have hlim : lim = 1000000 := rfl
    have hi : isInst cT 53 hp (.ref x) := by obtain ⟨dd, D, ia, la, R, o⟩ := o; exact o.inst (by decide)
    rw [List.map_cons (f := vE), cLpC]
    simp [add1Elt, ↓rd e50, hi, -Bool.exists_bool]
    refine ⟨by lia, ?_⟩
    refine c_add (ps := [e.1]) o g.rd (by simp; lia) (fun m => by have := g.sz m; simp; lia) fun hp' o' => ⟨hv _ _, ?_⟩
    have hl := addS_len S e.2 [e.1]
    have g' := g.add e.2 [e.1]
    obtain ⟨m1, m2, m3⟩ := h4 e List.mem_cons_self
    have g2 : GW (addS S e.2 [e.1]) M L (len + 1) := ⟨g'.w, g'.np, g'.rd, g'.ps, g'.fi, fun m => by
        rw [g'.mem]; constructor
        · rintro (h | rfl | h)
          · exact h
          · exact m2
          · simp at h; subst h; exact m1
        · exact .inl, fun p m => by
        rw [g'.edg]; constructor
        · rintro (h | ⟨rfl, h⟩)
          · exact h
          · simp at h; subst h; exact m3
        · exact .inl, g'.sz⟩
    simp only [List.length_cons, List.length_nil] at hl
    refine add1_loop hv e50 es (acc ++ [.none]) hp' _ M L (len + 1) o' g2 (by lia) (by lia) (by simp; lia) (fun e' he => h4 e' (List.mem_cons_of_mem _ he)) fun hp2 S2 o2 g3 hl2 => ?_
    have := q hp2 S2 o2 ⟨g3.w, g3.np, g3.rd, g3.ps, g3.fi, g3.mem, g3.edg, fun p => Nat.le_trans (g3.sz p) (by simp only [List.length_cons]; lia)⟩ (by simp only [List.length_cons]; lia)
    simpa [List.replicate_succ] using this
end
end Mine
namespace Mine
theorem lt_unique : ∀ (xs ys : List Int), xs.Pairwise (· < ·) → ys.Pairwise (· < ·) → (∀ n, n ∈ xs ↔ n ∈ ys) → xs = ys
  | [], [], _, _, _ => rfl
  | [], y :: ys, _, _, h => absurd ((h y).mpr List.mem_cons_self) (by simp)
  | x :: xs, [], _, _, h => absurd ((h x).mp List.mem_cons_self) (by simp)
  | x :: xs, y :: ys, hx, hy, h => by
    rw [List.pairwise_cons] at hx hy
    have e : x = y := by
      have h1 := (h x).mp List.mem_cons_self
      have h2 := (h y).mpr List.mem_cons_self
      rcases List.mem_cons.mp h1 with h1 | h1
      · exact h1
      · rcases List.mem_cons.mp h2 with h2 | h2
        · exact h2.symm
        · have := hx.1 y h2; have := hy.1 x h1; lia
    subst e
    congr 1
    refine lt_unique xs ys hx.2 hy.2 fun n => ?_
    constructor
    · intro hn
      have := (h n).mp (List.mem_cons_of_mem _ hn)
      rcases List.mem_cons.mp this with rfl | h'
      · exact absurd (hx.1 n hn) (by lia)
      · exact h'
    · intro hn
      have := (h n).mpr (List.mem_cons_of_mem _ hn)
      rcases List.mem_cons.mp this with rfl | h'
      · exact absurd (hy.1 n hn) (by lia)
      · exact h'
theorem sortZ_lt (xs : List Int) (hn : xs.Nodup) : (sortZ xs).Pairwise (· < ·) := by
  have h1 : (sortZ xs).Pairwise (fun a b => decide (a ≤ b) = true) := List.pairwise_mergeSort (le := fun a b => decide (a ≤ b)) (fun a b c => by simp; lia) (fun a b => by simp; lia) xs
  have h2 : (sortZ xs).Nodup := (List.mergeSort_perm xs _).nodup_iff.mpr hn
  refine (h1.and h2).imp fun {a b} h => ?_
  have := h.1
  have := h.2
  simp at *; lia
theorem sortZ_mem (xs : List Int) (n : Int) : n ∈ sortZ xs ↔ n ∈ xs := (List.mergeSort_perm xs _).mem_iff
theorem sort4 (xs : List Int) (hn : xs.Nodup) (p : Int → Bool) (h : ∀ n, n ∈ xs ↔ (0 ≤ n ∧ n < 4) ∧ p n = true) : sortZ xs = ([0, 1, 2, 3] : List Int).filter p := by
  refine lt_unique _ _ (sortZ_lt xs hn) ((show ([0, 1, 2, 3] : List Int).Pairwise (· < ·) by decide).filter p) fun n => ?_
  rw [sortZ_mem, h, List.mem_filter]
  constructor
  · rintro ⟨⟨h1, h2⟩, h3⟩; exact ⟨by simp; lia, h3⟩
  · rintro ⟨h1, h3⟩; refine ⟨?_, h3⟩; simp at h1; lia
theorem rng4 : rngList 0 4 = ([0, 1, 2, 3] : List Int).map .int := by rfl
inductive Run (E : List (Int × Int)) (held : Int) : List Int → Prop
  | nil : Run E held []
  | snoc {o : List Int} {c : Int} : Run E held o → 0 ≤ c → c < 4 → c ∉ o → (∀ p, (p, c) ∈ E → p ∈ o) → (c = held → ∀ n, 0 ≤ n → n < 4 → n ∉ o → n ≠ c → ∃ p, (p, n) ∈ E ∧ p ∉ o) → Run E held (o ++ [c])
structure GR (E : List (Int × Int)) (nodes : List Int) (succ : Int → List Int) : Prop where
  nd : nodes.Nodup
  mem : ∀ m, m ∈ nodes ↔ 0 ≤ m ∧ m < 4
  edg : ∀ p n, n ∈ succ p ↔ (p, n) ∈ E
  ine : ∀ e ∈ E, InE e
  sz : ∀ p, (succ p).length ≤ 500
theorem GR.cls {E : List (Int × Int)} {nodes : List Int} {succ : Int → List Int} (g : GR E nodes succ) : ∀ n ∈ nodes, ∀ s ∈ succ n, s ∈ nodes := fun n _ s hs => by
  have := g.ine _ ((g.edg n s).mp hs)
  rw [g.mem]; exact ⟨this.2.2.1, this.2.2.2⟩
theorem GR.len {E : List (Int × Int)} {nodes : List Int} {succ : Int → List Int} (g : GR E nodes succ) (xs : List Int) (hn : xs.Nodup) (h : ∀ n ∈ xs, n ∈ nodes) : xs.length ≤ 4 := by
  have := nodup_le xs [0, 1, 2, 3] hn fun x hx => by
    have := (g.mem x).mp (h x hx); simp; lia
  simpa using this
theorem GR.zero {E : List (Int × Int)} {nodes : List Int} {succ : Int → List Int} (g : GR E nodes succ) {order : List Int} {n : Int} : inc nodes succ order n = 0 ↔ ∀ p, (p, n) ∈ E → p ∈ order := by
  rw [inc_zero]
  constructor
  · intro h p hp
    have := g.ine _ hp
    exact h p ((g.mem p).mpr ⟨this.1, this.2.1⟩) ((g.edg p n).mpr hp)
  · intro h p _ hp; exact h p ((g.edg p n).mp hp)
noncomputable def pick (held : Int) (W : List Int) : Int := match W.filter fun n => decide (n ≠ held) with | [] => held | c :: _ => c
theorem pick_mem {held : Int} {W : List Int} (h : W ≠ []) : pick held W ∈ W := by
  unfold pick
  split
  · rename_i e
    cases W with
    | nil => exact absurd rfl h
    | cons a W =>
      have := List.filter_eq_nil_iff.mp e a List.mem_cons_self
      simp at this; subst this; exact List.mem_cons_self
  · rename_i c l e
    have : c ∈ W.filter fun n => decide (n ≠ held) := by rw [e]; exact List.mem_cons_self
    exact (List.mem_filter.mp this).1
theorem pick_held {held : Int} {W : List Int} (h : pick held W = held) : ∀ n ∈ W, n = held := by
  unfold pick at h
  split at h
  · rename_i e
    intro n hn
    have := List.filter_eq_nil_iff.mp e n hn
    simpa using this
  · rename_i c l e
    have : c ∈ W.filter fun n => decide (n ≠ held) := by rw [e]; exact List.mem_cons_self
    have := (List.mem_filter.mp this).2
    simp [h] at this
theorem turn {E : List (Int × Int)} {nodes : List Int} {succ : Int → List Int} (g : GR E nodes succ) {order W r : List Int} {S : SS} {held : Int} (k : KI nodes succ order W r S) (hne : W ++ r ≠ []) (hr : Run E held order) :
    ∃ z, KI nodes succ (order ++ [pick held (W ++ r)]) ((W ++ r).erase (pick held (W ++ r))) z (doneS (readyS S r) (pick held (W ++ r))) ∧ Run E held (order ++ [pick held (W ++ r)]) ∧ (readyS S r).np (pick held (W ++ r)) = -1 ∧ pick held (W ++ r) ∈ nodes := by
  have k1 := k.out
  have hm := pick_mem (held := held) hne
  obtain ⟨h1, h2, z, k2⟩ := k1.done g.nd hm g.cls
  have hco : pick held (W ++ r) ∉ order := fun h => by
    have := k.dis
    rw [List.nodup_append] at this
    exact this.2.2 _ h _ hm rfl
  refine ⟨z, by simpa using k2, ?_, h1, h2⟩
  obtain ⟨a, b⟩ := (g.mem _).mp h2
  refine .snoc hr a b hco (g.zero.mp ((k.zero _ h2 hco).mp hm)) fun hh n n1 n2 n3 n4 => ?_
  have hn : n ∈ nodes := (g.mem n).mpr ⟨n1, n2⟩
  have hw : n ∉ W ++ r := fun h => n4 (by rw [hh]; exact pick_held hh n h)
  have : ¬ inc nodes succ order n = 0 := fun h => hw ((k.zero n hn n3).mpr h)
  rw [g.zero] at this
  by_cases q : ∃ p, (p, n) ∈ E ∧ p ∉ order
  · exact q
  · exact absurd (fun p hp => by
      by_cases c : p ∈ order
      · exact c
      · exact absurd ⟨p, hp, c⟩ q) this
theorem due_eq {E : List (Int × Int)} {nodes : List Int} {succ : Int → List Int} (g : GR E nodes succ) {order W r : List Int} {S : SS} (k : KI nodes succ order W r S) :
    sortZ (W ++ r) = ([0, 1, 2, 3] : List Int).filter fun n => decide (n ∉ order ∧ n ∉ (E.filter fun e => decide (e.1 ∉ order)).map (·.2)) := by
  refine sort4 _ (List.nodup_append.mp k.dis).2.1 _ fun n => ?_
  have hb : n ∉ (E.filter fun e => decide (e.1 ∉ order)).map (·.2) ↔ ∀ p, (p, n) ∈ E → p ∈ order := by
    constructor
    · intro h p hp
      by_cases c : p ∈ order
      · exact c
      · exact absurd (List.mem_map.mpr ⟨(p, n), List.mem_filter.mpr ⟨hp, by simpa using c⟩, rfl⟩) h
    · intro h hm
      obtain ⟨⟨a, b⟩, h1, h2⟩ := List.mem_map.mp hm
      obtain ⟨h3, h4⟩ := List.mem_filter.mp h1
      simp only [] at h2; subst h2
      exact absurd (h a h3) (by simpa using h4)
  rw [decide_eq_true_eq, hb, ← g.zero, ← g.mem]
  constructor
  · intro h
    have hn : n ∈ nodes := k.sub n (List.mem_append_right _ h)
    have ho : n ∉ order := fun q => by
      have := k.dis
      rw [List.nodup_append] at this
      exact this.2.2 _ q _ h rfl
    exact ⟨hn, ho, (k.zero n hn ho).mp h⟩
  · rintro ⟨hn, ho, hz⟩
    exact (k.zero n hn ho).mpr hz
end Mine
namespace Mine
theorem e_notInR {Q : V → Hp → Prop} {hp : Hp} {a : Addr} {k : Int} {xs : List Int} (h : hp a = some (.lst (xs.map .int))) : bNotIn (.int k) (.ref a) Q hp = Q (.bool (decide (k ∉ xs))) hp := by
  apply propext; constructor
  · rintro ⟨r, hr, q⟩
    obtain ⟨ds, d, h1, h2, _, _, h3⟩ := (inRes_o h).mp hr
    rw [toD_ref h] at h1; cases h1; cases h2; rw [anyI] at h3; subst h3; simpa using q
  · exact notIn_ref h
theorem erase_map (c : Int) : ∀ xs : List Int, c ∈ xs → (xs.map V.int).eraseIdx (xs.idxOf c) = (xs.erase c).map .int
  | x :: xs, h => by
    by_cases e : x = c
    · subst e; simp
    · have hc : c ∈ xs := by
        rcases List.mem_cons.mp h with h | h
        · exact absurd h.symm e
        · exact h
      have hb : (x == c) = false := by simpa using e
      rw [List.idxOf_cons, hb, List.erase_cons, hb]
      simp [erase_map c xs hc]
structure LR (hpI Z hp : Hp) (x aG aW aO : Addr) (S : SS) (order W : List Int) (k : Nat) : Prop where
  own : Own Z hp x S
  hG : Z aG = some (.lst (List.replicate k .none))
  hW : Z aW = some (.lst (W.map .int))
  hO : Z aO = some (.lst (order.map .int))
  gw : aG ≠ aW
  go : aG ≠ aO
  wo : aW ≠ aO
  gi : Grow hpI Z
  nG : hpI aG = Option.none
  nW : hpI aW = Option.none
  nO : hpI aO = Option.none
structure LL (loc : Loc) (x aG aW aO : Addr) (E : List (Int × Int)) (held : Int) : Prop where
  l50 : loc 50 = some (.ref x)
  l44 : loc 44 = some (.lst (E.map vE))
  l49 : loc 49 = some (.int held)
  l54 : loc 54 = some (.ref aG)
  l57 : loc 57 = some (.ref aW)
  l58 : loc 58 = some (.ref aO)
theorem own_gr {Z hp : Hp} {x : Addr} {S : SS} (o : Own Z hp x S) : Grow Z hp := by obtain ⟨dd, D, ia, la, R, o⟩ := o; exact o.gr
theorem own_inst {Z hp : Hp} {x : Addr} {S : SS} (o : Own Z hp x S) {j : Nat} (hj : j ≠ 2 ∧ j ≠ 5 ∧ j ≠ 11 ∧ j ≠ 12) : isInst cT j hp (.ref x) := by obtain ⟨dd, D, ia, la, R, o⟩ := o; exact o.inst hj
section
variable {hpI Z hp : Hp} {x aG aW aO : Addr} {E : List (Int × Int)} {held : Int} {nodes : List Int} {succ : Int → List Int} {order W r : List Int} {S : SS} {k : Nat}
theorem rb_behind {Q : Fw → Loc → Hp → Prop} {X : XS} {loc : Loc} (hE : E.length ≤ 6) (ho : order.length ≤ 4) (l44 : loc 44 = some (.lst (E.map vE))) (l58 : loc 58 = some (.ref aO)) (pO : hp aO = some (.lst (order.map .int)))
    (q : Q .next (upd loc 62 (.lst (((E.filter fun e => decide (e.1 ∉ order)).map (·.2)).map .int))) hp) :
    sAsg (dComp [58] (dVar 44) (gTup ([51, 52].map gVar)) (tBin bNotIn (dVar 51) (dVar 58)) (cElt (dVar 52))) (gVar 62) Q X loc hp := by
  have hlim : lim = 1000000 := rfl
  rw [List.map_map] at q
  simp only [e_sAsg, e_dComp, e_dVar, rd l44, it_lst, e_gVar]
  refine cLp_pure vE (fun e => decide (e.1 ∉ order)) (fun e => .int e.2) E [] hp (by simp; lia) (by simp) ?_ q
  intro e he acc ha R2 hR
  simp [↓rd l58, ↓e_notInR pO, -Bool.exists_bool]
  by_cases c : e.1 ∈ order
  · simp [c] at hR ⊢; exact hR
  · simp [c] at hR ⊢; exact ⟨ha, hR⟩
theorem rb_due {Q : Fw → Loc → Hp → Prop} {X : XS} {loc : Loc} {be : List Int} (l58 : loc 58 = some (.ref aO)) (l62 : loc 62 = some (.lst (be.map .int))) (pO : hp aO = some (.lst (order.map .int)))
    (q : Q .next (upd loc 63 (.lst (([0, 1, 2, 3].filter fun n => decide (n ∉ order ∧ n ∉ be)).map .int))) hp) :
    sAsg (dComp [58, 62] (dCall dRange1 (aCons (dCon (.int 4)) aNil)) (gVar 1) (tAnd (tBin bNotIn (dVar 1) (dVar 58)) (tAnd (tBin bNotIn (dVar 1) (dVar 62)) (fun Q _ _ hp => Q true hp))) (cElt (dVar 1))) (gVar 63) Q X loc hp := by
  have hlim : lim = 1000000 := rfl
  simp only [e_gVar, e_sAsg, e_dComp, e_dCall, e_aCons, e_dCon, e_aNil, e_dRange1, it_of (iter_rng (lo := 0) (hi := 4) (by decide) (by decide)), rng4]
  refine cLp_pure V.int (fun n => decide (n ∉ order ∧ n ∉ be)) V.int [0, 1, 2, 3] [] hp (by simp; lia) (by simp) ?_ q
  intro n hn acc ha R2 hR
  simp [↓rd l58, ↓rd l62, ↓e_notInR pO, -Bool.exists_bool]
  by_cases c : n ∈ order
  · simp [c] at hR ⊢; exact hR
  · by_cases c2 : n ∈ be
    · simp [c, c2] at hR ⊢; exact hR
    · simp [c, c2] at hR ⊢; exact ⟨ha, hR⟩
theorem rb_test {Q : Fw → Loc → Hp → Prop} {X : XS} {loc : Loc} {b : DS} {W r : List Int} (hl : W.length ≤ 4) (l57 : loc 57 = some (.ref aW)) (l61 : loc 61 = some (.tup (r.map .int))) (l63 : loc 63 = some (.lst ((sortZ W).map .int))) (pW : hp aW = some (.lst (W.map .int))) (q : Q .next loc hp) :
    sIf (tOr (tNot (tTru (dCall dIsTup (aCons (dVar 61) (aCons (dCon (.fn (.type "tuple"))) aNil))))) (tOr (tBin bNe (dCall dSortZ (aCons (dVar 57) aNil)) (dVar 63)) (fun Q _ _ hp => Q false hp))) b sSkip Q X loc hp := by
  have hlim : lim = 1000000 := rfl
  have srt : ∀ (Q : V → Hp → Prop) (X : XA), dSortZ [.ref aW] Q X hp = Q (.lst ((sortZ W).map .int)) hp := by
    intro Q X
    apply propext; constructor
    · rintro ⟨v, us, ms, h1, h2, h3, _, q⟩
      simp only [List.cons.injEq, and_true] at h1
      subst h1
      cases (listOf_ref pW).symm.trans h2; cases (intsOf_map W).symm.trans h3; exact q
    · intro q; exact ⟨_, _, _, rfl, listOf_ref pW, intsOf_map _, by simp; lia, q⟩
  have tup : ∀ (Q : V → Hp → Prop) (X : XA) hp, dIsTup [.tup (r.map .int), .fn (.type "tuple")] Q X hp = Q (.bool true) hp := by
    intro Q X hp
    apply propext; constructor
    · rintro ⟨us, h1, q⟩; exact q
    · intro q; exact ⟨_, rfl, q⟩
  simp only [e_sIf, e_tOr, e_tNot, e_tTru, e_dCall, e_aCons, e_dVar, rd l61, e_dCon, e_aNil, tup, tr_bool, e_tBin, rd l57, srt, rd l63, e_neLs, ex_bool]
  simp only [ne_eq, not_true_eq_false, decide_false, Bool.not_true]
  simpa [-Bool.exists_bool] using q
theorem rb_free {Q : Fw → Loc → Hp → Prop} {X : XS} {loc : Loc} {W : List Int} (hl : W.length ≤ 4) (l49 : loc 49 = some (.int held)) (l57 : loc 57 = some (.ref aW)) (pW : hp aW = some (.lst (W.map .int)))
    (q : Q .next (upd loc 64 (.lst ((W.filter fun n => decide (n ≠ held)).map .int))) hp) :
    sAsg (dComp [49] (dVar 57) (gVar 1) (tBin bNe (dVar 1) (dVar 49)) (cElt (dVar 1))) (gVar 64) Q X loc hp := by
  have hlim : lim = 1000000 := rfl
  simp only [e_sAsg, e_dComp, e_dVar, rd l57, e_gVar]
  refine ⟨W.map .int, iter_lstref pW, ?_⟩
  refine cLp_pure V.int (fun n => decide (n ≠ held)) V.int W [] hp (by simp; lia) rfl ?_ q
  intro n hn acc ha R2 hR
  simp [↓rd l49, -Bool.exists_bool]
  by_cases c : n = held
  · simp [c] at hR ⊢; exact hR
  · simp [c] at hR ⊢; exact ⟨ha, hR⟩
theorem rb_pick {Q : Fw → Loc → Hp → Prop} {X : XS} {loc : Loc} {W : List Int} (hl : W.length ≤ 4) (l49 : loc 49 = some (.int held)) (l64 : loc 64 = some (.lst ((W.filter fun n => decide (n ≠ held)).map .int)))
    (q : Q .next (upd loc 65 (.int (pick held W))) hp) :
    sAsg (dIte (tBin bNe (dVar 64) (dLst aNil)) (dBin bItem (dVar 64) (dCon (.int 0))) (dVar 49)) (gVar 65) Q X loc hp := by
  have hlim : lim = 1000000 := rfl
  unfold pick at q
  have hle := List.length_filter_le (fun n => decide (n ≠ held)) W
  simp only [e_sAsg, e_dIte, e_tBin, e_dVar, rd l64, rd l49, e_dLst, e_aNil, e_neL0, List.length_nil, Nat.zero_le, true_and, e_gVar, ex_bool, e_dBin, e_dCon, e_bItemL]
  cases hf : W.filter (fun n => decide (n ≠ held)) with
  | nil =>
    rw [hf] at q
    exact q
  | cons d ds =>
    rw [hf] at q hle
    exact ⟨by simp only [List.length_map]; lia, .int d, by simp [itemAt], q⟩
theorem rb_take {Q : Fw → Loc → Hp → Prop} {X : XS} {loc : Loc} {W : List Int} {c : Int} (hl : W.length ≤ 4) (hc : c ∈ W) (l57 : loc 57 = some (.ref aW)) (l65 : loc 65 = some (.int c)) (pW : hp aW = some (.lst (W.map .int)))
    (q : Q .next loc (upd hp aW (.lst ((W.erase c).map .int)))) : sExp (dMeth isLst dRemove (dVar 57) (aCons (dVar 65) aNil)) Q X loc hp := by
  have hlim : lim = 1000000 := rfl
  simp only [e_sExp, e_dMeth, e_aCons, e_dVar, rd l57, rd l65, e_aNil]
  refine ⟨isLst_ref pW, aW, _, _, c, rfl, pW, intsOf_map _, by simp; lia, hc, ?_⟩
  rw [erase_map _ _ hc]
  exact q
theorem rb_put {Q : Fw → Loc → Hp → Prop} {X : XS} {loc : Loc} {c : Int} (ho : order.length ≤ 4) (l58 : loc 58 = some (.ref aO)) (l65 : loc 65 = some (.int c)) (pO : hp aO = some (.lst (order.map .int)))
    (q : Q .next loc (upd hp aO (.lst ((order ++ [c]).map .int)))) : sExp (dMeth isLst dAppend (dVar 58) (aCons (dVar 65) aNil)) Q X loc hp := by
  have hlim : lim = 1000000 := rfl
  simp only [e_sExp, e_dMeth, e_aCons, e_dVar, rd l58, rd l65, e_aNil]
  refine ⟨isLst_ref pO, e_append pO (by simp; lia) ?_⟩
  rw [List.map_append] at q
  exact q
theorem rb_get {Q : Fw → Loc → Hp → Prop} {X : XS} {loc : Loc} {r : List Int} (o : Own Z hp x S) (hr : S.ready = some r) (hn : ∀ n ∈ r, n ∈ S.nodes) (hl : r.length ≤ 4) (l50 : loc 50 = some (.ref x))
    (q : ∀ hp', Own Z hp' x (readyS S r) → Q .next (upd loc 61 (.tup (r.map .int))) hp') : sAsg (dMeth (isInst cT 60) C_TS_get_ready (dVar 50) aNil) (gVar 61) Q X loc hp := by
  simp only [e_sAsg, e_dMeth, e_dVar, rd l50, e_aNil, e_gVar]
  exact ⟨own_inst o (by decide), c_ready o hr hn (by lia) q⟩
theorem rb_ext {Q : Fw → Loc → Hp → Prop} {X : XS} {loc : Loc} {W r : List Int} (hl : W.length + r.length ≤ 4) (l57 : loc 57 = some (.ref aW)) (l61 : loc 61 = some (.tup (r.map .int))) (pW : hp aW = some (.lst (W.map .int)))
    (q : Q .next loc (upd hp aW (.lst ((W ++ r).map .int)))) : sExp (dMeth isLst dExtend (dVar 57) (aCons (dVar 61) aNil)) Q X loc hp := by
  have hlim : lim = 1000000 := rfl
  simp only [e_sExp, e_dMeth, e_aCons, e_dVar, rd l57, rd l61, e_aNil]
  rw [List.map_append] at q
  exact ⟨isLst_ref pW, aW, _, _, r.map .int, rfl, pW, rfl, by simp; lia, q⟩
theorem rb_done {Q : Fw → Loc → Hp → Prop} {X : XS} {loc : Loc} {c : Int} (o : Own Z hp x S) (dk : DoneOk S [c]) (hr : S.ready ≠ none) (hk : k ≤ 500) (zG : Z aG = some (.lst (List.replicate k .none))) (l54 : loc 54 = some (.ref aG)) (l50 : loc 50 = some (.ref x)) (l65 : loc 65 = some (.int c))
    (q : ∀ hp', Own (upd Z aG (.lst (List.replicate (k + 1) .none))) hp' x (doneS S c) → Q .next loc hp') : sExp (dMeth isLst dAppend (dVar 54) (aCons (dMeth (isInst cT 66) C_TS_done (dVar 50) (aCons (dVar 65) aNil)) aNil)) Q X loc hp := by
  have hlim : lim = 1000000 := rfl
  simp only [e_sExp, e_dMeth, e_aCons, e_dVar, rd l54, rd l50, rd l65, e_aNil]
  refine ⟨isLst_ref (own_gr o _ _ zG), own_inst o (by decide), c_done (ns := [c]) o dk (by simp) hr fun hp5 o5 => ?_⟩
  refine e_append (own_gr o5 _ _ zG) (by simp; lia) (q _ ?_)
  rw [List.replicate_succ']
  exact o5.other (.inr ⟨_, zG⟩)
theorem run_body {R' : Fw → Loc → Hp → Prop} {X : XS} {loc : Loc} (g : GR E nodes succ) (hE : E.length ≤ 6) (l : LR hpI Z hp x aG aW aO S order W k) (ll : LL loc x aG aW aO E held) (ki : KI nodes succ order W r S) (hne : W ++ r ≠ []) (hk : k ≤ 500) (hrun : Run E held order)
    (q : ∀ loc' hp' Z', LR hpI Z' hp' x aG aW aO (doneS (readyS S r) (pick held (W ++ r))) (order ++ [pick held (W ++ r)]) ((W ++ r).erase (pick held (W ++ r))) (k + 1) → LL loc' x aG aW aO E held → loc' 55 = loc 55 → R' .next loc' hp') : L_law_run_1 R' X loc hp := by
  have hlen := g.len _ ki.dis ki.sub
  simp only [List.length_append] at hlen
  obtain ⟨z, k2, rn, hnp, hpn⟩ := turn (held := held) g ki hne hrun
  have hcW := pick_mem (held := held) hne
  generalize hc : pick held (W ++ r) = c at *
  unfold L_law_run_1
  refine sq (rb_get l.own ki.rd (fun n hn => by rw [ki.hn]; exact ki.sub n (by simp [hn])) (by lia) ll.l50 fun hp1 o1 => nsq ?_)
  refine rb_ext (by lia) ((upd_ne (by decide)).trans ll.l57) us (own_gr o1 _ _ l.hW) (nsq ?_)
  have o2 := o1.other (g := aW) (o := .lst ((W ++ r).map .int)) (.inr ⟨_, l.hW⟩)
  have zW : upd Z aW (.lst ((W ++ r).map .int)) aW = some (.lst ((W ++ r).map .int)) := us
  have zO := (upd_ne (v := .lst ((W ++ r).map .int)) (Ne.symm l.wo)).trans l.hO
  have zG := (upd_ne (v := .lst ((W ++ r).map .int)) l.gw).trans l.hG
  have gi2 := l.gi.upd (o := .lst ((W ++ r).map .int)) l.nW
  clear o1
  generalize upd Z aW (.lst ((W ++ r).map .int)) = Z2 at *
  generalize upd hp1 aW (.lst ((W ++ r).map .int)) = hp2 at *
  have pW := own_gr o2 _ _ zW
  have pO := own_gr o2 _ _ zO
  obtain ⟨loc1, hl1⟩ : ∃ l, l = upd loc 61 (.tup (r.map .int)) := ⟨_, rfl⟩
  rw [← hl1]
  have f : ∀ i, i ≠ 61 → loc1 i = loc i := fun i h => by rw [hl1, upd_ne h]
  have f61 : loc1 61 = some (.tup (r.map .int)) := by rw [hl1]; exact us
  clear hl1
  refine rb_behind hE (by lia) ((f _ (by decide)).trans ll.l44) ((f _ (by decide)).trans ll.l58) pO (nsq ?_)
  refine rb_due ((upd_ne (by decide)).trans ((f _ (by decide)).trans ll.l58)) us pO (nsq ?_)
  rw [← due_eq g ki]
  obtain ⟨loc3, hl3⟩ : ∃ l, l = upd (upd loc1 62 (.lst (((E.filter fun e => decide (e.1 ∉ order)).map (·.2)).map .int))) 63 (.lst ((sortZ (W ++ r)).map .int)) := ⟨_, rfl⟩
  rw [← hl3]
  have f3 : ∀ i, i ≠ 61 → i ≠ 62 → i ≠ 63 → loc3 i = loc i := fun i h1 h2 h3 => by rw [hl3, upd_ne h3, upd_ne h2, f i h1]
  have f361 : loc3 61 = some (.tup (r.map .int)) := by rw [hl3, upd_ne (by decide), upd_ne (by decide)]; exact f61
  have f363 : loc3 63 = some (.lst ((sortZ (W ++ r)).map .int)) := by rw [hl3]; exact us
  clear hl3 f f61
  have g57 := (f3 57 (by decide) (by decide) (by decide)).trans ll.l57
  have g49 := (f3 49 (by decide) (by decide) (by decide)).trans ll.l49
  have hl4 : (W ++ r).length ≤ 4 := by rw [List.length_append]; lia
  refine rb_test hl4 g57 f361 f363 pW (nsq ?_)
  refine rb_free hl4 g49 g57 pW (nsq ?_)
  refine rb_pick hl4 ((upd_ne (by decide)).trans g49) us (nsq ?_)
  rw [hc]
  obtain ⟨loc4, h4⟩ : ∃ l, l = upd (upd loc3 64 (.lst (((W ++ r).filter fun n => decide (n ≠ held)).map .int))) 65 (.int c) := ⟨_, rfl⟩
  rw [← h4]
  have f4 : ∀ i, i ≠ 61 → i ≠ 62 → i ≠ 63 → i ≠ 64 → i ≠ 65 → loc4 i = loc i := fun i h1 h2 h3 h4' h5 => by rw [h4, upd_ne h5, upd_ne h4', f3 i h1 h2 h3]
  have f465 : loc4 65 = some (.int c) := by rw [h4]; exact us
  clear h4 f3 f361 f363 g57 g49
  have l4 : LL loc4 x aG aW aO E held := by
    obtain ⟨a, b, c', d, e, f'⟩ := ll
    constructor <;> (rw [f4 _ (by decide) (by decide) (by decide) (by decide) (by decide)]; assumption)
  refine rb_take hl4 hcW l4.l57 f465 pW (nsq ?_)
  have o3 := o2.other (g := aW) (o := .lst (((W ++ r).erase c).map .int)) (.inr ⟨_, zW⟩)
  have z3O := (upd_ne (v := .lst (((W ++ r).erase c).map .int)) (Ne.symm l.wo)).trans zO
  refine rb_put (by lia) l4.l58 f465 (own_gr o3 _ _ z3O) (nsq ?_)
  have o4 := o3.other (g := aO) (o := .lst ((order ++ [c]).map .int)) (.inr ⟨_, z3O⟩)
  have hsr : (readyS S r).succ = succ := (outS_nodes r S).2.1.trans ki.hs
  have hnr : (readyS S r).nodes = nodes := (outS_nodes r S).1.trans ki.hn
  have dk : DoneOk (readyS S r) [c] := ⟨by rw [hnr]; exact hpn, hnp, fun s hs => by rw [hnr]; rw [hsr] at hs; exact g.cls c hpn s hs, ⟨[], rfl, by rw [hsr]; have := g.sz c; simp; lia⟩, trivial⟩
  refine rb_done o4 dk (by simp [readyS]) hk ((upd_ne l.go).trans ((upd_ne l.gw).trans zG)) l4.l54 l4.l50 f465 fun hp' o5 => nx ?_
  exact q loc4 _ _ ⟨o5, us, (upd_ne (Ne.symm l.gw)).trans ((upd_ne l.wo).trans us), (upd_ne (Ne.symm l.go)).trans us, l.gw, l.go, l.wo, ((gi2.upd l.nW).upd l.nO).upd l.nG, l.nG, l.nW, l.nO⟩ l4 (f4 55 (by decide) (by decide) (by decide) (by decide) (by decide))
end
end Mine
namespace Mine
section
variable {hpI : Hp} {x aG aW aO : Addr} {E : List (Int × Int)} {held : Int} {nodes : List Int} {succ : Int → List Int}
theorem act_eq {order W r : List Int} {S : SS} (ki : KI nodes succ order W r S) : (decide (S.fin < S.pass) || !r.isEmpty) = decide (W ++ r ≠ []) := by
  rw [ki.ps, ki.fi]
  cases W with
  | nil => cases r <;> simp
  | cons a W => simp; left; lia
noncomputable def actT : DT := tBin bIs (dMeth (isInst cT 59) C_TS_is_active (dVar 50) aNil) (dCon (.bool true))
theorem run_loop {Q : Fw → Loc → Hp → Prop} (g : GR E nodes succ) (hE : E.length ≤ 6) : ∀ (n : Nat) (order W r : List Int) (S : SS) (k : Nat) (hp Z : Hp) (loc : Loc), 4 < order.length + n → LR hpI Z hp x aG aW aO S order W k → LL loc x aG aW aO E held → KI nodes succ order W r S → Run E held order → k + n ≤ 500 →
    (∀ order S k hp' Z' loc', LR hpI Z' hp' x aG aW aO S order [] k → LL loc' x aG aW aO E held → KI nodes succ order [] [] S → Run E held order → k ≤ 500 → loc' 55 = loc 55 → Q .next loc' hp') → wLoop actT L_law_run_1 sSkip Q n loc hp
  | 0, order, W, r, S, k, hp, Z, loc, hn, l, ll, ki, rn, hk, q => by
    have := g.len _ ki.dis ki.sub
    simp only [List.length_append] at this; lia
  | n + 1, order, W, r, S, k, hp, Z, loc, hn, l, ll, ki, rn, hk, q => by
    rw [wLoopC]
    have hlen := g.len _ ki.dis ki.sub
    simp only [List.length_append] at hlen
    simp only [actT, e_tBin, e_dMeth, e_dVar, rd ll.l50, e_aNil, e_dCon]
    refine ⟨own_inst l.own (by decide), c_active l.own ki.rd (by lia) ?_⟩
    rw [act_eq ki, e_bIs, on_bb, ex_bool]
    by_cases c : W ++ r = []
    · have hW : W = [] := (List.append_eq_nil_iff.mp c).1
      have hr : r = [] := (List.append_eq_nil_iff.mp c).2
      subst hW hr
      simp
      exact q order S k hp Z loc l ll ki rn (by lia) rfl
    · simp only [ne_eq, c, not_false_eq_true, decide_true, beq_self_eq_true, if_true]
      refine run_body g hE l ll ki c (by lia) rn fun loc' hp' Z' l' ll' h55 => ?_
      obtain ⟨z, k2, rn2, _, _⟩ := turn (held := held) g ki c rn
      exact run_loop g hE n _ _ z _ (k + 1) hp' Z' loc' (by simp; lia) l' ll' k2 rn2 (by lia) fun order S k hp' Z' loc2 h1 h2 h3 h4 h5 h6 => q order S k hp' Z' loc2 h1 h2 h3 h4 h5 (h6.trans h55)
end
noncomputable def runTail : DS :=
 (sSeq (sAsg (dNew aNil) (gVar 57))
 (sSeq (sAsg (dNew aNil) (gVar 58))
 (sSeq (sWhile (tBin bIs (dMeth (isInst cT 59) C_TS_is_active (dVar 50) aNil) (dCon (.bool true)))
 L_law_run_1
 sSkip)
 (sSeq (sIf (tBin bIsNot (dMeth (isInst cT 59) C_TS_is_active (dVar 50) aNil) (dCon (.bool false)))
 (sSeq (sExp (dMeth isLst dAppend (dVar 54) (aCons (dCon (.int 0)) aNil)))
 sSkip)
 sSkip)
 (sSeq (sRet (dTup (aCons (dFrz 58) (aCons (dVar 55) (aCons (dComp [] (dVar 54) (gVar 67) (tBin bIsNot (dVar 67) (dCon .none)) (cElt (dVar 67))) aNil)))))
 sSkip)))))
theorem run_split : D_law_run =
 (sSeq (sAsg (dCall (dMake cT C_TS_init) aNil) (gVar 50))
 (sSeq (sAsg (dCompN [50, 44] (dLst (aCons (dCon (.int 3)) (aCons (dCon (.int 2)) (aCons (dCon (.int 1)) (aCons (dCon (.int 0)) aNil))))) (gVar 1) fNone (cElt (dMeth (isInst cT 53) C_TS_add (dVar 50) (aCons (dVar 1) (aStar (dComp [1] (dVar 44) (gTup ([51, 52].map gVar)) (tBin bEq (dVar 52) (dVar 1)) (cElt (dVar 51))) aNil))))) (gVar 54))
 (sSeq (sExp (dMeth isLst dExtend (dVar 54) (aCons (dComp [50] (dCut (dVar 44) (dCon .none) (dCon (.int 1)) (dCon .none)) (gTup ([51, 52].map gVar)) fNone (cElt (dMeth (isInst cT 53) C_TS_add (dVar 50) (aCons (dVar 52) (aCons (dVar 51) aNil))))) aNil)))
 (sSeq (sAsg (dCon (.bool false)) (gVar 55))
 (sSeq (sTry 1
 (sSeq (sExp (dMeth isLst dAppend (dVar 54) (aCons (dMeth (isInst cT 56) C_TS_prepare (dVar 50) aNil) aNil)))
 sSkip)
 (sSeq (sAsg (dCon (.bool true)) (gVar 55))
 sSkip))
 runTail))))) := rfl
theorem run_tail {Q : Fw → Loc → Hp → Prop} {X : XS} {hpI Z hp : Hp} {x aG : Addr} {E : List (Int × Int)} {held : Int} {nodes : List Int} {succ : Int → List Int} {r : List Int} {S : SS} {k : Nat} {loc : Loc} {rb : Bool} (g : GR E nodes succ) (hE : E.length ≤ 6) (o : Own Z hp x S) (hG : Z aG = some (.lst (List.replicate k .none))) (gi : Grow hpI Z) (nG : hpI aG = Option.none) (hk : k ≤ 100) (ki : KI nodes succ [] [] r S)
    (e50 : loc 50 = some (.ref x)) (e44 : loc 44 = some (.lst (E.map vE))) (e49 : loc 49 = some (.int held)) (e54 : loc 54 = some (.ref aG)) (e55 : loc 55 = some (.bool rb))
    (q : ∀ order S' loc' hp', KI nodes succ order [] [] S' → Run E held order → Grow hpI hp' → Q (.ret (.tup [.lst (order.map .int), .bool rb, .lst []])) loc' hp') : runTail Q X loc hp := by
  have hlim : lim = 1000000 := rfl
  simp only [runTail, e_sSeq, e_sAsg, e_dNew, e_aNil, e_gVar]
  refine ⟨by simp, fun aW hW => ⟨by simp, fun aO hO => ?_⟩⟩
  have nWO : aO ≠ aW := by rintro rfl; simp at hO
  have o1 := o.other (g := aW) (o := .lst []) (.inl hW)
  have o2 := o1.other (g := aO) (o := .lst []) (.inl hO)
  rw [upd_ne nWO] at hO
  have hg := own_gr o _ _ hG
  have nGW : aG ≠ aW := ne_none hg hW
  have nGO : aG ≠ aO := ne_none hg hO
  have hzW : Z aW = Option.none := (own_gr o).back hW
  have hzO : Z aO = Option.none := (own_gr o).back hO
  have lr : LR hpI (upd (upd Z aW (.lst [])) aO (.lst [])) (upd (upd hp aW (.lst [])) aO (.lst [])) x aG aW aO S [] [] k := by
    refine ⟨o2, ?_, ?_, by simp, nGW, nGO, Ne.symm nWO, (gi.upd (gi.back hzW)).upd (gi.back hzO), nG, gi.back hzW, gi.back hzO⟩
    · rw [upd_ne nGO, upd_ne nGW]; exact hG
    · rw [upd_ne (Ne.symm nWO)]; simp
  have ll : LL (upd (upd loc 57 (.ref aW)) 58 (.ref aO)) x aG aW aO E held := ⟨by simp [upd, e50], by simp [upd, e44], by simp [upd, e49], by simp [upd, e54], by simp [upd], by simp [upd]⟩
  refine ⟨5, run_loop g hE 5 [] [] r S k _ _ _ (by simp) lr ll ki .nil (by lia) fun order S' k' hp' Z' loc' l' ll' ki' rn hk' h55 => ?_⟩
  have f55 : loc' 55 = some (.bool rb) := by rw [h55]; simp [upd, e55]
  simp only [e_sIf, e_tBin, e_dMeth, e_dVar, rd ll'.l50, e_aNil, e_dCon]
  refine ⟨own_inst l'.own (by decide), c_active l'.own ki'.rd (by simp) ?_⟩
  rw [act_eq ki', e_bIsNot, on_bb, ex_bool]
  simp only [List.append_nil, ne_eq, not_true_eq_false, decide_false, beq_self_eq_true, Bool.not_true, Bool.false_eq_true, if_false, e_sSkip]
  have pO := own_gr l'.own _ _ l'.hO
  have pG : (del hp' aO) aG = some (.lst (List.replicate k' .none)) := by rw [del_ne l'.go]; exact own_gr l'.own _ _ l'.hG
  simp only [e_sRet, e_dTup, e_aCons, e_dFrz]
  refine ⟨aO, _, ll'.l58, pO, ?_⟩
  simp only [e_dVar, rd f55, e_dComp, rd ll'.l54]
  refine ⟨(List.replicate k' ()).map fun _ => V.none, (iter_lstref pG).trans (by simp), ?_⟩
  refine cLp_pure (fun _ => V.none) (fun _ => false) (fun _ => V.none) (List.replicate k' ()) [] _ (by simp; lia) rfl ?_ ?_
  · intro u hu acc ha R2 hR
    simp [-Bool.exists_bool]
    simpa using hR
  · have hf : (List.replicate k' ()).filter (fun _ => false) = [] := List.filter_eq_nil_iff.mpr (by simp)
    rw [hf]
    simp only [List.map_nil, List.append_nil, e_aNil]
    refine ⟨by simp; lia, q order S' loc' _ ki' rn ?_⟩
    exact (l'.gi.trans (own_gr l'.own)).del l'.nO
structure RunOk (E : List (Int × Int)) (held : Int) (order : List Int) (ringed : Bool) : Prop where
  run : Run E held order
  nd : order.Nodup
  sub : ∀ n ∈ order, 0 ≤ n ∧ n < 4
  max : ∀ n, 0 ≤ n → n < 4 → n ∉ order → ∃ p, (p, n) ∈ E ∧ p ∉ order
  ringT : ringed = true → ∃ C : Int → Prop, (∃ v, C v) ∧ ∀ v, C v → (0 ≤ v ∧ v < 4) ∧ ∃ s, (v, s) ∈ E ∧ C s
  ringF : ringed = false → ∃ rank : Int → Nat, ∀ e ∈ E, rank e.2 < rank e.1
theorem runOk_of {E : List (Int × Int)} {held : Int} {S S' : SS} {order : List Int} {rb : Bool} (gr : GR E S.nodes S.succ) (ki' : KI S.nodes S.succ order [] [] S') (rn : Run E held order) (h1 : rb = true → ∃ C : Int → Prop, (∃ v, C v) ∧ ∀ v, C v → (0 ≤ v ∧ v < 4) ∧ ∃ s, (v, s) ∈ E ∧ C s) (h2 : rb = false → ∃ rank : Int → Nat, ∀ e ∈ E, rank e.2 < rank e.1) : RunOk E held order rb := by
  refine ⟨rn, by simpa using ki'.dis, fun n hn => (gr.mem n).mp (ki'.sub n (by simpa using hn)), fun n n1 n2 n3 => ?_, h1, h2⟩
  have hz := ki'.zero n ((gr.mem n).mpr ⟨n1, n2⟩) n3
  have : ¬ inc S.nodes S.succ order n = 0 := fun h => nomatch hz.mpr h
  rw [gr.zero] at this
  exact Classical.byContradiction fun c => this fun p hp => Classical.byContradiction fun c2 => c ⟨p, hp, c2⟩
theorem lr_prep {Q : Fw → Loc → Hp → Prop} {X : XS} {hp hp5 Z5 : Hp} {loc : Loc} {x aG : Addr} {E : List (Int × Int)} {held : Int} {S4 : SS} {k : Nat} (hE : E.length ≤ 6) (hI : ∀ e ∈ E, InE e) (gr : GR E S4.nodes S4.succ) (o5 : Own Z5 hp5 x S4) (hk5 : k ≤ 5) (z5 : Z5 aG = some (.lst (List.replicate k .none))) (gi5 : Grow hp Z5) (hpG : hp aG = Option.none) (hrd : S4.ready = none)
    {r : List Int} (ki : KI S4.nodes S4.succ [] [] r (prepS S4)) (h44 : loc 44 = some (.lst (E.map vE))) (h50 : loc 50 = some (.ref x)) (h49 : loc 49 = some (.int held)) (h54 : loc 54 = some (.ref aG)) (h55 : loc 55 = some (.bool false))
    (q : ∀ loc' hp' order ringed, Grow hp hp' → RunOk E held order ringed → Q (.ret (.tup [.lst (order.map .int), .bool ringed, .lst []])) loc' hp') :
    sSeq (sTry 1 (sSeq (sExp (dMeth isLst dAppend (dVar 54) (aCons (dMeth (isInst cT 56) C_TS_prepare (dVar 50) aNil) aNil))) sSkip) (sSeq (sAsg (dCon (.bool true)) (gVar 55)) sSkip)) runTail Q X loc hp5 := by
  obtain ⟨B, rank, gb, hB⟩ := gb_exists S4 gr.cls
  refine sq ?_
  rw [e_sTry]
  refine sq ?_
  rw [e_sExp, e_dMeth, e_dVar, rd h54, e_aCons, e_dMeth, e_dVar, rd h50, e_aNil]
  refine ⟨isLst_ref (own_gr o5 _ _ z5), own_inst o5 (by decide), c_prepare o5 hrd gb (fun hp6 o6 hb => ?_) (fun hp6 o6 hb => ?_)⟩
  · refine ⟨rfl, sq (wb_set (nsk (nx ?_)))⟩
    refine run_tail (held := held) (rb := true) (hpI := hp) gr hE o6 z5 gi5 hpG (by lia) ki ((upd_ne (by decide)).trans h50) ((upd_ne (by decide)).trans h44) ((upd_ne (by decide)).trans h49) ((upd_ne (by decide)).trans h54) us fun order S' loc' hp' ki' rn gg => ?_
    refine q loc' hp' order true gg (runOk_of gr ki' rn (fun _ => ?_) (fun h => by cases h))
    obtain ⟨v, hv, hbv⟩ := hb
    refine ⟨fun v => v ∈ S4.nodes ∧ B v, ⟨v, hv, hbv⟩, fun w hw => ⟨(gr.mem w).mp hw.1, ?_⟩⟩
    obtain ⟨s, hs, hbs⟩ := gb.bad w hw.1 hw.2
    exact ⟨s, (gr.edg w s).mp hs, gr.cls w hw.1 s hs, hbs⟩
  · rw [e_aNil]
    refine e_append (own_gr o6 _ _ z5) (by simp; unfold lim; lia) ?_
    refine nsk (nx ?_)
    have o7 := o6.other (g := aG) (o := .lst (List.replicate k .none ++ [.none])) (.inr ⟨_, z5⟩)
    rw [← List.replicate_succ'] at o7 ⊢
    refine run_tail (held := held) (rb := false) (hpI := hp) gr hE o7 us (gi5.upd hpG) hpG (by lia) ki h50 h44 h49 h54 h55 fun order S' loc' hp' ki' rn gg => ?_
    refine q loc' hp' order false gg (runOk_of gr ki' rn (fun h => by cases h) (fun _ => ⟨rank, fun e he => ?_⟩))
    have := hI e he
    have h1 : e.1 ∈ S4.nodes := (gr.mem _).mpr ⟨this.1, this.2.1⟩
    exact (gb.good e.1 h1 (hb e.1 h1) e.2 ((gr.edg _ _).mpr he)).2
theorem c_law_run {Q : V → Hp → Prop} {X : XA} {hp : Hp} {E : List (Int × Int)} {held : Int} (hE : E.length ≤ 6) (hI : ∀ e ∈ E, InE e) (q : ∀ hp' order ringed, Grow hp hp' → RunOk E held order ringed → Q (.tup [.lst (order.map .int), .bool ringed, .lst []]) hp') : C_law_run [.lst (E.map vE), .int held] Q X hp := by
  have hlim : lim = 1000000 := rfl
  refine ⟨[(44, .lst (E.map vE)), (49, .int held)], by simp [bdPos], ?_⟩
  rw [run_split]
  refine sq ?_
  rw [e_sAsg, e_dCall, e_aNil]
  refine c_sorter fun x hp1 hx o1 => ?_
  rw [e_gVar]
  refine nsq ?_
  simp only [e_sAsg, e_gVar, e_dCompN, e_dLst, e_aCons, e_dCon, e_aNil]
  refine ⟨by simp; lia, ?_⟩
  simp only [it_lst]
  refine adds_loop (Z := hp) (x := x) (E := E) (by simp) hE (by simp [keepL, upd]) (by simp [keepL, upd, locOf_cons]) [3, 2, 1, 0] [] hp1 _ _ _ _ o1 .nil (by simp) (by simp) (by simp) fun hp2 S2 o2 g2 hl2 => ?_
  intro aG haG
  simp only [List.nil_append, List.length_cons, List.length_nil, Nat.zero_add, Nat.reduceAdd, Nat.reduceMul] at hl2 g2 ⊢
  have g3 : GW S2 (fun m => 0 ≤ m ∧ m < 4) (fun p m => (p, m) ∈ E) 24 := by
    refine ⟨g2.w, g2.np, g2.rd, g2.ps, g2.fi, fun m => ?_, fun p m => ?_, g2.sz⟩
    · rw [g2.mem]
      constructor
      · rintro (h | h | ⟨n, _, h⟩)
        · exact h.elim
        · simp at h; lia
        · have := hI _ h; exact ⟨this.1, this.2.1⟩
      · intro h; right; left; simp; lia
    · rw [g2.edg]
      constructor
      · rintro (h | ⟨_, h⟩)
        · exact h.elim
        · exact h
      · intro h
        have := hI _ h
        refine .inr ⟨?_, h⟩
        have h1 := this.2.2.1
        have h2 := this.2.2.2
        simp only [] at h1 h2
        simp; lia
  have o3 := o2.other (g := aG) (o := .lst (List.replicate 4 .none)) (.inl haG)
  have z3 : (upd hp aG (.lst (List.replicate 4 .none))) aG = some (.lst (List.replicate 4 .none)) := by simp
  have hpG : hp aG = Option.none := (own_gr o2).back haG
  generalize hZ3 : upd hp aG (.lst (List.replicate 4 V.none)) = Z3 at o3 z3
  generalize hH3 : upd hp2 aG (.lst (List.replicate 4 V.none)) = hp3 at o3
  have gi3 : Grow hp Z3 := by rw [← hZ3]; exact .new hpG
  have p3 := own_gr o3 _ _ z3
  have h44 : (upd (upd (locOf [(44, .lst (E.map vE)), (49, .int held)]) 50 (.ref x)) 54 (.ref aG)) 44 = some (.lst (E.map vE)) := by simp [upd, locOf_cons]
  have h50 : (upd (upd (locOf [(44, .lst (E.map vE)), (49, .int held)]) 50 (.ref x)) 54 (.ref aG)) 50 = some (.ref x) := by simp [upd]
  have h49 : (upd (upd (locOf [(44, .lst (E.map vE)), (49, .int held)]) 50 (.ref x)) 54 (.ref aG)) 49 = some (.int held) := by simp [upd, locOf_cons]
  have h54 : (upd (upd (locOf [(44, .lst (E.map vE)), (49, .int held)]) 50 (.ref x)) 54 (.ref aG)) 54 = some (.ref aG) := by simp
  generalize hloc : (upd (upd (locOf [(44, .lst (E.map vE)), (49, .int held)]) 50 (.ref x)) 54 (.ref aG)) = loc at *
  refine nsq ?_
  rw [e_sExp, e_dMeth, e_dVar, rd h54]
  refine ⟨isLst_ref p3, ?_⟩
  simp only [e_aCons, e_dComp, e_dCut, e_dVar, rd h44, e_dCon]
  rw [e_bCutL]
  refine ⟨Option.none, some 1, Option.none, by simp; lia, rfl, rfl, rfl, by simp, ?_⟩
  rw [cut1, it_lst, ← List.map_take]
  refine add1_loop (Z := Z3) (x := x) (by simp) (by simp [keepL, h50]) (E.take 1) [] hp3 S2 _ _ _ o3 g3 (by simp; lia) (by simp; lia) (by simp; lia) (fun e he => ?_) fun hp4 S4 o4 g4 hl4 => ?_
  · have hm := List.mem_of_mem_take he
    have := hI e hm
    exact ⟨⟨this.1, this.2.1⟩, ⟨this.2.2.1, this.2.2.2⟩, hm⟩
  have p4 := own_gr o4 _ _ z3
  refine ⟨aG, _, _, List.replicate (E.take 1).length .none, rfl, p4, rfl, by simp; lia, ?_⟩
  rw [List.replicate_append_replicate]
  have o5 := o4.other (g := aG) (o := .lst (List.replicate (4 + (E.take 1).length) .none)) (.inr ⟨_, z3⟩)
  have hk5 : 4 + (E.take 1).length ≤ 5 := by simp; lia
  generalize 4 + (E.take 1).length = k at o5 hk5 ⊢
  have z5 : (upd Z3 aG (.lst (List.replicate k .none))) aG = some (.lst (List.replicate k .none)) := by simp
  have gi5 : Grow hp (upd Z3 aG (.lst (List.replicate k .none))) := gi3.upd hpG
  generalize upd Z3 aG (.lst (List.replicate k .none)) = Z5 at o5 z5 gi5
  generalize upd hp4 aG (.lst (List.replicate k .none)) = hp5 at o5 ⊢
  have gr : GR E S4.nodes S4.succ := ⟨g4.w.nd, g4.mem, g4.edg, hI, fun p => Nat.le_trans (g4.sz p) (by simp; lia)⟩
  refine nsq (wb_set (nx (lr_prep hE hI gr o5 hk5 z5 gi5 hpG g4.rd (KI.start (S := S4) (succ := S4.succ) g4.w.nd rfl rfl g4.ps g4.fi (fun n _ => by rw [g4.np, tot_inc])) ((upd_ne (by decide)).trans h44) ((upd_ne (by decide)).trans h50) ((upd_ne (by decide)).trans h49) ((upd_ne (by decide)).trans h54) us fun loc' hp' order rb => q hp' order rb)))
end Mine
namespace Mine
theorem idx_in {o : List Int} {c a : Int} (h : a ∈ o) : (o ++ [c]).idxOf a = o.idxOf a := by rw [List.idxOf_append, if_pos h]
theorem idx_out {o : List Int} {c : Int} (h : c ∉ o) : (o ++ [c]).idxOf c = o.length := by rw [List.idxOf_append, if_neg h]; simp
theorem idx_lt {o : List Int} {a : Int} (h : a ∈ o) : o.idxOf a < o.length := List.idxOf_lt_length_iff.mpr h
theorem Run.lin {E : List (Int × Int)} {held : Int} {o : List Int} (r : Run E held o) : ∀ p n, (p, n) ∈ E → n ∈ o → p ∈ o ∧ o.idxOf p < o.idxOf n := by
  induction r with
  | nil => intro p n _ h; cases h
  | @snoc o c r h1 h2 h3 h4 h5 ih =>
    intro p n he hn
    rcases List.mem_append.mp hn with h | h
    · obtain ⟨a, b⟩ := ih p n he h
      exact ⟨List.mem_append_left _ a, by rw [idx_in a, idx_in h]; exact b⟩
    · simp at h; subst h
      have := h4 p he
      exact ⟨List.mem_append_left _ this, by rw [idx_in this, idx_out h3]; exact idx_lt this⟩
theorem Run.late {E : List (Int × Int)} {held : Int} {o : List Int} (r : Run E held o) : held ∈ o → ∀ n, 0 ≤ n → n < 4 → n ≠ held → (n ∉ o ∨ o.idxOf held < o.idxOf n) → ∃ p, (p, n) ∈ E ∧ (p ∉ o ∨ o.idxOf held ≤ o.idxOf p) := by
  induction r with
  | nil => intro h; cases h
  | @snoc o c r h1 h2 h3 h4 h5 ih =>
    intro hh n n1 n2 n3 hn
    by_cases ch : c = held
    · subst ch
      have hno : n ∉ o := fun hm => by
        rcases hn with h | h
        · exact h (List.mem_append_left _ hm)
        · rw [idx_out h3, idx_in hm] at h
          have := idx_lt hm; lia
      obtain ⟨p, hp, hpo⟩ := h5 rfl n n1 n2 hno n3
      refine ⟨p, hp, ?_⟩
      by_cases e : p = c
      · subst e; exact .inr (Nat.le_refl _)
      · exact .inl (by simp [hpo, e])
    · have hho : held ∈ o := by
        rcases List.mem_append.mp hh with h | h
        · exact h
        · simp at h; exact absurd h.symm ch
      have hn' : n ∉ o ∨ o.idxOf held < o.idxOf n := by
        by_cases q : n ∈ o
        · right
          rcases hn with h | h
          · exact absurd (List.mem_append_left _ q) h
          · rw [idx_in hho, idx_in q] at h; exact h
        · exact .inl q
      obtain ⟨p, hp, hpo⟩ := ih hho n n1 n2 n3 hn'
      refine ⟨p, hp, ?_⟩
      by_cases q : p ∈ o
      · right
        rw [idx_in hho, idx_in q]
        rcases hpo with h | h
        · exact absurd q h
        · exact h
      · by_cases e : p = c
        · subst e
          right; rw [idx_in hho, idx_out h3]; exact Nat.le_of_lt (idx_lt hho)
        · exact .inl (by simp [q, e])
noncomputable def endStep (E : List (Int × Int)) (ends : List Int) : List Int := ([0, 1, 2, 3] : List Int).filter fun n => decide ((E.filter fun e => decide (e.2 = n ∧ e.1 ∈ ends)).map (·.1) ≠ [])
noncomputable def endN (E : List (Int × Int)) : Nat → List Int
  | 0 => [0, 1, 2, 3]
  | k + 1 => endStep E (endN E k)
theorem end_mem {E : List (Int × Int)} {ends : List Int} {n : Int} : n ∈ endStep E ends ↔ (0 ≤ n ∧ n < 4) ∧ ∃ p, (p, n) ∈ E ∧ p ∈ ends := by
  unfold endStep
  rw [List.mem_filter, decide_eq_true_eq]
  have h4 : n ∈ ([0, 1, 2, 3] : List Int) ↔ 0 ≤ n ∧ n < 4 := by simp; lia
  rw [h4]
  refine and_congr_right fun _ => ?_
  constructor
  · intro h
    obtain ⟨x, hx⟩ := List.exists_mem_of_ne_nil _ h
    obtain ⟨⟨a, b⟩, h1, h2⟩ := List.mem_map.mp hx
    obtain ⟨h3, h4⟩ := List.mem_filter.mp h1
    simp only [decide_eq_true_eq] at h4
    obtain ⟨h5, h6⟩ := h4
    subst h5
    exact ⟨a, h3, h6⟩
  · rintro ⟨p, hp, he⟩ h
    have : p ∈ (E.filter fun e => decide (e.2 = n ∧ e.1 ∈ ends)).map (·.1) := List.mem_map.mpr ⟨(p, n), List.mem_filter.mpr ⟨hp, by simp [he]⟩, rfl⟩
    rw [h] at this; cases this
section
variable {E : List (Int × Int)} {held : Int} {order : List Int} {rb : Bool}
theorem end_late (r : Run E held order) : ∀ k n, n ∈ order → n ∈ endN E k → k ≤ order.idxOf n
  | 0, n, _, _ => Nat.zero_le _
  | k + 1, n, ho, he => by
    obtain ⟨_, p, hp, hpe⟩ := end_mem.mp he
    obtain ⟨h1, h2⟩ := r.lin p n hp ho
    have := end_late r k p h1 hpe
    lia
theorem end_out (ok : RunOk E held order rb) (hI : ∀ e ∈ E, InE e) : ∀ k n, 0 ≤ n → n < 4 → n ∉ order → n ∈ endN E k
  | 0, n, h1, h2, _ => by simp [endN]; lia
  | k + 1, n, h1, h2, h3 => by
    obtain ⟨p, hp, hpo⟩ := ok.max n h1 h2 h3
    have := hI _ hp
    exact end_mem.mpr ⟨⟨h1, h2⟩, p, hp, end_out ok hI k p this.1 this.2.1 hpo⟩
theorem RunOk.len (ok : RunOk E held order rb) : order.length ≤ 4 := by
  have := nodup_le order [0, 1, 2, 3] ok.nd fun x hx => by have := ok.sub x hx; simp; lia
  simpa using this
theorem RunOk.mem (ok : RunOk E held order rb) (hI : ∀ e ∈ E, InE e) (n : Int) : n ∈ order ↔ (0 ≤ n ∧ n < 4) ∧ n ∉ endN E 4 := by
  constructor
  · intro h
    refine ⟨ok.sub n h, fun he => ?_⟩
    have := end_late ok.run 4 n h he
    have := idx_lt h
    have := ok.len
    lia
  · rintro ⟨⟨h1, h2⟩, h3⟩
    by_cases c : n ∈ order
    · exact c
    · exact absurd (end_out ok hI 4 n h1 h2 c) h3
theorem RunOk.sorted (ok : RunOk E held order rb) (hI : ∀ e ∈ E, InE e) : sortZ order = ([0, 1, 2, 3] : List Int).filter fun n => decide (n ∉ endN E 4) :=
  sort4 order ok.nd _ fun n => by rw [ok.mem hI n, decide_eq_true_eq]
theorem exMax (rank : Int → Nat) : ∀ (xs : List Int), xs ≠ [] → ∃ m ∈ xs, ∀ x ∈ xs, rank x ≤ rank m
  | [x], _ => ⟨x, by simp, fun y hy => by simp at hy; subst hy; exact Nat.le_refl _⟩
  | x :: y :: xs, _ => by
    obtain ⟨m, hm, h⟩ := exMax rank (y :: xs) (by simp)
    by_cases c : rank m ≤ rank x
    · refine ⟨x, by simp, fun z hz => ?_⟩
      rcases List.mem_cons.mp hz with rfl | hz
      · exact Nat.le_refl _
      · exact Nat.le_trans (h z hz) c
    · refine ⟨m, List.mem_cons_of_mem _ hm, fun z hz => ?_⟩
      rcases List.mem_cons.mp hz with rfl | hz
      · lia
      · exact h z hz
theorem RunOk.ring (ok : RunOk E held order rb) (hI : ∀ e ∈ E, InE e) : rb = decide (endN E 4 ≠ []) := by
  cases rb with
  | true =>
    obtain ⟨C, ⟨v, hv⟩, h⟩ := ok.ringT rfl
    have : ∀ k, ∃ w, C w ∧ w ∈ endN E k := by
      intro k
      induction k with
      | zero => exact ⟨v, hv, by have := (h v hv).1; simp [endN]; lia⟩
      | succ k ih =>
        obtain ⟨w, hw, he⟩ := ih
        obtain ⟨_, s, hs, hc⟩ := h w hw
        exact ⟨s, hc, end_mem.mpr ⟨(h s hc).1, w, hs, he⟩⟩
    obtain ⟨w, _, he⟩ := this 4
    have : endN E 4 ≠ [] := fun z => by rw [z] at he; cases he
    simp [this]
  | false =>
    obtain ⟨rank, hr⟩ := ok.ringF rfl
    have : endN E 4 = [] := by
      by_cases c : endN E 4 = []
      · exact c
      · exfalso
        obtain ⟨n, hn⟩ := List.exists_mem_of_ne_nil _ c
        have hn4 : 0 ≤ n ∧ n < 4 := (end_mem.mp (show n ∈ endStep E (endN E 3) from hn)).1
        have hno : n ∉ order := fun h => ((ok.mem hI n).mp h).2 hn
        have hU : n ∈ ([0, 1, 2, 3] : List Int).filter fun m => decide (m ∉ order) := List.mem_filter.mpr ⟨by simp; lia, by simpa using hno⟩
        obtain ⟨m, hm, hmax⟩ := exMax rank (([0, 1, 2, 3] : List Int).filter fun m => decide (m ∉ order)) (fun z => by rw [z] at hU; cases hU)
        obtain ⟨hm1, hm2⟩ := List.mem_filter.mp hm
        have hm4 : 0 ≤ m ∧ m < 4 := by simp at hm1; lia
        obtain ⟨p, hp, hpo⟩ := ok.max m hm4.1 hm4.2 (by simpa using hm2)
        have hpI := hI _ hp
        have h1 := hpI.1
        have h2 := hpI.2.1
        simp only [] at h1 h2
        have := hmax p (List.mem_filter.mpr ⟨by simp; lia, by simpa using hpo⟩)
        have := hr _ hp
        simp only [] at this
        lia
    simp [this]
end
theorem same_len {xs ys : List Int} (h1 : xs.Nodup) (h2 : ys.Nodup) (h : ∀ n, n ∈ xs ↔ n ∈ ys) : xs.length = ys.length := by
  have := nodup_le xs ys h1 fun x hx => (h x).mp hx
  have := nodup_le ys xs h2 fun x hx => (h x).mpr hx
  lia
theorem met_mem {E : List (Int × Int)} {u v : Int} {met : List Int} : v ∈ metStep E u met ↔ v ∈ met ∨ ∃ p, (p, v) ∈ E ∧ (p = u ∨ p ∈ met) := by
  unfold metStep
  rw [List.mem_append, List.mem_map]
  constructor
  · rintro (h | ⟨⟨a, b⟩, h, rfl⟩)
    · exact .inl h
    · obtain ⟨h1, h2⟩ := List.mem_filter.mp h
      simp only [decide_eq_true_eq] at h2
      exact .inr ⟨a, h1, h2.1⟩
  · rintro (h | ⟨p, hp, h⟩)
    · exact .inl h
    · by_cases c : v ∈ met
      · exact .inl c
      · exact .inr ⟨(p, v), List.mem_filter.mpr ⟨hp, by simp [h, c]⟩, rfl⟩
theorem metN_succ (E : List (Int × Int)) (u : Int) : ∀ (k : Nat) (m : List Int), metN E u (k + 1) m = metStep E u (metN E u k m)
  | 0, m => rfl
  | k + 1, m => by
    show metN E u (k + 1) (metStep E u m) = metStep E u (metN E u k (metStep E u m))
    exact metN_succ E u k (metStep E u m)
theorem met_le {E : List (Int × Int)} {u v : Int} {j : Nat} : ∀ {k : Nat}, j ≤ k → v ∈ metN E u j [] → v ∈ metN E u k [] := by
  intro k h
  induction h with
  | refl => exact id
  | step _ ih => intro hv; rw [metN_succ]; exact met_mem.mpr (.inl (ih hv))
theorem met_before {E : List (Int × Int)} {held u : Int} {o : List Int} (r : Run E held o) : ∀ k v, v ∈ metN E u k [] → v ∈ o → u ∈ o ∧ o.idxOf u < o.idxOf v
  | 0, v, h, _ => by cases h
  | k + 1, v, h, hv => by
    rw [metN_succ] at h
    rcases met_mem.mp h with h | ⟨p, hp, rfl | h⟩
    · exact met_before r k v h hv
    · exact r.lin p v hp hv
    · obtain ⟨h1, h2⟩ := r.lin p v hp hv
      obtain ⟨h3, h4⟩ := met_before r k p h h1
      exact ⟨h3, by lia⟩
theorem mem4 {E : List (Int × Int)} {held : Int} {o : List Int} (r : Run E held o) : ∀ w, w ∈ o → 0 ≤ w ∧ w < 4 := by
  induction r with
  | nil => intro w hw; cases hw
  | @snoc o c r h1 h2 h3 h4 h5 ih =>
    intro w hw
    rcases List.mem_append.mp hw with h | h
    · exact ih w h
    · simp at h; subst h; exact ⟨h1, h2⟩
theorem idx_inj {o : List Int} {a b : Int} (ha : a ∈ o) (hb : b ∈ o) (h : o.idxOf a = o.idxOf b) : a = b := by
  have h1 := List.getElem_idxOf (idx_lt ha)
  have h2 := List.getElem_idxOf (idx_lt hb)
  rw [← h1, ← h2]
  simp only [h]
theorem after_met {E : List (Int × Int)} {held : Int} {o : List Int} (r : Run E held o) (hI : ∀ e ∈ E, InE e) (hh : held ∈ o) : ∀ d v, v ∈ o → o.idxOf v = o.idxOf held + d → 0 < d → v ∈ metN E held d [] := by
  intro d
  induction d using Nat.strongRecOn with
  | ind d ih =>
    intro v hv hd h0
    have hne : v ≠ held := by rintro rfl; lia
    have hrange := mem4 r
    obtain ⟨a, b⟩ := hrange v hv
    obtain ⟨p, hp, hpo⟩ := r.late hh v a b hne (.inr (by lia))
    obtain ⟨h1, h2⟩ := r.lin p v hp hv
    have hle : o.idxOf held ≤ o.idxOf p := by
      rcases hpo with h | h
      · exact absurd h1 h
      · exact h
    obtain ⟨k, rfl⟩ : ∃ k, d = k + 1 := ⟨d - 1, by lia⟩
    rw [metN_succ]
    refine met_mem.mpr (.inr ⟨p, hp, ?_⟩)
    by_cases e : p = held
    · exact .inl e
    · right
      have hpi : o.idxOf held ≠ o.idxOf p := fun z => e (idx_inj h1 hh z.symm)
      have := ih (o.idxOf p - o.idxOf held) (by lia) p h1 (by lia) (by lia)
      exact met_le (by lia) this
end Mine
namespace Mine
theorem sum_rep (k x : Nat) : (List.replicate k x).sum = k * x := by
  induction k with
  | zero => simp
  | succ k ih => rw [List.replicate_succ, List.sum_cons, ih, Nat.add_mul]; lia
theorem sum_rev : ∀ xs : List Nat, xs.reverse.sum = xs.sum
  | [] => rfl
  | x :: xs => by rw [List.reverse_cons, List.sum_append, sum_rev xs]; simp; lia
theorem rowL_sum (f : Nat → Nat) (node : Int) (m run s : Nat) : ((rowL node m run s).map f).sum = s * f (m + run - 1) + (m - 1 - s) * f (m + run - 2) := by
  unfold rowL
  simp only []
  have : ((List.replicate s (m + run - 1) ++ List.replicate (m - 1 - s) (m + run - 2)).map f).sum = s * f (m + run - 1) + (m - 1 - s) * f (m + run - 2) := by
    rw [List.map_append, List.sum_append, List.map_replicate, List.map_replicate, sum_rep, sum_rep]
  split
  · rw [List.map_reverse, sum_rev]; exact this
  · exact this
theorem rowsN_sum (f : Nat → Nat) (node : Int) (spots : List Nat) : ∀ js : List Nat, ((rowsN node spots js).map f).sum = (js.map fun run => spots[run]?.getD 0 * f (spots.length + run - 1) + (spots.length - 1 - spots[run]?.getD 0) * f (spots.length + run - 2)).sum
  | [] => rfl
  | j :: js => by
    have ih := rowsN_sum f node spots js
    simp only [rowsN] at ih ⊢
    rw [List.flatMap_cons, List.map_append, List.sum_append, rowL_sum, ih, List.map_cons, List.sum_cons]
theorem lv_sum (b t : Nat) : ∀ rows : List Nat, lv rows b t = b + (rows.map fun r => t * (r / t) + t).sum
  | [] => by simp [lv]
  | r :: rows => by
    have ih := lv_sum b t rows
    unfold lv at ih ⊢
    simp only [List.map_cons, List.sum_cons, List.length_cons]
    have : t * (r / t + (rows.map fun r => r / t).sum + (rows.length + 1)) = (t * (r / t) + t) + t * ((rows.map fun r => r / t).sum + rows.length) := by
      simp only [Nat.mul_add]; lia
    rw [this]; lia
theorem div_step (a t : Nat) (ht : 0 < t) : (a + 1) / t = a / t + if (a + 1) % t = 0 then 1 else 0 := by
  have h1 := Nat.div_add_mod a t
  have h2 := Nat.div_add_mod (a + 1) t
  have m1 := Nat.mod_lt a ht
  have m2 := Nat.mod_lt (a + 1) ht
  obtain ⟨q, hq⟩ : ∃ q, q = a / t := ⟨_, rfl⟩
  obtain ⟨q', hq'⟩ : ∃ q', q' = (a + 1) / t := ⟨_, rfl⟩
  rw [← hq] at h1 ⊢
  rw [← hq'] at h2 ⊢
  have hle : q ≤ q' := by rw [hq, hq']; exact Nat.div_le_div_right (by lia)
  have hle2 : q' ≤ q + 1 := by
    rw [hq, hq']
    have : (a + 1) / t ≤ (a + t) / t := Nat.div_le_div_right (by lia)
    rw [Nat.add_div_right a ht] at this
    exact this
  split
  · rename_i c
    rcases Nat.lt_or_ge q q' with h | h
    · lia
    · have : q' = q := by lia
      subst this
      lia
  · rename_i c
    rcases Nat.lt_or_ge q q' with h | h
    · have e : q' = q + 1 := by lia
      rw [e, Nat.mul_add] at h2
      lia
    · lia
theorem row_col {m run s t : Nat} (ht : 0 < t) (hm : 0 < m) (hr : 0 < run) (hs : s ≤ m - 1) : s * (t * ((m + run - 1) / t) + t) + (m - 1 - s) * (t * ((m + run - 2) / t) + t) = (m - 1) * ((m + run - 2) / t * t + t) + if (m + run - 1) % t = 0 then s * t else 0 := by
  obtain ⟨a, ha⟩ : ∃ a, a = m + run - 2 := ⟨_, rfl⟩
  have e : m + run - 1 = a + 1 := by lia
  rw [e, ← ha, div_step a t ht]
  obtain ⟨x, hx⟩ : ∃ x, x = t * (a / t) + t := ⟨_, rfl⟩
  rw [Nat.mul_comm (a / t) t, ← hx]
  have hsplit : (m - 1) * x = s * x + (m - 1 - s) * x := by rw [← Nat.add_mul]; congr 1; lia
  split
  · have : t * (a / t + 1) + t = x + t := by rw [hx, Nat.mul_add]; lia
    rw [this, hsplit, Nat.mul_add]; lia
  · rw [Nat.add_zero, ← hx, hsplit]; rfl
theorem mem_r1 {m j : Nat} (h : j ∈ List.range' 1 (m - 1)) : 0 < j ∧ j < m := by
  rw [List.mem_range'_1] at h; lia
theorem lv_col {node : Int} {spots : List Nat} {t : Nat} (ht : 0 < t) (h0 : 0 < spots.length) (hsp : ∀ s ∈ spots, s ≤ spots.length - 1) : lv (rowsN node spots (List.range' 1 (spots.length - 1))) (spots[0]?.getD 0) t = colP spots t := by
  rw [lv_sum, rowsN_sum]
  refine congrArg (fun l => _ + List.sum l) (List.map_congr_left fun run hr => ?_)
  obtain ⟨h1, hl⟩ := mem_r1 hr
  refine row_col ht h0 h1 ?_
  rw [List.getElem?_eq_getElem hl]
  exact hsp _ (List.getElem_mem hl)
theorem n_row {m run s : Nat} (hr : 0 < run) (hs : s ≤ m - 1) : s * (m + run - 1 + 1) + (m - 1 - s) * (m + run - 2 + 1) = (m - 1) * (m + run - 1) + s := by
  obtain ⟨r, rfl⟩ : ∃ r, run = r + 1 := ⟨run - 1, (Nat.sub_add_cancel hr).symm⟩
  obtain ⟨d, hd⟩ : ∃ d, m - 1 = s + d := ⟨m - 1 - s, (Nat.add_sub_cancel' hs).symm⟩
  rw [hd, Nat.add_sub_cancel_left, Nat.add_mul, Nat.mul_add s, Nat.mul_one]
  show s * (m + r) + s + d * (m + r - 1 + 1) = s * (m + r) + d * (m + r) + s
  cases m with
  | zero => rw [Nat.zero_sub] at hd; obtain ⟨rfl, rfl⟩ : s = 0 ∧ d = 0 := ⟨by lia, by lia⟩; simp
  | succ m => rw [show m + 1 + r - 1 + 1 = m + 1 + r by lia]; exact Nat.add_right_comm ..
theorem n_col {node : Int} {spots : List Nat} (h0 : 0 < spots.length) (hsp : ∀ s ∈ spots, s ≤ spots.length - 1) : nOf (rowsN node spots (List.range' 1 (spots.length - 1))) (spots[0]?.getD 0) = spots[0]?.getD 0 + ((List.range' 1 (spots.length - 1)).map fun run => (spots.length - 1) * (spots.length + run - 1) + spots[run]?.getD 0).sum := by
  unfold nOf
  rw [rowsN_sum, Nat.add_comm]
  refine congrArg (fun l => _ + List.sum l) (List.map_congr_left fun run hr => ?_)
  obtain ⟨h1, hl⟩ := mem_r1 hr
  rw [List.getElem?_eq_getElem hl]
  exact n_row h1 (hsp _ (List.getElem_mem hl))
theorem sum_le_sum {f g : Nat → Nat} : ∀ js : List Nat, (∀ j ∈ js, f j ≤ g j) → (js.map f).sum ≤ (js.map g).sum
  | [], _ => Nat.le_refl _
  | j :: js, h => by
    have := sum_le_sum js fun k hk => h k (List.mem_cons_of_mem _ hk)
    have := h j List.mem_cons_self
    simp only [List.map_cons, List.sum_cons]; lia
theorem sum_one {f g : Nat → Nat} {k d : Nat} : ∀ js : List Nat, js.Nodup → k ∈ js → f k = g k + d → (∀ j ∈ js, j ≠ k → f j = g j) → (js.map f).sum = (js.map g).sum + d
  | j :: js, hn, hk, h1, h2 => by
    rw [List.nodup_cons] at hn
    by_cases c : j = k
    · subst c
      have : js.map f = js.map g := List.map_congr_left fun i hi => h2 i (List.mem_cons_of_mem _ hi) (by rintro rfl; exact hn.1 hi)
      simp only [List.map_cons, List.sum_cons, this, h1]; lia
    · have hk' : k ∈ js := by
        rcases List.mem_cons.mp hk with h | h
        · exact absurd h.symm c
        · exact h
      have := sum_one js hn.2 hk' h1 fun i hi => h2 i (List.mem_cons_of_mem _ hi)
      have := h2 j List.mem_cons_self c
      simp only [List.map_cons, List.sum_cons]; lia
theorem mod_two {x t : Nat} (h1 : 0 < x) (h2 : x < 2 * t) (h : x % t = 0) : x = t := by
  rcases Nat.lt_or_ge x t with c | c
  · rw [Nat.mod_eq_of_lt c] at h; lia
  · rw [Nat.mod_eq_sub_mod c, Nat.mod_eq_of_lt (by lia)] at h; lia
theorem cl_rows {node : Int} {spots : List Nat} {run r : Nat} (hr : 0 < run) (hl : run < spots.length) (h : r ∈ rowL node spots.length run spots[run]) : r + 1 ≤ cl (rowsN node spots (List.range' 1 (spots.length - 1))) :=
  cl_le _ r (List.mem_flatMap.mpr ⟨run, by rw [List.mem_range'_1]; lia, by rw [List.getElem?_eq_getElem hl]; exact h⟩)
theorem row_there {node : Int} {spots : List Nat} {run : Nat} (hr : 0 < run) (hl : run < spots.length) (h0 : ∀ s ∈ spots, s ≤ spots.length - 1) : spots.length + run - 1 ≤ cl (rowsN node spots (List.range' 1 (spots.length - 1))) := by
  have hlen := rowL_len node spots.length run spots[run] (h0 _ (List.getElem_mem hl))
  have hne : rowL node spots.length run spots[run] ≠ [] := fun z => by
    rw [z, List.length_nil] at hlen
    exact Nat.not_le_of_lt (Nat.lt_of_le_of_lt hr hl) (Nat.le_of_sub_eq_zero hlen.symm)
  obtain ⟨r, hr'⟩ := List.exists_mem_of_ne_nil _ hne
  have h := cl_rows hr hl hr'
  have := rowL_mem hr'
  clear hne hlen hr' h0
  lia
theorem row_top {node : Int} {spots : List Nat} {run : Nat} (hr : 0 < run) (hl : run < spots.length) (hp : 0 < spots[run]) : spots.length + run ≤ cl (rowsN node spots (List.range' 1 (spots.length - 1))) := by
  have h : spots.length + run - 1 ∈ List.replicate spots[run] (spots.length + run - 1) ++ List.replicate (spots.length - 1 - spots[run]) (spots.length + run - 2) := List.mem_append_left _ (List.mem_replicate.mpr ⟨Nat.ne_of_gt hp, rfl⟩)
  have hm : spots.length + run - 1 ∈ rowL node spots.length run spots[run] := by
    unfold rowL
    simp only []
    split
    · exact List.mem_reverse.mpr h
    · exact h
  exact Nat.le_trans (Nat.le_of_eq (Nat.sub_add_cancel (Nat.le_trans hr (Nat.le_add_left ..))).symm) (cl_rows hr hl hm)
noncomputable def colM (m : Nat) (a : Nat → Nat) (t run : Nat) : Nat := (m - 1) * ((m + run - 2) / t * t + t) + if (m + run - 1) % t = 0 then a run * t else 0
theorem colM_mono {m : Nat} {a b : Nat → Nat} {t run : Nat} (h : a run ≤ b run) : colM m a t run ≤ colM m b t run := by
  unfold colM
  split
  · exact Nat.add_le_add_left (Nat.mul_le_mul_right t h) _
  · exact Nat.le_refl _
theorem colM_eq {m : Nat} {a b : Nat → Nat} {t run : Nat} (h : (m + run - 1) % t ≠ 0) : colM m a t run = colM m b t run := by
  unfold colM; rw [if_neg h, if_neg h]
theorem cS_mono {m : Nat} {a b : Nat → Nat} {t : Nat} (h : ∀ k, k < m → a k ≤ b k) : ((List.range' 1 (m - 1)).map (colM m a t)).sum ≤ ((List.range' 1 (m - 1)).map (colM m b t)).sum :=
  sum_le_sum _ fun j hj => colM_mono (h j (mem_r1 hj).2)
theorem mod_top {m j : Nat} (h0 : 0 < j) (h : j < m) : (m + j - 1) % (2 * m - 1) ≠ 0 := by
  rw [Nat.mod_eq_of_lt (by lia)]; lia
theorem mod_oth {m j k : Nat} (h0 : 0 < j) (h : j < m) (k0 : 0 < k) (hk : k < m) (hn : j ≠ k) : (m + j - 1) % (m + k - 1) ≠ 0 := fun z => by
  have := mod_two (by lia) (by lia) z; lia
theorem cS_eq {m : Nat} {a b : Nat → Nat} : ((List.range' 1 (m - 1)).map (colM m a (2 * m - 1))).sum = ((List.range' 1 (m - 1)).map (colM m b (2 * m - 1))).sum :=
  congrArg List.sum (List.map_congr_left fun j hj => colM_eq (mod_top (mem_r1 hj).1 (mem_r1 hj).2))
theorem r1_mem {m k : Nat} (h0 : 0 < k) (h : k < m) : k ∈ List.range' 1 (m - 1) := by rw [List.mem_range'_1]; lia
theorem cS_one {m k : Nat} {a b : Nat → Nat} (hk0 : 0 < k) (hk : k < m) (hlt : b k < a k) : ((List.range' 1 (m - 1)).map (colM m b (m + k - 1))).sum + (m + k - 1) ≤ ((List.range' 1 (m - 1)).map (colM m a (m + k - 1))).sum := by
  rw [sum_one (f := colM m a (m + k - 1)) (g := colM m b (m + k - 1)) (k := k) (d := (a k - b k) * (m + k - 1)) _ List.nodup_range' (r1_mem hk0 hk) ?_ fun j hj hjk => colM_eq (mod_oth (mem_r1 hj).1 (mem_r1 hj).2 hk0 hk hjk)]
  · exact Nat.add_le_add_left (Nat.le_mul_of_pos_left _ (Nat.sub_pos_of_lt hlt)) _
  · unfold colM
    rw [if_pos (Nat.mod_self _), if_pos (Nat.mod_self _), Nat.add_assoc, ← Nat.add_mul, Nat.add_sub_cancel' (Nat.le_of_lt hlt)]
theorem top_of {r1 r2 : List Nat} {x1 x2 t : Nat} (h : t ≤ cl r1 ∨ t ≤ cl r2) : t ≤ topN r1 x1 r2 x2 := by
  unfold topN longN
  rcases h with h | h
  · exact Nat.le_trans h (Nat.le_add_of_sub_le (Nat.le_trans (Nat.le_max_left ..) (Nat.le_max_left ..)))
  · exact Nat.le_trans h (Nat.le_add_of_sub_le (Nat.le_trans (Nat.le_max_left ..) (Nat.le_max_right ..)))
theorem all_no {P : Nat → Prop} [∀ t, Decidable (P t)] {n t : Nat} (t2 : 2 ≤ t) (tl : t ≤ n) (h : ¬ P t) : ((List.range' 2 (n - 1)).all fun t => decide (P t)) = false := by
  rw [List.all_eq_false]
  exact ⟨t, by rw [List.mem_range'_1]; lia, by rw [decide_eq_true_eq]; exact h⟩
theorem two_of {x y m : Nat} (h : x < y) (hy : y ≤ m - 1) : 2 ≤ m := by lia
theorem less_plain {r1 r2 : List Nat} {x1 x2 m : Nat} {a b : Nat → Nat} (h0 : 0 < m) (ga : a 0 ≤ m - 1) (gb : b 0 ≤ m - 1)
    (N1 : nOf r1 x1 = a 0 + ((List.range' 1 (m - 1)).map fun run => (m - 1) * (m + run - 1) + a run).sum) (N2 : nOf r2 x2 = b 0 + ((List.range' 1 (m - 1)).map fun run => (m - 1) * (m + run - 1) + b run).sum)
    (V1 : ∀ t, 0 < t → lv r1 x1 t = a 0 + ((List.range' 1 (m - 1)).map (colM m a t)).sum) (V2 : ∀ t, 0 < t → lv r2 x2 t = b 0 + ((List.range' 1 (m - 1)).map (colM m b t)).sum)
    (C1 : ∀ k, 0 < k → k < m → m + k - 1 ≤ cl r1) (Ct : 2 ≤ m → a (m - 1) ≠ b (m - 1) → 2 * m - 1 ≤ cl r1 ∨ 2 * m - 1 ≤ cl r2) (hd : (∀ k, k < m → a k = b k) ∨ ∀ k, k < m → a k ≠ b k) :
    lessP r1 x1 r2 x2 = decide (∀ k, k < m → a k < b k) := by
  have smp : 2 ≤ m → ¬ (cl r1 ≤ 1 ∧ cl r2 ≤ 1) := fun hm z => Nat.not_le_of_lt hm (Nat.le_trans (C1 1 Nat.one_pos hm) z.1)
  unfold lessP
  by_cases c : ∀ k, k < m → a k < b k
  · rw [decide_eq_true c, if_neg (Nat.not_le_of_lt ?_), if_neg (smp (two_of (c 0 h0) gb)), List.all_eq_true]
    · intro t ht
      have t0 : 0 < t := Nat.lt_of_lt_of_le Nat.two_pos (List.mem_range'_1.mp ht).1
      rw [decide_eq_true_eq, V1 t t0, V2 t t0]
      exact Nat.add_lt_add_of_lt_of_le (c 0 h0) (cS_mono fun k hk => Nat.le_of_lt (c k hk))
    · rw [N1, N2]
      exact Nat.add_lt_add_of_lt_of_le (c 0 h0) (sum_le_sum _ fun j hj => Nat.add_le_add_left (Nat.le_of_lt (c j (mem_r1 hj).2)) _)
  · rw [decide_eq_false c]
    rcases hd with hd | hd
    · have e : ((List.range' 1 (m - 1)).map fun run => (m - 1) * (m + run - 1) + a run) = ((List.range' 1 (m - 1)).map fun run => (m - 1) * (m + run - 1) + b run) := List.map_congr_left fun j hj => by
        rw [hd j (mem_r1 hj).2]
      rw [if_pos (by rw [N1, N2, e, hd 0 h0]; exact Nat.le_refl _)]
    · split
      · rfl
      · obtain ⟨k, hk, hlt⟩ : ∃ k, k < m ∧ b k < a k := Classical.byContradiction fun q => c fun k hk => Nat.lt_of_le_of_ne (Nat.le_of_not_lt fun z => q ⟨k, hk, z⟩) (hd k hk)
        rcases Nat.eq_zero_or_pos k with rfl | k0
        · have m2 := two_of hlt ga
          rw [if_neg (smp m2)]
          have p : 2 ≤ 2 * m - 1 := Nat.le_sub_of_add_le (Nat.le_trans (by decide) (Nat.mul_le_mul_left 2 m2))
          refine all_no p (top_of (Ct m2 (hd _ (Nat.sub_lt h0 Nat.one_pos)))) ?_
          rw [V1 _ (Nat.lt_of_lt_of_le Nat.two_pos p), V2 _ (Nat.lt_of_lt_of_le Nat.two_pos p), cS_eq (a := a) (b := b)]
          exact Nat.not_lt_of_le (Nat.add_le_add_right (Nat.le_of_lt hlt) _)
        · rw [if_neg (smp (Nat.lt_of_le_of_lt k0 hk))]
          have p : 2 ≤ m + k - 1 := Nat.le_sub_of_add_le (Nat.add_le_add (Nat.lt_of_le_of_lt k0 hk) k0)
          refine all_no p (top_of (.inl (C1 k k0 hk))) ?_
          rw [V1 _ (Nat.lt_of_lt_of_le Nat.two_pos p), V2 _ (Nat.lt_of_lt_of_le Nat.two_pos p)]
          refine Nat.not_lt_of_le (Nat.le_trans ?_ (Nat.le_add_left _ _))
          refine Nat.le_trans ?_ (cS_one k0 hk hlt)
          rw [Nat.add_comm]
          exact Nat.add_le_add_left (Nat.le_trans gb (Nat.sub_le_sub_right (Nat.le_add_right ..) 1)) _
theorem less_spots {n1 n2 : Int} {s1 s2 : List Nat} {m : Nat} (l1 : s1.length = m) (l2 : s2.length = m) (h0 : 0 < m) (h1 : ∀ s ∈ s1, s ≤ m - 1) (h2 : ∀ s ∈ s2, s ≤ m - 1) (hd : s1 = s2 ∨ ∀ k, k < m → s1[k]? ≠ s2[k]?) :
    lessP (rowsN n1 s1 (List.range' 1 (m - 1))) (s1[0]?.getD 0) (rowsN n2 s2 (List.range' 1 (m - 1))) (s2[0]?.getD 0) = decide (∀ k, k < m → s1[k]?.getD 0 < s2[k]?.getD 0) := by
  subst l1
  have nd : ∀ k, k < s1.length → s1[k]? ≠ s2[k]? → s1[k]?.getD 0 ≠ s2[k]?.getD 0 := fun k hk h z => h (by
    have hk' := l2.symm ▸ hk
    rw [List.getElem?_eq_getElem hk, List.getElem?_eq_getElem hk'] at z ⊢
    exact congrArg some z)
  have h2' : ∀ s ∈ s2, s ≤ s2.length - 1 := l2.symm ▸ h2
  have h0' : 0 < s2.length := l2.symm ▸ h0
  have N2 := n_col (node := n2) h0' h2'
  have V2 := fun t ht => lv_col (node := n2) (t := t) ht h0' h2'
  unfold colP at V2
  have cc : ∀ t, colT s2 t = colM s1.length (fun k => s2[k]?.getD 0) t := fun t => by funext run; unfold colT colM; rw [l2]
  rw [l2] at N2 V2
  refine less_plain (m := s1.length) (a := fun k => s1[k]?.getD 0) (b := fun k => s2[k]?.getD 0) h0 ?_ ?_ (n_col h0 h1) N2 (fun t ht => lv_col ht h0 h1) (fun t ht => by rw [V2 t ht, cc]) (fun k k0 hk => row_there k0 hk h1) (fun hm hne => ?_) ?_
  · rw [List.getElem?_eq_getElem h0]; exact h1 _ (List.getElem_mem h0)
  · rw [List.getElem?_eq_getElem h0']; exact h2 _ (List.getElem_mem h0')
  · have e1 : s1.length - 1 < s1.length := by lia
    have e2 : s1.length - 1 < s2.length := by lia
    simp only [List.getElem?_eq_getElem e1, List.getElem?_eq_getElem e2, Option.getD_some] at hne
    rcases Nat.eq_zero_or_pos s1[s1.length - 1] with z | z
    · have := row_top (node := n2) (spots := s2) (run := s1.length - 1) (by lia) e2 (by lia)
      rw [l2] at this; right; lia
    · have := row_top (node := n1) (spots := s1) (run := s1.length - 1) (by lia) e1 z
      left; lia
  · rcases hd with rfl | hd
    · exact .inl fun _ _ => rfl
    · exact .inr fun k hk => nd k hk (hd k hk)
end Mine
namespace Mine
theorem ends_body {R : Fw → Loc → Hp → Prop} {X : XS} {hp : Hp} {loc : Loc} {E : List (Int × Int)} {ends : List Int} (hE : E.length ≤ 6) (e44 : loc 44 = some (.lst (E.map vE))) (e77 : loc 77 = some (.lst (ends.map .int))) (q : R .next (upd loc 77 (.lst ((endStep E ends).map .int))) hp) : L_law_4 R X loc hp := by
  have hlim : lim = 1000000 := rfl
  simp only [L_law_4, e_sSeq, e_sAsg, e_dComp, e_dCall, e_aCons, e_dCon, e_aNil, e_dRange1, it_of (iter_rng (lo := 0) (hi := 4) (by decide) (by decide)), rng4, e_gVar]
  refine cLp_pure V.int (fun n => decide ((E.filter fun e => decide (e.2 = n ∧ e.1 ∈ ends)).map (·.1) ≠ [])) V.int [0, 1, 2, 3] [] hp (by simp; lia) (by simp) ?_ ?_
  · intro n hn acc ha R2 hR
    have k44 : (upd (keepL [44, 77] loc) 1 (V.int n)) 44 = some (.lst (E.map vE)) := by simp [upd, keepL, e44]
    have k77 : (upd (keepL [44, 77] loc) 1 (V.int n)) 77 = some (.lst (ends.map .int)) := by simp [upd, keepL, e77]
    have k1 : (upd (keepL [44, 77] loc) 1 (V.int n)) 1 = some (.int n) := by simp
    simp only [e_gVar, e_tBin, e_dComp, e_dVar, rd k44, it_lst]
    refine cLp_pure vE (fun e => decide (e.2 = n ∧ e.1 ∈ ends)) (fun e => .int e.1) E [] hp (by simp; lia) (by simp) ?_ ?_
    · intro e he acc2 ha2 R3 hR3
      simp [↓rd e77, -Bool.exists_bool]
      by_cases c1 : e.2 = n <;> by_cases c2 : e.1 ∈ ends <;> simp [c1, c2] at hR3 ⊢ <;> first | exact hR3 | exact ⟨ha2, hR3⟩
    · rw [List.nil_append, show (E.filter fun e => decide (e.2 = n ∧ e.1 ∈ ends)).map (fun e => V.int e.1) = ((E.filter fun e => decide (e.2 = n ∧ e.1 ∈ ends)).map (·.1)).map .int by simp [Function.comp_def]]
      simp only [e_dLst, e_aNil]
      refine ⟨by simp, ?_⟩
      rw [e_neL0, ex_bool]
      split
      · rename_i c; rw [if_pos c] at hR; simp only [e_cElt, e_dVar, rd k1]; exact ⟨ha, hR⟩
      · rename_i c; rw [if_neg c] at hR; exact hR
  · rw [List.nil_append]
    exact q
theorem ends_loop {Q : Fw → Loc → Hp → Prop} {v : V} {hp0 hp : Hp} {E : List (Int × Int)} (hv : ∀ h h', same v h h') (hE : E.length ≤ 6) : ∀ (us : List V) (k : Nat) (loc : Loc), loc 44 = some (.lst (E.map vE)) → loc 77 = some (.lst ((endN E k).map .int)) →
    (∀ loc', loc' 77 = some (.lst ((endN E (k + us.length)).map .int)) → (∀ i, i ≠ 76 → i ≠ 77 → loc' i = loc i) → Q .next loc' hp) → fLoop v hp0 (gVar 76) L_law_4 Q us loc hp
  | [], k, loc, h1, h2, q => by exact q loc h2 fun _ _ _ => rfl
  | u :: us, k, loc, h1, h2, q => by
    rw [fLoopC, e_gVar]
    refine ends_body (ends := endN E k) hE (by rw [upd_ne (by decide)]; exact h1) (by rw [upd_ne (by decide)]; exact h2) ⟨hv _ _, ?_⟩
    refine ends_loop hv hE us (k + 1) _ (by rw [upd_ne (by decide), upd_ne (by decide)]; exact h1) (by rw [upd_same]; rfl) fun loc' h3 h4 => q loc' ?_ fun i n1 n2 => ?_
    · rw [h3]; simp only [List.length_cons]; congr 4; lia
    · rw [h4 i n1 n2, upd_ne n2, upd_ne n1]
noncomputable def All2 (E : List (Int × Int)) : List Int → List (List Int) → Prop
  | [], Os => Os = []
  | h :: hs, Os => ∃ o rest, Os = o :: rest ∧ (∃ rb, RunOk E h o rb) ∧ All2 E hs rest
theorem All2.len {E : List (Int × Int)} : ∀ {hs : List Int} {Os : List (List Int)}, All2 E hs Os → Os.length = hs.length
  | [], Os, h => by simp only [All2] at h; subst h; rfl
  | h :: hs, Os, ⟨o, rest, e, _, r⟩ => by subst e; simp [All2.len r]
theorem All2.at {E : List (Int × Int)} : ∀ {hs : List Int} {Os : List (List Int)}, All2 E hs Os → ∀ k (hk : k < hs.length) (ho : k < Os.length), ∃ rb, RunOk E hs[k] Os[k] rb
  | [], Os, h, k, hk, ho => by simp at hk
  | h :: hs, Os, ⟨o, rest, e, ok, r⟩, k, hk, ho => by
    subst e
    cases k with
    | zero => exact ok
    | succ k => exact All2.at r k (by simpa using hk) (by simpa using ho)
theorem All2.all {E : List (Int × Int)} : ∀ {hs : List Int} {Os : List (List Int)}, All2 E hs Os → ∀ o ∈ Os, ∃ h rb, RunOk E h o rb
  | [], Os, h, o, ho => by simp only [All2] at h; subst h; cases ho
  | h :: hs, Os, ⟨o', rest, e, ok, r⟩, o, ho => by
    subst e
    rcases List.mem_cons.mp ho with rfl | ho
    · exact ⟨h, ok⟩
    · exact All2.all r o ho
theorem orders_loop {K : List V → Hp → Prop} {hp0 : Hp} {v : V} {loc : Loc} {E : List (Int × Int)} (hv : ∀ h h', same v h h') (hE : E.length ≤ 6) (hI : ∀ e ∈ E, InE e) (e44 : loc 44 = some (.lst (E.map vE))) : ∀ (hs : List Int) (acc : List V) (hp : Hp), acc.length + hs.length ≤ 100 →
    (∀ Os hp', All2 E hs Os → Grow hp hp' → K (acc ++ Os.map fun o => .lst (o.map .int)) hp') → cLp v hp0 (gVar 49) fNone (cElt (dBin bItem (dCall C_law_run (aCons (dVar 44) (aCons (dVar 49) aNil))) (dCon (.int 0)))) K (hs.map .int) acc loc hp
  | [], acc, hp, _, q => by
    show K acc hp
    have := q [] hp rfl (.refl _)
    simpa using this
  | h :: hs, acc, hp, hl, q => by
    have hlim : lim = 1000000 := rfl
    simp only [List.length_cons] at hl
    rw [List.map_cons, cLpC]
    have k44 : (upd loc 49 (V.int h)) 44 = some (.lst (E.map vE)) := by rw [upd_ne (by decide)]; exact e44
    have k49 : (upd loc 49 (V.int h)) 49 = some (.int h) := by simp
    simp only [e_gVar, e_fNone, if_true, e_cElt, e_dBin, e_dCall, e_aCons, e_dVar, rd k44, rd k49, e_aNil, e_dCon]
    refine ⟨by lia, c_law_run hE hI fun hp' order ringed g ok => ?_⟩
    rw [e_bItemT]
    refine ⟨by simp; lia, .lst (order.map .int), by simp [itemAt], hv _ _, ?_⟩
    refine orders_loop hv hE hI e44 hs _ hp' (by simp; lia) fun Os hp2 a2 g2 => ?_
    have := q (order :: Os) hp2 ⟨order, Os, rfl, ⟨ringed, ok⟩, a2⟩ (g.trans g2)
    simpa using this
noncomputable def spotsOf (Os : List (List Int)) (u : Int) : List Nat := Os.map fun o => o.idxOf u
theorem index_ref {Q : V → Hp → Prop} {X : XA} {hp : Hp} {o : List Int} {u : Int} (hu : u ∈ o) (hl : o.length ≤ 100) (q : Q (.int (o.idxOf u : Nat)) hp) : dIndex [.lst (o.map .int), .int u] Q X hp := ⟨_, _, o, u, rfl, rfl, intsOf_map _, by simp; unfold lim; lia, hu, q⟩
theorem places_elt {R : List V → Hp → Prop} {loc : Loc} {hp : Hp} {Os : List (List Int)} {u : Int} {acc : List V} (hO : ∀ o ∈ Os, u ∈ o ∧ o.length ≤ 100) (hl : Os.length ≤ 100) (e80 : loc 80 = some (.lst (Os.map fun o => .lst (o.map .int)))) (e1 : loc 1 = some (.int u)) (ha : acc.length ≤ lim)
    (q : R (acc ++ [.lst (vNs (spotsOf Os u))]) hp) : cElt (dComp [1] (dVar 80) (gVar 58) fNone (cElt (dMeth isLst dIndex (dVar 58) (aCons (dVar 1) aNil)))) R acc loc hp := by
  have hlim : lim = 1000000 := rfl
  refine ⟨ha, ?_⟩
  simp only [e_dComp, e_dVar, rd e80, it_lst]
  refine cLp_pure (fun o : List Int => V.lst (o.map .int)) (fun _ => true) (fun o => .int (o.idxOf u : Nat)) Os [] hp (by simp; lia) (by simp) ?_ ?_
  · intro o ho acc2 ha2 R2 hR
    have k1 : (upd (keepL [1] loc) 58 (V.lst (o.map .int))) 1 = some (.int u) := by simp [upd, keepL, e1]
    simp only [e_gVar, e_fNone, if_true, e_cElt, e_dMeth, e_dVar, rd_upd, rd k1, e_aCons, e_aNil]
    refine ⟨ha2, by simp, ?_⟩
    exact index_ref (hO o ho).1 (hO o ho).2 (by simpa using hR)
  · have hf : Os.filter (fun _ => true) = Os := List.filter_eq_self.mpr (by simp)
    rw [hf, List.nil_append]
    have : (Os.map fun o => V.int (o.idxOf u : Nat)) = vNs (spotsOf Os u) := by simp [vNs, spotsOf, Function.comp_def]
    rw [this]; exact q
theorem map_range_get {α : Type} (f : Int → α) (xs : List Int) : (List.range xs.length).map (fun i => f (xs[i]?.getD 0)) = xs.map f := by
  apply List.ext_getElem?
  intro i
  rw [List.getElem?_map, List.getElem?_map]
  by_cases h : i < xs.length
  · rw [List.getElem?_range h, List.getElem?_eq_getElem h]; simp [List.getElem?_eq_getElem h]
  · rw [List.getElem?_eq_none (by simpa using h), List.getElem?_eq_none (by simpa using h)]; rfl
theorem len_sum : ∀ xs : List Nat, xs.length = (xs.map fun _ => 1).sum
  | [] => rfl
  | x :: xs => by have := len_sum xs; simp only [List.length_cons, List.map_cons, List.sum_cons]; lia
theorem text_ok (node : Int) {spots : List Nat} (h0 : 0 < spots.length) (hm4 : spots.length ≤ 4) (hsp : ∀ s ∈ spots, s ≤ spots.length - 1) : (∀ c ∈ textOf node spots, c < 128) ∧ (textOf node spots).length ≤ 2000 ∧ parse (textOf node spots) [] 0 = (rowsN node spots (List.range' 1 (spots.length - 1)), spots[0]?.getD 0) ∧ nOf (rowsN node spots (List.range' 1 (spots.length - 1))) (spots[0]?.getD 0) ≤ 2000 := by
  have hs : spots[0]? = some spots[0] := List.getElem?_eq_getElem h0
  have hsm := hsp _ (List.getElem_mem h0)
  have hrow : ∀ r ∈ rowsN node spots (List.range' 1 (spots.length - 1)), r ≤ 20 := by
    intro r hr
    obtain ⟨j, hj, h⟩ := List.mem_flatMap.mp hr
    rw [List.mem_range'_1] at hj
    have := rowL_mem h; lia
  have hl : (rowsN node spots (List.range' 1 (spots.length - 1))).length ≤ 9 := by
    have e : (rowsN node spots (List.range' 1 (spots.length - 1))).length = ((rowsN node spots (List.range' 1 (spots.length - 1))).map fun _ => 1).sum := len_sum _
    rw [e, rowsN_sum]
    have := sum_le_of (B := 3) ((List.range' 1 (spots.length - 1)).map fun run => spots[run]?.getD 0 * 1 + (spots.length - 1 - spots[run]?.getD 0) * 1) (by
      intro x hx
      obtain ⟨j, hj, rfl⟩ := List.mem_map.mp hx
      rw [List.mem_range'_1] at hj
      have hjl : j < spots.length := by lia
      rw [List.getElem?_eq_getElem hjl]
      have := hsp _ (List.getElem_mem hjl)
      simp only [Option.getD_some]; lia)
    simp only [List.length_map, List.length_range'] at this
    lia
  have hn : ((rowsN node spots (List.range' 1 (spots.length - 1))).map (· + 1)).sum ≤ 200 := by
    have := sum_le_of (B := 21) ((rowsN node spots (List.range' 1 (spots.length - 1))).map (· + 1)) (by
      intro x hx
      obtain ⟨r, hr, rfl⟩ := List.mem_map.mp hx
      have := hrow r hr; lia)
    simp only [List.length_map] at this
    lia
  refine ⟨fun c hc => ?_, ?_, ?_, ?_⟩
  · unfold textOf at hc
    rcases List.mem_append.mp hc with h | h
    · obtain ⟨r, _, h⟩ := List.mem_flatMap.mp h
      unfold rowS at h
      rcases List.mem_append.mp h with h | h
      · have := (List.mem_replicate.mp h).2; lia
      · simp at h; lia
    · rcases List.mem_append.mp h with h | h
      · have := (List.mem_replicate.mp h).2; lia
      · simp at h; lia
  · unfold textOf
    rw [hs]
    simp only [List.length_append, encR_len, List.length_replicate, Option.getD_some, List.length_cons, List.length_nil]
    lia
  · unfold textOf
    exact parse_text _ _ _ _ (by decide) (by decide)
  · unfold nOf
    rw [hs]; simp only [Option.getD_some]; lia
end Mine
namespace Mine
noncomputable def js (m : Nat) : List Nat := List.range' 1 (m - 1)
noncomputable def leadV (Os : List (List Int)) (m : Nat) (u : Int) : V := wObj (textOf u (spotsOf Os u)) (rowsN u (spotsOf Os u) (js m)) ((spotsOf Os u)[0]?.getD 0)
structure LF (loc : Loc) (ns : List Int) (E : List (Int × Int)) (plain : List Int) (Os : List (List Int)) : Prop where
  l43 : loc 43 = some (.lst (ns.map .int))
  l44 : loc 44 = some (.lst (E.map vE))
  l78 : loc 78 = some (.lst (plain.map .int))
  l81 : loc 81 = some (.int (plain.length : Nat))
  l82 : loc 82 = some (.lst (plain.map fun u => .lst (vNs (spotsOf Os u))))
  l84 : loc 84 = some (.lst (plain.map (leadV Os plain.length)))
theorem LF.upd {loc : Loc} {ns : List Int} {E : List (Int × Int)} {plain : List Int} {Os : List (List Int)} (l : LF loc ns E plain Os) {i : Nat} {v : V} (hi : i = 71 ∨ i = 83 ∨ i = 85 ∨ i = 86) : LF (Mine.upd loc i v) ns E plain Os := by
  rcases hi with rfl | rfl | rfl | rfl <;> exact ⟨by rw [upd_ne (by decide)]; exact l.l43, by rw [upd_ne (by decide)]; exact l.l44, by rw [upd_ne (by decide)]; exact l.l78, by rw [upd_ne (by decide)]; exact l.l81, by rw [upd_ne (by decide)]; exact l.l82, by rw [upd_ne (by decide)]; exact l.l84⟩
structure PF (E : List (Int × Int)) (plain : List Int) (Os : List (List Int)) : Prop where
  hE : E.length ≤ 6
  hI : ∀ e ∈ E, InE e
  m4 : plain.length ≤ 4
  sl : ∀ u, (spotsOf Os u).length = plain.length
  sb : ∀ u ∈ plain, ∀ s ∈ spotsOf Os u, s ≤ plain.length - 1
  less : ∀ u ∈ plain, ∀ v ∈ plain, lessP (rowsN u (spotsOf Os u) (js plain.length)) ((spotsOf Os u)[0]?.getD 0) (rowsN v (spotsOf Os v) (js plain.length)) ((spotsOf Os v)[0]?.getD 0) = decide (v ∈ metN E u 4 [])
theorem item_map {α : Type} {f : Int → V} {xs : List Int} {i : Nat} {u : Int} (h : xs[i]? = some u) : itemAt (xs.map f) (i : Int) = some (f u) := by
  unfold itemAt
  rw [if_pos (by lia)]
  simp [h]
section
variable {ns : List Int} {E : List (Int × Int)} {plain : List Int} {Os : List (List Int)}
theorem PF.txt (p : PF E plain Os) {u : Int} (hu : u ∈ plain) : (∀ c ∈ textOf u (spotsOf Os u), c < 128) ∧ (textOf u (spotsOf Os u)).length ≤ 2000 ∧ parse (textOf u (spotsOf Os u)) [] 0 = (rowsN u (spotsOf Os u) (js plain.length), (spotsOf Os u)[0]?.getD 0) ∧ nOf (rowsN u (spotsOf Os u) (js plain.length)) ((spotsOf Os u)[0]?.getD 0) ≤ 2000 := by
  have h0 : 0 < plain.length := List.length_pos_of_mem hu
  have hl := p.sl u
  have := text_ok u (spots := spotsOf Os u) (by lia) (by have := p.m4; lia) (by rw [hl]; exact p.sb u hu)
  rw [hl] at this
  exact this
theorem size_body {R : Fw → Loc → Hp → Prop} {X : XS} {hp : Hp} {loc : Loc} {i t : Nat} {u : Int} (p : PF E plain Os) (l : LF loc ns E plain Os) (hu : plain[i]? = some u) (ht : 0 < t) (e83 : loc 83 = some (.int (i : Nat))) (e71 : loc 71 = some (.int (t : Nat))) (q : R .next loc hp) : L_law_2 R X loc hp := by
  have hlim : lim = 1000000 := rfl
  have hm := p.m4
  have hup : u ∈ plain := List.mem_of_getElem? hu
  have h0 : 0 < plain.length := List.length_pos_of_mem hup
  obtain ⟨t1, t2, t3, t4⟩ := p.txt hup
  have i84 := item_map (α := Unit) (f := leadV Os plain.length) hu
  have i82 := item_map (α := Unit) (f := fun u => V.lst (vNs (spotsOf Os u))) hu
  simp only [L_law_2, e_sSeq, e_sIf, e_tBin, e_dMeth, e_dBin, e_dVar, rd l.l84, rd e83, e_bItemL]
  refine ⟨by simp; lia, leadV Os plain.length u, i84, isW (.inl rfl), ?_⟩
  simp only [e_aCons, e_dVar, rd e71, e_aNil]
  refine c_level ht (by lia) ?_
  simp only [e_dCall, e_aCons, e_dBin, e_dVar, rd l.l82, rd e83, e_bItemL]
  refine ⟨by simp; lia, V.lst (vNs (spotsOf Os u)), i82, ?_⟩
  simp only [rd e71, e_aNil]
  have hl := p.sl u
  refine c_law_column (by lia) (by lia) ht (by rw [hl]; exact p.sb u hup) ?_
  have := lv_col (node := u) ht (spots := spotsOf Os u) (by lia) (by rw [hl]; exact p.sb u hup)
  rw [hl] at this
  rw [show lv (rowsN u (spotsOf Os u) (js plain.length)) ((spotsOf Os u)[0]?.getD 0) t = colP (spotsOf Os u) t from this]
  rw [e_neI, ex_bool]
  simp
  exact q
theorem size_loop {Q : Fw → Loc → Hp → Prop} {v : V} {hp0 hp : Hp} {i : Nat} {u : Int} (hv : ∀ h h', same v h h') (p : PF E plain Os) (hu : plain[i]? = some u) : ∀ (ts : List Nat) (loc : Loc), (∀ t ∈ ts, 0 < t) → LF loc ns E plain Os → loc 83 = some (.int (i : Nat)) →
    (∀ loc', LF loc' ns E plain Os → loc' 83 = some (.int (i : Nat)) → Q .next loc' hp) → fLoop v hp0 (gVar 71) L_law_2 Q (ts.map fun t => .int (t : Nat)) loc hp
  | [], loc, _, l, e, q => by exact q loc l e
  | t :: ts, loc, ht, l, e, q => by
    rw [List.map_cons, fLoopC, e_gVar]
    refine size_body (i := i) (t := t) p (l.upd (.inl rfl)) hu (ht t List.mem_cons_self) (by rw [upd_ne (by decide)]; exact e) (by simp) ⟨hv _ _, ?_⟩
    exact size_loop hv p hu ts _ (fun s hs => ht s (List.mem_cons_of_mem _ hs)) (l.upd (.inl rfl)) (by rw [upd_ne (by decide)]; exact e) q
theorem two_body {R : Fw → Loc → Hp → Prop} {X : XS} {hp : Hp} {loc : Loc} {i j : Nat} {u w : Int} (p : PF E plain Os) (l : LF loc ns E plain Os) (hu : plain[i]? = some u) (hw : plain[j]? = some w) (e83 : loc 83 = some (.int (i : Nat))) (e86 : loc 86 = some (.int (j : Nat))) (e85 : loc 85 = some (.lst ((metN E u 4 []).map .int))) (q : R .next loc hp) : L_law_1 R X loc hp := by
  have hlim : lim = 1000000 := rfl
  have hm := p.m4
  have hup : u ∈ plain := List.mem_of_getElem? hu
  have hwp : w ∈ plain := List.mem_of_getElem? hw
  obtain ⟨t1, t2, t3, t4⟩ := p.txt hup
  obtain ⟨r1, r2, r3, r4⟩ := p.txt hwp
  have i84 := item_map (α := Unit) (f := leadV Os plain.length) hu
  have j84 := item_map (α := Unit) (f := leadV Os plain.length) hw
  have j78 := item_map (α := Unit) (f := V.int) hw
  simp only [L_law_1, e_sSeq, e_sIf, e_tBin, e_dMeth, e_dBin, e_dVar, rd l.l84, rd e83, e_bItemL]
  refine ⟨by simp; lia, leadV Os plain.length u, i84, isW (.inr (.inr rfl)), ?_⟩
  simp only [e_aCons, e_dBin, e_dVar, rd l.l84, rd e86, e_bItemL, e_aNil]
  refine ⟨by simp; lia, leadV Os plain.length w, j84, ?_⟩
  refine c_less (by lia) (by lia) ?_
  simp only [rd l.l78, rd e86, e_bItemL, rd e85]
  refine ⟨by simp; lia, .int w, j78, ?_⟩
  rw [e_inL, p.less u hup w hwp, e_bIsNot, on_bb, ex_bool]
  simp
  exact q
theorem two_loop {Q : Fw → Loc → Hp → Prop} {v : V} {hp0 hp : Hp} {i : Nat} {u : Int} (hv : ∀ h h', same v h h') (p : PF E plain Os) (hu : plain[i]? = some u) : ∀ (ks : List Nat) (loc : Loc), (∀ k ∈ ks, k < plain.length) → LF loc ns E plain Os → loc 83 = some (.int (i : Nat)) → loc 85 = some (.lst ((metN E u 4 []).map .int)) →
    (∀ loc', LF loc' ns E plain Os → Q .next loc' hp) → fLoop v hp0 (gVar 86) L_law_1 Q (ks.map fun k => .int (k : Nat)) loc hp
  | [], loc, _, l, _, _, q => by exact q loc l
  | k :: ks, loc, hk, l, e, e85, q => by
    rw [List.map_cons, fLoopC, e_gVar]
    have hkl := hk k List.mem_cons_self
    refine two_body (i := i) (j := k) p (l.upd (.inr (.inr (.inr rfl)))) hu (List.getElem?_eq_getElem hkl) (by rw [upd_ne (by decide)]; exact e) (by simp) (by rw [upd_ne (by decide)]; exact e85) ⟨hv _ _, ?_⟩
    exact two_loop hv p hu ks _ (fun s hs => hk s (List.mem_cons_of_mem _ hs)) (l.upd (.inr (.inr (.inr rfl)))) (by rw [upd_ne (by decide)]; exact e) (by rw [upd_ne (by decide)]; exact e85) q
theorem ob_sizes {Q : V → Hp → Prop} {XE : XA} {loc : Loc} {hp : Hp} {ns : List Int} {m : Nat} (hm : m ≤ 4) (m0 : 0 < m) (hn : ns.length ≤ 63) (h81 : loc 81 = some (.int (m : Nat))) (h43 : loc 43 = some (.lst (ns.map .int))) (q : ∀ a : Nat, Q (.lst ((List.range' 1 (2 * m - 1) ++ [2 * m - 1 + a]).map fun t => .int (t : Nat))) hp) :
    dBin bAdd (dCall dListR (aCons (dCall dRange2 (aCons (dCon (.int 1)) (aCons (dBin bMulA (dCon (.int 2)) (dVar 81)) aNil))) aNil)) (dLst (aCons (dBin bAdd (dBin (bInt (· - ·)) (dBin bMulA (dCon (.int 2)) (dVar 81)) (dCon (.int 1))) (dCall dAbs (aCons (dCall dSum (aCons (dVar 43) aNil)) aNil))) aNil)) Q XE loc hp := by
  have sm : small 2 := ⟨by decide, by decide⟩
  have rs : Builtin.Range.small 1 (2 * (m : Int)) 1 = true := by
    have hz : Builtin.Range.rangeSize 1 (2 * (m : Int)) 1 = 2 * (m : Int) - 1 := by unfold Builtin.Range.rangeSize; simp; lia
    simp [Builtin.Range.small, hz, Builtin.Range.rangeFitsLong]; lia
  have hrl : rngList 1 (2 * (m : Int)) = (List.range' 1 (2 * m - 1)).map fun t => .int (t : Nat) := by
    have := rng_nat2 1 (2 * m)
    rwa [show ((2 * m : Nat) : Int) = 2 * (m : Int) from Int.natCast_mul ..] at this
  obtain ⟨a, ha⟩ : ∃ a : Nat, (if ns.sum < 0 then -ns.sum else ns.sum) = (a : Int) := by
    refine ⟨ns.sum.natAbs, ?_⟩
    split <;> lia
  simp only [e_dBin, e_dCall, e_aCons, e_dCon, e_aNil, e_dVar, rd h81, e_bMulA, e_dRange2]
  refine ⟨.inl sm, 1, 2 * (m : Int), rfl, rs, by unfold lim; lia, ?_⟩
  simp only [e_dLst, e_aCons, e_dBin, e_dCon, e_dVar, rd h81, e_bMulA, e_bInt, e_dCall, rd h43, e_aNil, e_dSum, e_dAbs, ha, e_bAdd]
  refine ⟨.inl sm, lim2 _ (by simp), ?_⟩
  rw [e_bAddL]
  refine ⟨lim2 _ (by rw [hrl]; simp; lia), ?_⟩
  have := q a
  rw [List.map_append, ← hrl] at this
  rwa [show 2 * (m : Int) - 1 + (a : Int) = ((2 * m - 1 + a : Nat) : Int) by lia]
theorem one_body {R : Fw → Loc → Hp → Prop} {X : XS} {hp : Hp} {loc : Loc} {i : Nat} (p : PF E plain Os) (l : LF loc ns E plain Os) (hi : i < plain.length) (hn : ns.length ≤ 63) (e83 : loc 83 = some (.int (i : Nat))) (q : ∀ loc', LF loc' ns E plain Os → R .next loc' hp) : L_law_3 R X loc hp := by
  have hm := p.m4
  have hu : plain[i]? = some plain[i] := List.getElem?_eq_getElem hi
  have i78 := item_map (α := Unit) (f := V.int) hu
  unfold L_law_3
  refine sq ?_
  rw [e_sFor]
  refine ob_sizes hm (Nat.lt_of_le_of_lt (Nat.zero_le _) hi) hn l.l81 l.l43 fun a => ?_
  rw [it_lst]
  refine size_loop (ns := ns) (by simp) p hu _ loc ?_ l e83 fun loc' l' e83' => nsq ?_
  · intro t ht
    rcases List.mem_append.mp ht with h | h
    · exact (List.mem_range'_1.mp h).1
    · rw [List.mem_singleton.mp h]; lia
  · rw [e_sAsg, e_dCall, e_aCons, e_dVar, rd l'.l44, e_aCons, e_dBin, e_dVar, rd l'.l78, e_dVar, rd e83', e_bItemL]
    refine ⟨lim2 _ (by rw [List.length_map]; lia), .int plain[i], i78, ?_⟩
    rw [e_aNil]
    refine c_law_met p.hE ?_
    rw [e_gVar]
    have l2 := l'.upd (i := 85) (v := .lst ((metN E plain[i] 4 []).map .int)) (.inr (.inr (.inl rfl)))
    refine nsq ?_
    rw [e_sFor, e_dCall, e_aCons, e_dVar, rd l2.l81, e_aNil, e_dRange1, it_of (iter_rng (by decide) (by lia)), rng_nat]
    exact two_loop (by simp) p hu (List.range plain.length) _ (fun k hk => by simpa using hk) l2 ((upd_ne (by decide)).trans e83') us fun loc2 l3 => nx (q loc2 l3)
theorem one_loop {Q : Fw → Loc → Hp → Prop} {v : V} {hp0 hp : Hp} (hv : ∀ h h', same v h h') (p : PF E plain Os) (hn : ns.length ≤ 63) : ∀ (is : List Nat) (loc : Loc), (∀ i ∈ is, i < plain.length) → LF loc ns E plain Os → (∀ loc', Q .next loc' hp) → fLoop v hp0 (gVar 83) L_law_3 Q (is.map fun k => .int (k : Nat)) loc hp
  | [], loc, _, l, q => by exact q loc
  | i :: is, loc, hi, l, q => by
    rw [List.map_cons, fLoopC, e_gVar]
    refine one_body (i := i) p (l.upd (.inr (.inl rfl))) (hi i List.mem_cons_self) hn (by simp) fun loc' l' => ⟨hv _ _, ?_⟩
    exact one_loop hv p hn is loc' (fun k hk => hi k (List.mem_cons_of_mem _ hk)) l' q
end
end Mine
namespace Mine
theorem PF.of {E : List (Int × Int)} {plain : List Int} {Os : List (List Int)} {h0 : Int} {rb : Bool} (hE : E.length ≤ 6) (hI : ∀ e ∈ E, InE e) (ok : RunOk E h0 plain rb) (a : All2 E plain Os) : PF E plain Os := by
  have hlen := a.len
  have mem : ∀ o ∈ Os, (∀ n, n ∈ o ↔ n ∈ plain) ∧ o.length = plain.length := by
    intro o ho
    obtain ⟨h, rb', ok'⟩ := a.all o ho
    have : ∀ n, n ∈ o ↔ n ∈ plain := fun n => by rw [ok'.mem hI, ok.mem hI]
    exact ⟨this, same_len ok'.nd ok.nd this⟩
  have sl : ∀ u, (spotsOf Os u).length = plain.length := fun u => by simp [spotsOf, hlen]
  have sb : ∀ u ∈ plain, ∀ s ∈ spotsOf Os u, s ≤ plain.length - 1 := by
    intro u hu s hs
    obtain ⟨o, ho, rfl⟩ := List.mem_map.mp hs
    obtain ⟨h1, h2⟩ := mem o ho
    have := idx_lt ((h1 u).mpr hu)
    lia
  refine ⟨hE, hI, ok.len, sl, sb, fun u hu v hv => ?_⟩
  have hpos : 0 < plain.length := List.length_pos_of_mem hu
  have gk : ∀ w k (hk : k < Os.length), (spotsOf Os w)[k]? = some (Os[k].idxOf w) := fun w k hk => by
    unfold spotsOf
    rw [List.getElem?_map, List.getElem?_eq_getElem hk]; rfl
  have hd : spotsOf Os u = spotsOf Os v ∨ ∀ k, k < plain.length → (spotsOf Os u)[k]? ≠ (spotsOf Os v)[k]? := by
    by_cases c : u = v
    · subst c; exact .inl rfl
    · right
      intro k hk
      have hk' : k < Os.length := by lia
      rw [gk u k hk', gk v k hk']
      obtain ⟨h1, _⟩ := mem Os[k] (List.getElem_mem hk')
      intro z
      exact c (idx_inj ((h1 u).mpr hu) ((h1 v).mpr hv) (Option.some.inj z))
  have := less_spots (n1 := u) (n2 := v) (sl u) (sl v) hpos (sb u hu) (sb v hv) hd
  unfold js
  rw [this]
  refine decide_eq_decide.mpr ⟨fun h => ?_, fun h k hk => ?_⟩
  · obtain ⟨k, hk, he⟩ := List.getElem_of_mem hu
    have hk' : k < Os.length := by lia
    have := h k hk
    rw [gk u k hk', gk v k hk'] at this
    simp only [Option.getD_some] at this
    obtain ⟨rb', ok'⟩ := a.at k hk hk'
    rw [he] at ok'
    obtain ⟨h1, h2⟩ := mem Os[k] (List.getElem_mem hk')
    have hvo := (h1 v).mpr hv
    have huo := (h1 u).mpr hu
    have := after_met ok'.run hI huo (Os[k].idxOf v - Os[k].idxOf u) v hvo (by lia) (by lia)
    have hb := idx_lt hvo
    have h4 := ok'.len
    exact met_le (by lia) this
  · have hk' : k < Os.length := by lia
    rw [gk u k hk', gk v k hk']
    simp only [Option.getD_some]
    obtain ⟨rb', ok'⟩ := a.at k hk hk'
    obtain ⟨h1, _⟩ := mem Os[k] (List.getElem_mem hk')
    exact (met_before ok'.run 4 v h ((h1 v).mpr hv)).2
noncomputable def lawTail4 : DS :=
 (sSeq (sFor (dCall dRange1 (aCons (dVar 81) aNil)) (gVar 83)
 L_law_3)
 (sSeq (sRet (dCon (.bool true)))
 sSkip))
noncomputable def lawTail3 : DS :=
 (sSeq (sAsg (dComp [44] (dVar 78) (gVar 49) fNone (cElt (dBin bItem (dCall C_law_run (aCons (dVar 44) (aCons (dVar 49) aNil))) (dCon (.int 0))))) (gVar 80))
 (sSeq (sAsg (dCall dLen (aCons (dVar 78) aNil)) (gVar 81))
 (sSeq (sAsg (dComp [80] (dVar 78) (gVar 1) fNone (cElt (dComp [1] (dVar 80) (gVar 58) fNone (cElt (dMeth isLst dIndex (dVar 58) (aCons (dVar 1) aNil)))))) (gVar 82))
 (sSeq (sAsg (dComp [78, 82] (dCall dRange1 (aCons (dVar 81) aNil)) (gVar 83) fNone (cElt (dCall (dMakeF cW C_Whitespace_init) (aCons (dCall C_law_text (aCons (dBin bItem (dVar 78) (dVar 83)) (aCons (dBin bItem (dVar 82) (dVar 83)) aNil))) aNil)))) (gVar 84))
 lawTail4))))
noncomputable def lawTail2 : DS :=
 (sSeq (sIf (tBin bNe (dCall dSortZ (aCons (dVar 78) aNil)) (dComp [77] (dCall dRange1 (aCons (dCon (.int 4)) aNil)) (gVar 1) (tBin bNotIn (dVar 1) (dVar 77)) (cElt (dVar 1))))
 (sSeq (sRet (dCon (.bool false)))
 sSkip)
 sSkip)
 lawTail3)
noncomputable def lawTail : DS :=
 (sSeq (sIf (tOr (tBin bNe (dVar 79) (dLst aNil)) (tOr (tBin bIsNot (dVar 55) (dBin bNe (dVar 77) (dLst aNil))) (fun Q _ _ hp => Q false hp)))
 (sSeq (sRet (dCon (.bool false)))
 sSkip)
 sSkip)
 lawTail2)
theorem law_split : D_law =
 (sSeq (sAsg (dCall C_law_steps (aCons (dVar 43) aNil)) (gVar 44))
 (sSeq (sAsg (dLst (aCons (dCon (.int 0)) (aCons (dCon (.int 1)) (aCons (dCon (.int 2)) (aCons (dCon (.int 3)) aNil))))) (gVar 77))
 (sSeq (sFor (dCall dRange1 (aCons (dCon (.int 4)) aNil)) (gVar 76)
 L_law_4)
 (sSeq (sAsg (dCall C_law_run (aCons (dVar 44) (aCons (dNeg (dCon (.int 1))) aNil))) (gTup ([78, 55, 79].map gVar)))
 lawTail)))) := rfl
structure LA (loc : Loc) (ns : List Int) (E : List (Int × Int)) (plain : List Int) (rb : Bool) : Prop where
  l43 : loc 43 = some (.lst (ns.map .int))
  l44 : loc 44 = some (.lst (E.map vE))
  l77 : loc 77 = some (.lst ((endN E 4).map .int))
  l78 : loc 78 = some (.lst (plain.map .int))
  l55 : loc 55 = some (.bool rb)
  l79 : loc 79 = some (.lst [])
theorem tail4 {X : XS} {loc : Loc} {hp : Hp} {ns : List Int} {E : List (Int × Int)} {plain : List Int} {Os : List (List Int)} {Q : Fw → Loc → Hp → Prop} (hn : ns.length ≤ 63) (p : PF E plain Os) (l : LF loc ns E plain Os) (q : ∀ loc', Q (.ret (.bool true)) loc' hp) : lawTail4 Q X loc hp := by
  have hm := p.m4
  simp only [lawTail4, e_sSeq, e_sFor, e_dCall, e_aCons, e_dVar, rd l.l81, e_aNil, e_dRange1]
  rw [it_of (iter_rng (by decide) (by lia)), rng_nat]
  refine one_loop (by simp) p hn (List.range plain.length) loc (fun i hi => by simpa using hi) l fun loc' => ?_
  simp only [e_sRet, e_dCon]
  exact q loc'
theorem tail3 {X : XS} {loc : Loc} {hp : Hp} {ns : List Int} {E : List (Int × Int)} {plain : List Int} {rb : Bool} {h0 : Int} {Q : Fw → Loc → Hp → Prop} (hn : ns.length ≤ 63) (hE : E.length ≤ 6) (hI : ∀ e ∈ E, InE e) (ok : RunOk E h0 plain rb) (l : LA loc ns E plain rb) (q : ∀ loc' hp', Q (.ret (.bool true)) loc' hp') : lawTail3 Q X loc hp := by
  have hlim : lim = 1000000 := rfl
  have hm := ok.len
  simp only [lawTail3, e_sSeq, e_sAsg, e_dComp, e_dVar, rd l.l78, it_lst]
  refine orders_loop (by simp) hE hI (by simp [keepL, l.l44]) plain [] hp (by simp; lia) fun Os hp1 a2 g1 => ?_
  have p := PF.of hE hI ok a2
  have hOl := a2.len
  have hO : ∀ u ∈ plain, ∀ o ∈ Os, u ∈ o ∧ o.length ≤ 100 := by
    intro u hu o ho
    obtain ⟨h, rb', ok'⟩ := a2.all o ho
    refine ⟨by rw [ok'.mem hI, ← ok.mem hI]; exact hu, ?_⟩
    have := ok'.len; lia
  rw [List.nil_append]
  have m78 : (upd loc 80 (.lst (Os.map fun o => .lst (o.map .int)))) 78 = some (.lst (plain.map .int)) := by rw [upd_ne (by decide)]; exact l.l78
  simp only [e_gVar, e_dCall, e_aCons, e_dVar, rd m78, e_aNil, e_dLenL, List.length_map]
  refine ⟨by lia, ?_⟩
  have m78b : (upd (upd loc 80 (.lst (Os.map fun o => .lst (o.map .int)))) 81 (.int (plain.length : Nat))) 78 = some (.lst (plain.map .int)) := by rw [upd_ne (by decide)]; exact m78
  have m80 : (upd (upd loc 80 (.lst (Os.map fun o => .lst (o.map .int)))) 81 (.int (plain.length : Nat))) 80 = some (.lst (Os.map fun o => .lst (o.map .int))) := by rw [upd_ne (by decide)]; simp
  generalize hl2 : (upd (upd loc 80 (.lst (Os.map fun o => .lst (o.map .int)))) 81 (.int (plain.length : Nat))) = loc2 at *
  have m43 : loc2 43 = some (.lst (ns.map .int)) := by rw [← hl2, upd_ne (by decide), upd_ne (by decide)]; exact l.l43
  have m44 : loc2 44 = some (.lst (E.map vE)) := by rw [← hl2, upd_ne (by decide), upd_ne (by decide)]; exact l.l44
  have m81 : loc2 81 = some (.int (plain.length : Nat)) := by rw [← hl2]; simp
  rw [rd m78b, it_lst]
  refine cLp_pure V.int (fun _ => true) (fun u => .lst (vNs (spotsOf Os u))) plain [] hp1 (by simp; lia) (by simp) ?_ ?_
  · intro u hu acc ha R2 hR
    simp only [e_gVar, e_fNone, if_true]
    exact places_elt (hO u hu) (by lia) (by rw [upd_ne (by decide)]; simp [keepL, m80]) (by simp) ha (by simpa using hR)
  · have hf : plain.filter (fun _ => true) = plain := List.filter_eq_self.mpr (by simp)
    rw [hf, List.nil_append]
    have w78 : (upd loc2 82 (.lst (plain.map fun u => .lst (vNs (spotsOf Os u))))) 78 = some (.lst (plain.map .int)) := by rw [upd_ne (by decide)]; exact m78b
    have w81 : (upd loc2 82 (.lst (plain.map fun u => .lst (vNs (spotsOf Os u))))) 81 = some (.int (plain.length : Nat)) := by rw [upd_ne (by decide)]; exact m81
    have w82 : (upd loc2 82 (.lst (plain.map fun u => .lst (vNs (spotsOf Os u))))) 82 = some (.lst (plain.map fun u => .lst (vNs (spotsOf Os u)))) := by simp
    have w43 : (upd loc2 82 (.lst (plain.map fun u => .lst (vNs (spotsOf Os u))))) 43 = some (.lst (ns.map .int)) := by rw [upd_ne (by decide)]; exact m43
    have w44 : (upd loc2 82 (.lst (plain.map fun u => .lst (vNs (spotsOf Os u))))) 44 = some (.lst (E.map vE)) := by rw [upd_ne (by decide)]; exact m44
    generalize upd loc2 82 (.lst (plain.map fun u => .lst (vNs (spotsOf Os u)))) = loc3 at *
    simp only [rd w81, e_dRange1]
    rw [it_of (iter_rng (by decide) (by lia)), rng_nat]
    refine cLp_map (fun k : Nat => V.int (k : Nat)) (fun _ => true) (fun i => leadV Os plain.length (plain[i]?.getD 0)) (List.range plain.length) [] hp1 (by simp; lia) (by simp) ?_ ?_
    · intro i hi hp2 g2 acc ha R2 hR
      have hil : i < plain.length := by simpa using hi
      have hu : plain[i]? = some plain[i] := List.getElem?_eq_getElem hil
      have hup := List.getElem_mem hil
      have i78 := item_map (α := Unit) (f := V.int) hu
      have i82 := item_map (α := Unit) (f := fun u => V.lst (vNs (spotsOf Os u))) hu
      have z78 : (upd (keepL [78, 82] loc3) 83 (V.int (i : Nat))) 78 = some (.lst (plain.map .int)) := by rw [upd_ne (by decide)]; simp [keepL, w78]
      have z82 : (upd (keepL [78, 82] loc3) 83 (V.int (i : Nat))) 82 = some (.lst (plain.map fun u => .lst (vNs (spotsOf Os u)))) := by rw [upd_ne (by decide)]; simp [keepL, w82]
      have z83 : (upd (keepL [78, 82] loc3) 83 (V.int (i : Nat))) 83 = some (.int (i : Nat)) := by simp
      simp only [e_gVar, e_fNone, if_true, e_cElt, e_dCall, e_aCons, e_dBin, e_dVar, rd z78, rd z83, e_bItemL]
      refine ⟨ha, by simp; lia, .int plain[i], i78, ?_⟩
      simp only [rd z82, rd z83, e_bItemL]
      refine ⟨by simp; lia, _, i82, ?_⟩
      simp only [e_aNil]
      obtain ⟨t1, t2, t3, t4⟩ := p.txt hup
      have hsl := p.sl plain[i]
      refine c_law_text (by lia) (by lia) (by rw [hsl]; exact p.sb _ hup) ?_
      refine c_ws t1 (by lia) fun hp3 g3 => ?_
      rw [t3]
      have := hR hp3 g3
      simpa [leadV, hu] using this
    · intro hp2 g2
      have hf2 : (List.range plain.length).filter (fun _ => true) = List.range plain.length := List.filter_eq_self.mpr (by simp)
      rw [hf2, List.nil_append, map_range_get (leadV Os plain.length) plain]
      refine tail4 hn p ⟨by rw [upd_ne (by decide)]; exact w43, by rw [upd_ne (by decide)]; exact w44, by rw [upd_ne (by decide)]; exact w78, by rw [upd_ne (by decide)]; exact w81, by rw [upd_ne (by decide)]; exact w82, by simp⟩ fun loc' => q loc' hp2
theorem tail2 {X : XS} {loc : Loc} {hp : Hp} {ns : List Int} {E : List (Int × Int)} {plain : List Int} {rb : Bool} {h0 : Int} {Q : Fw → Loc → Hp → Prop} (hn : ns.length ≤ 63) (hE : E.length ≤ 6) (hI : ∀ e ∈ E, InE e) (ok : RunOk E h0 plain rb) (l : LA loc ns E plain rb) (q : ∀ loc' hp', Q (.ret (.bool true)) loc' hp') : lawTail2 Q X loc hp := by
  have hlim : lim = 1000000 := rfl
  have hm := ok.len
  simp only [lawTail2, e_sSeq, e_sIf, e_tBin, e_dCall, e_aCons, e_dVar, rd l.l78, e_aNil, e_dSortZ]
  refine ⟨by lia, ?_⟩
  simp only [e_dComp, e_dCall, e_aCons, e_dCon, e_aNil, e_dRange1, it_of (iter_rng (lo := 0) (hi := 4) (by decide) (by decide)), rng4]
  refine cLp_pure V.int (fun n => decide (n ∉ endN E 4)) V.int [0, 1, 2, 3] [] hp (by simp; lia) (by simp) ?_ ?_
  · intro n hn' acc ha R2 hR
    simp [↓rd l.l77, -Bool.exists_bool]
    by_cases c : n ∈ endN E 4
    · simp [c] at hR ⊢; exact hR
    · simp [c] at hR ⊢; exact ⟨ha, hR⟩
  · rw [List.nil_append, ← ok.sorted hI, e_neLs, ex_bool]
    simp only [ne_eq, not_true_eq_false, decide_false, Bool.false_eq_true, if_false, e_sSkip]
    exact tail3 hn hE hI ok l q
theorem tail1 {X : XS} {loc : Loc} {hp : Hp} {ns : List Int} {E : List (Int × Int)} {plain : List Int} {rb : Bool} {h0 : Int} {Q : Fw → Loc → Hp → Prop} (hn : ns.length ≤ 63) (hE : E.length ≤ 6) (hI : ∀ e ∈ E, InE e) (ok : RunOk E h0 plain rb) (l : LA loc ns E plain rb) (q : ∀ loc' hp', Q (.ret (.bool true)) loc' hp') : lawTail Q X loc hp := by
  have hlim : lim = 1000000 := rfl
  have n0 : ∀ (Q : V → Hp → Prop) hp, bNe (.lst []) (.lst []) Q hp = Q (.bool false) hp := fun Q hp => e_neL0 (a := [])
  simp only [lawTail, e_sSeq, e_sIf, e_tOr, e_tBin, e_dVar, rd l.l79, e_dLst, e_aNil, n0, ex_bool, rd l.l55, e_dBin, rd l.l77, e_neL0, e_bIsNot]
  refine ⟨by simp, ?_⟩
  simp only [Bool.false_eq_true, if_false]
  refine ⟨by simp, ?_⟩
  rw [← ok.ring hI, on_bb]
  simp only [beq_self_eq_true, Bool.not_true, Bool.false_eq_true, if_false, e_sSkip]
  exact tail2 hn hE hI ok l q
theorem law_ok (ns : List Int) (hn : ns.length ≤ 63) : C_law [.lst (ns.map .int)] (fun v _ => v = .bool true) noXA (fun _ => Option.none) := by
  have hlim : lim = 1000000 := rfl
  refine ⟨[(43, .lst (ns.map .int))], by simp [bdPos], ?_⟩
  rw [law_split]
  simp only [e_sSeq, e_sAsg, e_dCall, e_aCons, e_dVar, rd_loc, if_true, e_aNil]
  refine c_law_steps hn fun E hp1 hI hE g1 => ?_
  simp only [e_gVar, e_dLst, e_aCons, e_dCon, e_aNil]
  refine ⟨by simp; lia, ?_⟩
  simp only [e_sFor, e_dCall, e_aCons, e_dCon, e_aNil, e_dRange1, it_of (iter_rng (lo := 0) (hi := 4) (by decide) (by decide))]
  refine ends_loop (E := E) (by simp) hE _ 0 _ (by simp [upd]) (by simp [endN]) fun loc h77 hloc => ?_
  have hl4 : (rngList 0 4).length = 4 := rfl
  rw [hl4, Nat.zero_add] at h77
  have e44 : loc 44 = some (.lst (E.map vE)) := by rw [hloc 44 (by decide) (by decide)]; simp [upd]
  have e43 : loc 43 = some (.lst (ns.map .int)) := by rw [hloc 43 (by decide) (by decide)]; simp [upd, locOf_cons]
  simp only [rd e44, e_dNeg, e_dCon, ex_int', e_aNil]
  refine c_law_run hE hI fun hp2 plain rb g2 ok => ?_
  refine ⟨_, rfl, ?_⟩
  refine tail1 hn hE hI ok ⟨by simp [upd, e43], by simp [upd, e44], by simp [upd, h77], by simp [upd], by simp [upd], by simp [upd]⟩ fun loc' hp' => rfl
end Mine
open PySem PySem.W PySem.W.X PyProof.Rows PySem.W.ZRun Mine
set_option maxRecDepth 100000 in
set_option maxHeartbeats 0 in
theorem PySem.Challenge.cw_mr0354_01_holds : PySem.Challenge.rw_mr0354_01.Holds := by
  w_on
  refine Hd.holds ?_
  intro w s₀ s₁ mg mb G y fa o pm cd doc dV kV ho hd hcd hD hmg hg args vals as L hpre hlay hrd hwl hlo
  have KX : (Hd.K w.params).In s₁.heap := (Hd.kx y).keeps L.keeps
  refine Ground.open G ?_
  intro T B D TE TW
  wrow_args hpre hlay hrd hwl hlo
  have hfa : fa = 243 := by
    have e := hmg.symm.trans (mg_of KX T.g (show nsIn (Hd.K w.params) mainGlobals (Str.ofString "law") = some (some (.ref 243)) by kernel_rfl))
    cases e; rfl
  subst hfa
  all_lens
  rename_i ns _ _ _ _ _ _ _ _ _ _ _ _ _ _ _ hlen _ _ _
  clear hmg ho hD hcd hd y G B D TE TW
  have hlen' : ns.length ≤ 63 := by omega
  have hzK : (s₁.heap.get? sysModules).isSome = true := by rw [KX sysModules (Hd.ob w.params sysModules) (by kernel_rfl)]; rfl
  have tp : TopOk (P1 w s₁.heap (Hd.K w.params)) mg mb := ⟨KX, T.g, T.b, T.nolimit⟩
  have fn36 : FnOk (P1 w s₁.heap (Hd.K w.params)) 36 (nthS (bodyS (nthS mainS 4)) 1) (bdPos [0, 1]) := FnOk.pos2 ⟨KX 36 (Hd.ob w.params 36) (by kernel_rfl), (show (Hd.ob w.params 36).data = Data.func (Hd.fdO (Hd.ob w.params 36)) by kernel_rfl), codeRec_of KX (by kernel_rfl), (by kernel_rfl), (by kernel_rfl), (by kernel_rfl), (by kernel_rfl), (by kernel_rfl), (by decide +kernel)⟩ (fun x y => by kernel_rfl)
  have fn80 : FnOk (P1 w s₁.heap (Hd.K w.params)) 80 (nthS (bodyS (nthS mainS 6)) 1) (bdPos [0, 1]) := FnOk.pos2 ⟨KX 80 (Hd.ob w.params 80) (by kernel_rfl), (show (Hd.ob w.params 80).data = Data.func (Hd.fdO (Hd.ob w.params 80)) by kernel_rfl), codeRec_of KX (by kernel_rfl), (by kernel_rfl), (by kernel_rfl), (by kernel_rfl), (by kernel_rfl), (by kernel_rfl), (by decide +kernel)⟩ (fun x y => by kernel_rfl)
  have fn87 : FnOk (P1 w s₁.heap (Hd.K w.params)) 87 (nthS (bodyS (nthS mainS 6)) 2) (bdStar2 0 1 4) := FnOk.star2 ⟨KX 87 (Hd.ob w.params 87) (by kernel_rfl), (show (Hd.ob w.params 87).data = Data.func (Hd.fdO (Hd.ob w.params 87)) by kernel_rfl), codeRec_of KX (by kernel_rfl), (by kernel_rfl), (by kernel_rfl), (by kernel_rfl), (by kernel_rfl), (by kernel_rfl), (by decide +kernel)⟩ (fun x y rest => by cases rest <;> kernel_rfl)
  have fn73 : FnOk (P1 w s₁.heap (Hd.K w.params)) 73 (nthS (bodyS (nthS mainS 6)) 0) (bdDef1 0 10) := FnOk.def1 tp ⟨KX 73 (Hd.ob w.params 73) (by kernel_rfl), (show (Hd.ob w.params 73).data = Data.func (Hd.fdO (Hd.ob w.params 73)) by kernel_rfl), codeRec_of KX (by kernel_rfl), (by kernel_rfl), (by kernel_rfl), (by kernel_rfl), (by kernel_rfl), (by kernel_rfl), (by decide +kernel)⟩ (fun s x X => kp_binds X (fun S => by kernel_rfl))
  have fn127 : FnOk (P1 w s₁.heap (Hd.K w.params)) 127 (nthS (bodyS (nthS mainS 6)) 8) (bdPos [0]) := FnOk.pos1 ⟨KX 127 (Hd.ob w.params 127) (by kernel_rfl), (show (Hd.ob w.params 127).data = Data.func (Hd.fdO (Hd.ob w.params 127)) by kernel_rfl), codeRec_of KX (by kernel_rfl), (by kernel_rfl), (by kernel_rfl), (by kernel_rfl), (by kernel_rfl), (by kernel_rfl), (by decide +kernel)⟩ (fun x => by kernel_rfl)
  have ownCE : OwnCls "CycleError" 55 [.type "ValueError", .type "Exception", .type "BaseException", .type "object"] "ValueError.__new__" mg s₁.heap := own_of_in KX (topRead_of T) (by kernel_rfl) (by kernel_rfl)
  have fn92 : FnOk (P1 w s₁.heap (Hd.K w.params)) 92 (nthS (bodyS (nthS mainS 6)) 3) (bdPos [0]) := FnOk.pos1 ⟨KX 92 (Hd.ob w.params 92) (by kernel_rfl), (show (Hd.ob w.params 92).data = Data.func (Hd.fdO (Hd.ob w.params 92)) by kernel_rfl), codeRec_of KX (by kernel_rfl), (by kernel_rfl), (by kernel_rfl), (by kernel_rfl), (by kernel_rfl), (by kernel_rfl), (by decide +kernel)⟩ (fun x => by kernel_rfl)
  have fn99 : FnOk (P1 w s₁.heap (Hd.K w.params)) 99 (nthS (bodyS (nthS mainS 6)) 4) (bdPos [0]) := FnOk.pos1 ⟨KX 99 (Hd.ob w.params 99) (by kernel_rfl), (show (Hd.ob w.params 99).data = Data.func (Hd.fdO (Hd.ob w.params 99)) by kernel_rfl), codeRec_of KX (by kernel_rfl), (by kernel_rfl), (by kernel_rfl), (by kernel_rfl), (by kernel_rfl), (by kernel_rfl), (by decide +kernel)⟩ (fun x => by kernel_rfl)
  have fn106 : FnOk (P1 w s₁.heap (Hd.K w.params)) 106 (nthS (bodyS (nthS mainS 6)) 5) (bdPos [0]) := FnOk.pos1 ⟨KX 106 (Hd.ob w.params 106) (by kernel_rfl), (show (Hd.ob w.params 106).data = Data.func (Hd.fdO (Hd.ob w.params 106)) by kernel_rfl), codeRec_of KX (by kernel_rfl), (by kernel_rfl), (by kernel_rfl), (by kernel_rfl), (by kernel_rfl), (by kernel_rfl), (by decide +kernel)⟩ (fun x => by kernel_rfl)
  have fn120 : FnOk (P1 w s₁.heap (Hd.K w.params)) 120 (nthS (bodyS (nthS mainS 6)) 7) (bdStar1 0 21) := FnOk.star1 ⟨KX 120 (Hd.ob w.params 120) (by kernel_rfl), (show (Hd.ob w.params 120).data = Data.func (Hd.fdO (Hd.ob w.params 120)) by kernel_rfl), codeRec_of KX (by kernel_rfl), (by kernel_rfl), (by kernel_rfl), (by kernel_rfl), (by kernel_rfl), (by kernel_rfl), (by decide +kernel)⟩ (fun x rest => by cases rest <;> kernel_rfl)
  have fn158 : FnOk (P1 w s₁.heap (Hd.K w.params)) 158 (nthS (bodyS (nthS mainS 8)) 1) (bdPos [0, 25]) := FnOk.pos2 ⟨KX 158 (Hd.ob w.params 158) (by kernel_rfl), (show (Hd.ob w.params 158).data = Data.func (Hd.fdO (Hd.ob w.params 158)) by kernel_rfl), codeRec_of KX (by kernel_rfl), (by kernel_rfl), (by kernel_rfl), (by kernel_rfl), (by kernel_rfl), (by kernel_rfl), (by decide +kernel)⟩ (fun x y => by kernel_rfl)
  have fn165 : FnOk (P1 w s₁.heap (Hd.K w.params)) 165 (nthS (bodyS (nthS mainS 8)) 2) (bdPos [0]) := FnOk.pos1 ⟨KX 165 (Hd.ob w.params 165) (by kernel_rfl), (show (Hd.ob w.params 165).data = Data.func (Hd.fdO (Hd.ob w.params 165)) by kernel_rfl), codeRec_of KX (by kernel_rfl), (by kernel_rfl), (by kernel_rfl), (by kernel_rfl), (by kernel_rfl), (by kernel_rfl), (by decide +kernel)⟩ (fun x => by kernel_rfl)
  have fn172 : FnOk (P1 w s₁.heap (Hd.K w.params)) 172 (nthS (bodyS (nthS mainS 8)) 3) (bdPos [0, 37]) := FnOk.pos2 ⟨KX 172 (Hd.ob w.params 172) (by kernel_rfl), (show (Hd.ob w.params 172).data = Data.func (Hd.fdO (Hd.ob w.params 172)) by kernel_rfl), codeRec_of KX (by kernel_rfl), (by kernel_rfl), (by kernel_rfl), (by kernel_rfl), (by kernel_rfl), (by kernel_rfl), (by decide +kernel)⟩ (fun x y => by kernel_rfl)
  have fn193 : FnOk (P1 w s₁.heap (Hd.K w.params)) 193 (nthS (bodyS (nthS mainS 8)) 6) (bdPos [0, 39]) := FnOk.pos2 ⟨KX 193 (Hd.ob w.params 193) (by kernel_rfl), (show (Hd.ob w.params 193).data = Data.func (Hd.fdO (Hd.ob w.params 193)) by kernel_rfl), codeRec_of KX (by kernel_rfl), (by kernel_rfl), (by kernel_rfl), (by kernel_rfl), (by kernel_rfl), (by kernel_rfl), (by decide +kernel)⟩ (fun x y => by kernel_rfl)
  have fn214 : FnOk (P1 w s₁.heap (Hd.K w.params)) 214 (nthS mainS 10) (bdPos [43]) := FnOk.pos1 ⟨KX 214 (Hd.ob w.params 214) (by kernel_rfl), (show (Hd.ob w.params 214).data = Data.func (Hd.fdO (Hd.ob w.params 214)) by kernel_rfl), codeRec_of KX (by kernel_rfl), (by kernel_rfl), (by kernel_rfl), (by kernel_rfl), (by kernel_rfl), (by kernel_rfl), (by decide +kernel)⟩ (fun x => by kernel_rfl)
  have fn219 : FnOk (P1 w s₁.heap (Hd.K w.params)) 219 (nthS mainS 11) (bdPos [44, 49]) := FnOk.pos2 ⟨KX 219 (Hd.ob w.params 219) (by kernel_rfl), (show (Hd.ob w.params 219).data = Data.func (Hd.fdO (Hd.ob w.params 219)) by kernel_rfl), codeRec_of KX (by kernel_rfl), (by kernel_rfl), (by kernel_rfl), (by kernel_rfl), (by kernel_rfl), (by kernel_rfl), (by decide +kernel)⟩ (fun x y => by kernel_rfl)
  have fn226 : FnOk (P1 w s₁.heap (Hd.K w.params)) 226 (nthS mainS 12) (bdPos [1, 68]) := FnOk.pos2 ⟨KX 226 (Hd.ob w.params 226) (by kernel_rfl), (show (Hd.ob w.params 226).data = Data.func (Hd.fdO (Hd.ob w.params 226)) by kernel_rfl), codeRec_of KX (by kernel_rfl), (by kernel_rfl), (by kernel_rfl), (by kernel_rfl), (by kernel_rfl), (by kernel_rfl), (by decide +kernel)⟩ (fun x y => by kernel_rfl)
  have fn233 : FnOk (P1 w s₁.heap (Hd.K w.params)) 233 (nthS mainS 13) (bdPos [68, 71]) := FnOk.pos2 ⟨KX 233 (Hd.ob w.params 233) (by kernel_rfl), (show (Hd.ob w.params 233).data = Data.func (Hd.fdO (Hd.ob w.params 233)) by kernel_rfl), codeRec_of KX (by kernel_rfl), (by kernel_rfl), (by kernel_rfl), (by kernel_rfl), (by kernel_rfl), (by kernel_rfl), (by decide +kernel)⟩ (fun x y => by kernel_rfl)
  have fn238 : FnOk (P1 w s₁.heap (Hd.K w.params)) 238 (nthS mainS 14) (bdPos [44, 1]) := FnOk.pos2 ⟨KX 238 (Hd.ob w.params 238) (by kernel_rfl), (show (Hd.ob w.params 238).data = Data.func (Hd.fdO (Hd.ob w.params 238)) by kernel_rfl), codeRec_of KX (by kernel_rfl), (by kernel_rfl), (by kernel_rfl), (by kernel_rfl), (by kernel_rfl), (by kernel_rfl), (by decide +kernel)⟩ (fun x y => by kernel_rfl)
  have fn243 : FnOk (P1 w s₁.heap (Hd.K w.params)) 243 (nthS mainS 15) (bdPos [43]) := FnOk.pos1 ⟨KX 243 (Hd.ob w.params 243) (by kernel_rfl), (show (Hd.ob w.params 243).data = Data.func (Hd.fdO (Hd.ob w.params 243)) by kernel_rfl), codeRec_of KX (by kernel_rfl), (by kernel_rfl), (by kernel_rfl), (by kernel_rfl), (by kernel_rfl), (by kernel_rfl), (by decide +kernel)⟩ (fun x => by kernel_rfl)
  have F : Top1 w s₁.heap (Hd.K w.params) mg mb := {
    tp := tp
    hz := hzK
    hset := KF.slot_mset
    at__NodeInfo_node := { toClsP := ⟨(by kernel_rfl), (by kernel_rfl), (by kernel_rfl), (by kernel_rfl)⟩, p := ⟨41, fun _ => by kernel_rfl, (by kernel_rfl), (by kernel_rfl), (by kernel_rfl)⟩, lt := by decide }
    at__NodeInfo_npredecessors := { toClsP := ⟨(by kernel_rfl), (by kernel_rfl), (by kernel_rfl), (by kernel_rfl)⟩, p := ⟨42, fun _ => by kernel_rfl, (by kernel_rfl), (by kernel_rfl), (by kernel_rfl)⟩, lt := by decide }
    at__NodeInfo_successors := { toClsP := ⟨(by kernel_rfl), (by kernel_rfl), (by kernel_rfl), (by kernel_rfl)⟩, p := ⟨43, fun _ => by kernel_rfl, (by kernel_rfl), (by kernel_rfl), (by kernel_rfl)⟩, lt := by decide }
    fn_NodeInfo_init := fn36
    at_TS__node2info := { toClsP := ⟨(by kernel_rfl), (by kernel_rfl), (by kernel_rfl), (by kernel_rfl)⟩, free := (by kernel_rfl), hd := (by kernel_rfl) }
    mk__NodeInfo := ⟨(by kernel_rfl), (by kernel_rfl), (by kernel_rfl)⟩
    kp__NodeInfo := (by kernel_rfl)
    g__NodeInfo := mg_of KX T.g (by kernel_rfl)
    fn_TS__get_nodeinfo := fn80
    at_TS__ready_nodes := { toClsP := ⟨(by kernel_rfl), (by kernel_rfl), (by kernel_rfl), (by kernel_rfl)⟩, free := (by kernel_rfl), hd := (by kernel_rfl) }
    mt_TS__get_nodeinfo := { toClsP := ⟨(by kernel_rfl), (by kernel_rfl), (by kernel_rfl), (by kernel_rfl)⟩, fn := (by kernel_rfl), ty := (by kernel_rfl) }
    kp_TS__get_nodeinfo := (by kernel_rfl)
    b_len := (T.builtins _ (by decide +kernel)).trans (by kernel_rfl)
    n_len := ns_none_of KX T.g (by kernel_rfl)
    fn_TS_add := fn87
    at_TS__npassedout := { toClsP := ⟨(by kernel_rfl), (by kernel_rfl), (by kernel_rfl), (by kernel_rfl)⟩, free := (by kernel_rfl), hd := (by kernel_rfl) }
    at_TS__nfinished := { toClsP := ⟨(by kernel_rfl), (by kernel_rfl), (by kernel_rfl), (by kernel_rfl)⟩, free := (by kernel_rfl), hd := (by kernel_rfl) }
    fn_TS_init := fn73
    b_set := (T.builtins _ (by decide +kernel)).trans (by kernel_rfl)
    n_set := ns_none_of KX T.g (by kernel_rfl)
    b_iter := (T.builtins _ (by decide +kernel)).trans (by kernel_rfl)
    n_iter := ns_none_of KX T.g (by kernel_rfl)
    mat0 := Mat.built (P := P1 w s₁.heap (Hd.K w.params)) (by rw [isSubtype_type]; kernel_rfl) (by rw [isSubtype_type]; kernel_rfl) (by rw [isSubtype_type]; kernel_rfl)
    b_StopIteration := (T.builtins _ (by decide +kernel)).trans (by kernel_rfl)
    n_StopIteration := ns_none_of KX T.g (by kernel_rfl)
    fn_TS__find_cycle := fn127
    mt_TS__find_cycle := { toClsP := ⟨(by kernel_rfl), (by kernel_rfl), (by kernel_rfl), (by kernel_rfl)⟩, fn := (by kernel_rfl), ty := (by kernel_rfl) }
    kp_TS__find_cycle := (by kernel_rfl)
    own_CE := ownCE
    g_CycleError := mg_of KX T.g (by kernel_rfl)
    fn_TS_prepare := fn92
    b_tuple := (T.builtins _ (by decide +kernel)).trans (by kernel_rfl)
    n_tuple := ns_none_of KX T.g (by kernel_rfl)
    g__NODE_OUT := ex_int KX T.g (by kernel_rfl)
    fn_TS_get_ready := fn99
    b_bool := (T.builtins _ (by decide +kernel)).trans (by kernel_rfl)
    n_bool := ns_none_of KX T.g (by kernel_rfl)
    fn_TS_is_active := fn106
    g__NODE_DONE := ex_int KX T.g (by kernel_rfl)
    fn_TS_done := fn120
    at_Whitespace_raw := { toClsP := ⟨(by kernel_rfl), (by kernel_rfl), (by kernel_rfl), (by kernel_rfl)⟩, free := (by kernel_rfl), hd := (by kernel_rfl) }
    ca_Whitespace_S := ex_str (by kernel_rfl)
    rd_Whitespace := (by kernel_rfl)
    g_Whitespace := mg_of KX T.g (by kernel_rfl)
    ca_Whitespace_T := ex_str (by kernel_rfl)
    at_Whitespace_n := { toClsP := ⟨(by kernel_rfl), (by kernel_rfl), (by kernel_rfl), (by kernel_rfl)⟩, free := (by kernel_rfl), hd := (by kernel_rfl) }
    at_Whitespace_nt := { toClsP := ⟨(by kernel_rfl), (by kernel_rfl), (by kernel_rfl), (by kernel_rfl)⟩, free := (by kernel_rfl), hd := (by kernel_rfl) }
    at_Whitespace_norm := { toClsP := ⟨(by kernel_rfl), (by kernel_rfl), (by kernel_rfl), (by kernel_rfl)⟩, free := (by kernel_rfl), hd := (by kernel_rfl) }
    at_Whitespace_is_simple := { toClsP := ⟨(by kernel_rfl), (by kernel_rfl), (by kernel_rfl), (by kernel_rfl)⟩, free := (by kernel_rfl), hd := (by kernel_rfl) }
    fn_Whitespace_init := fn158
    b_max := (T.builtins _ (by decide +kernel)).trans (by kernel_rfl)
    n_max := ns_none_of KX T.g (by kernel_rfl)
    fn_Whitespace_longest_run_of_spaces := fn165
    b_range := (T.builtins _ (by decide +kernel)).trans (by kernel_rfl)
    n_range := ns_none_of KX T.g (by kernel_rfl)
    fn_Whitespace_indent_level := fn172
    mt_Whitespace_longest_run_of_spaces := { toClsP := ⟨(by kernel_rfl), (by kernel_rfl), (by kernel_rfl), (by kernel_rfl)⟩, fn := (by kernel_rfl), ty := (by kernel_rfl) }
    kp_Whitespace_longest_run_of_spaces := (by kernel_rfl)
    mt_Whitespace_indent_level := { toClsP := ⟨(by kernel_rfl), (by kernel_rfl), (by kernel_rfl), (by kernel_rfl)⟩, fn := (by kernel_rfl), ty := (by kernel_rfl) }
    kp_Whitespace_indent_level := (by kernel_rfl)
    fn_Whitespace_less := fn193
    b_min := (T.builtins _ (by decide +kernel)).trans (by kernel_rfl)
    n_min := ns_none_of KX T.g (by kernel_rfl)
    b_sum := (T.builtins _ (by decide +kernel)).trans (by kernel_rfl)
    n_sum := ns_none_of KX T.g (by kernel_rfl)
    fn_law_steps := fn214
    mk_TS := ⟨(by kernel_rfl), (by kernel_rfl), (by kernel_rfl)⟩
    kp_TS := (by kernel_rfl)
    g_TS := mg_of KX T.g (by kernel_rfl)
    mt_TS_add := { toClsP := ⟨(by kernel_rfl), (by kernel_rfl), (by kernel_rfl), (by kernel_rfl)⟩, fn := (by kernel_rfl), ty := (by kernel_rfl) }
    sg_TS_add := (by kernel_rfl)
    tk_TS_add := (by kernel_rfl)
    ci_TS := (by kernel_rfl)
    fi_TS_add := (by kernel_rfl)
    kp_TS_add := (by kernel_rfl)
    mt_TS_prepare := { toClsP := ⟨(by kernel_rfl), (by kernel_rfl), (by kernel_rfl), (by kernel_rfl)⟩, fn := (by kernel_rfl), ty := (by kernel_rfl) }
    kp_TS_prepare := (by kernel_rfl)
    mat1 := Mat.own (P := P1 w s₁.heap (Hd.K w.params)) ownCE (by decide +kernel)
    mt_TS_is_active := { toClsP := ⟨(by kernel_rfl), (by kernel_rfl), (by kernel_rfl), (by kernel_rfl)⟩, fn := (by kernel_rfl), ty := (by kernel_rfl) }
    kp_TS_is_active := (by kernel_rfl)
    mt_TS_get_ready := { toClsP := ⟨(by kernel_rfl), (by kernel_rfl), (by kernel_rfl), (by kernel_rfl)⟩, fn := (by kernel_rfl), ty := (by kernel_rfl) }
    kp_TS_get_ready := (by kernel_rfl)
    b_isinstance := (T.builtins _ (by decide +kernel)).trans (by kernel_rfl)
    n_isinstance := ns_none_of KX T.g (by kernel_rfl)
    b_sorted := (T.builtins _ (by decide +kernel)).trans (by kernel_rfl)
    n_sorted := ns_none_of KX T.g (by kernel_rfl)
    mt_TS_done := { toClsP := ⟨(by kernel_rfl), (by kernel_rfl), (by kernel_rfl), (by kernel_rfl)⟩, fn := (by kernel_rfl), ty := (by kernel_rfl) }
    kp_TS_done := (by kernel_rfl)
    fn_law_run := fn219
    fn_law_text := fn226
    fn_law_column := fn233
    fn_law_met := fn238
    kp_law_steps := (by kernel_rfl)
    g__law_steps := mg_of KX T.g (by kernel_rfl)
    kp_law_run := (by kernel_rfl)
    g__law_run := mg_of KX T.g (by kernel_rfl)
    kp_law_text := (by kernel_rfl)
    g__law_text := mg_of KX T.g (by kernel_rfl)
    mk_Whitespace := ⟨(by kernel_rfl), (by kernel_rfl), (by kernel_rfl)⟩
    kp_Whitespace := (by kernel_rfl)
    b_list := (T.builtins _ (by decide +kernel)).trans (by kernel_rfl)
    n_list := ns_none_of KX T.g (by kernel_rfl)
    b_abs := (T.builtins _ (by decide +kernel)).trans (by kernel_rfl)
    n_abs := ns_none_of KX T.g (by kernel_rfl)
    kp_law_column := (by kernel_rfl)
    g__law_column := mg_of KX T.g (by kernel_rfl)
    kp_law_met := (by kernel_rfl)
    g__law_met := mg_of KX T.g (by kernel_rfl)
    mt_Whitespace_less := { toClsP := ⟨(by kernel_rfl), (by kernel_rfl), (by kernel_rfl), (by kernel_rfl)⟩, fn := (by kernel_rfl), ty := (by kernel_rfl) }
    kp_Whitespace_less := (by kernel_rfl)
    fn_law := fn243 }
  obtain ⟨vs, hpl, hia⟩ := script_plain L
  exact glue (k_all F) (by decide) rfl hg hpl hia (law_ok ns hlen') (fun _ => rfl) (by first | kernel_rfl | wrow_post)
