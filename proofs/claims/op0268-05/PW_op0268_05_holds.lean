import PyProof.Rows.All
import Wide.All
import OpenK.AllK
import Wide.FinOn
import PySem.Challenge.RW_op0268_05
set_option Elab.async false
namespace Mine
open PySem


inductive AV where
  | none
  | bool (b : Bool)
  | int (i : Int)
  | str (s : Str)
  | tup (vs : List AV)
  | lst (vs : List AV)
  | obj (i : Nat)
  | val (v : Value)
  | rng (a c : Int) (n : Nat)
  | nxt (i : Nat)
  deriving Inhabited

structure Wd where
  φ : List Addr
  ι : List (Addr × Obj)

mutual
inductive VR (W : Wd) : AV → Value → Prop
  | none : VR W .none .none
  | bool (b : Bool) : VR W (.bool b) (.bool b)
  | int (i : Int) (t : Tok) : VR W (.int i) (.int i t)
  | str (x : Str) (t : Tok) : VR W (.str x) (.str x t)
  | tup {a : Addr} {items : Array Value} {n : Nat} {as : List AV} : (a, ({ cls := .type "tuple", data := .seq items n } : Obj)) ∈ W.ι → VRs W as items.toList → VR W (.tup as) (.ref a)
  | lst {a : Addr} {items : Array Value} {n : Nat} {as : List AV} : (a, ({ cls := .type "list", data := .seq items n } : Obj)) ∈ W.ι → VRs W as items.toList → VR W (.lst as) (.ref a)
  | obj {i : Nat} {a : Addr} : W.φ[i]? = some a → VR W (.obj i) (.ref a)
  | val (v : Value) : VR W (.val v) v
  | rng {r : Addr} {a b c : Int} {t u v : Tok} {n : Nat} : (r, ({ cls := .type "range", data := .fields #[.int a t, .int b u, .int c v] } : Obj)) ∈ W.ι → Builtin.Range.small a b c = true → Builtin.Range.rangeSize a b c = n → VR W (.rng a c n) (.ref r)
  | nxt {i : Nat} {a m : Addr} : W.φ[i]? = some a → (m, ({ cls := .type "method-wrapper", data := .fields #[.builtin "list_iterator.__next__", .ref a] } : Obj)) ∈ W.ι → VR W (.nxt i) (.ref m)
inductive VRs (W : Wd) : List AV → List Value → Prop
  | nil : VRs W [] []
  | cons {a : AV} {v : Value} {as : List AV} {vs : List Value} : VR W a v → VRs W as vs → VRs W (a :: as) (v :: vs)
end

structure Wd.Le (W W' : Wd) : Prop where
  φ : ∃ t, W'.φ = W.φ ++ t
  ι : ∀ p ∈ W.ι, p ∈ W'.ι

theorem Wd.Le.refl (W : Wd) : W.Le W := ⟨⟨[], by simp⟩, fun u1 h => h⟩
theorem Wd.Le.app {W : Wd} (l : List Addr) : W.Le ⟨W.φ ++ l, W.ι⟩ := ⟨⟨l, rfl⟩, fun u1 h => h⟩
theorem Wd.Le.trans {W W' W'' : Wd} (x : W.Le W') (y : W'.Le W'') : W.Le W'' := by
  obtain ⟨t, ht⟩ := x.φ
  obtain ⟨u, hu⟩ := y.φ
  exact ⟨⟨t ++ u, by rw [hu, ht, List.append_assoc]⟩, fun p hp => y.ι p (x.ι p hp)⟩
theorem Wd.Le.at {W W' : Wd} (x : W.Le W') {i : Nat} {a : Addr} (h : W.φ[i]? = some a) : W'.φ[i]? = some a := by
  obtain ⟨t, ht⟩ := x.φ
  rw [ht, List.getElem?_append_left]
  · exact h
  · exact (List.getElem?_eq_some_iff.mp h).1
theorem Wd.Le.mem {W W' : Wd} (x : W.Le W') {a : Addr} (h : a ∈ W.φ) : a ∈ W'.φ := by
  obtain ⟨t, ht⟩ := x.φ
  rw [ht]; exact List.mem_append_left _ h

theorem VR.mono {W W' : Wd} (x : W.Le W') {a : AV} {v : Value} (h : VR W a v) : VR W' a v :=
  VR.rec (motive_1 := fun a v u1 => VR W' a v) (motive_2 := fun as vs u1 => VRs W' as vs) .none .bool .int .str (fun h1 u1 ih => .tup (x.ι _ h1) ih) (fun h1 u1 ih => .lst (x.ι _ h1) ih) (fun h => .obj (x.at h)) .val (fun h1 h2 h3 => .rng (x.ι _ h1) h2 h3) (fun h1 h2 => .nxt (x.at h1) (x.ι _ h2)) .nil (fun u1 u2 h r => .cons h r) h
theorem VRs.mono {W W' : Wd} (x : W.Le W') {as : List AV} {vs : List Value} (h : VRs W as vs) : VRs W' as vs :=
  VRs.rec (motive_1 := fun a v u1 => VR W' a v) (motive_2 := fun as vs u1 => VRs W' as vs) .none .bool .int .str (fun h1 u1 ih => .tup (x.ι _ h1) ih) (fun h1 u1 ih => .lst (x.ι _ h1) ih) (fun h => .obj (x.at h)) .val (fun h1 h2 h3 => .rng (x.ι _ h1) h2 h3) (fun h1 h2 => .nxt (x.at h1) (x.ι _ h2)) .nil (fun u1 u2 h r => .cons h r) h

section
variable {W : Wd} {a b : AV} {v w : Value} {as bs : List AV} {vs ws : List Value}
theorem VRs.length (h : VRs W as vs) : as.length = vs.length := by
  induction vs generalizing as with
  | nil => cases h; rfl
  | cons v vs ih => cases h with | cons _ r => simp [ih r]
theorem VRs.append (h : VRs W as vs) (k : VRs W bs ws) : VRs W (as ++ bs) (vs ++ ws) := by
  induction vs generalizing as with
  | nil => cases h; exact k
  | cons v vs ih => cases h with | cons h r => exact .cons h (ih r)
theorem VRs.get (h : VRs W as vs) {k : Nat} {a : AV} (e : as[k]? = some a) : ∃ v, vs[k]? = some v ∧ VR W a v := by
  induction vs generalizing as k with
  | nil => cases h; simp at e
  | cons v vs ih =>
    cases h with
    | cons h r =>
      cases k with
      | zero => simp at e; subst e; exact ⟨v, rfl, h⟩
      | succ k => simp at e; exact ih r e
theorem VRs.set (h : VRs W as vs) (k : Nat) (x : VR W a v) : VRs W (as.set k a) (vs.set k v) := by
  induction vs generalizing as k with
  | nil => cases h; simp; exact .nil
  | cons u vs ih =>
    cases h with
    | cons h r =>
      cases k with
      | zero => exact .cons x r
      | succ k => exact .cons h (ih r k)
theorem VRs.eraseIdx (h : VRs W as vs) (k : Nat) : VRs W (as.eraseIdx k) (vs.eraseIdx k) := by
  induction vs generalizing as k with
  | nil => cases h; simp; exact .nil
  | cons u vs ih =>
    cases h with
    | cons h r =>
      cases k with
      | zero => exact r
      | succ k => exact .cons h (ih r k)
theorem VRs.one (h : VR W a v) : VRs W [a] [v] := .cons h .nil
theorem VRs.two (h : VR W a v) (k : VR W b w) : VRs W [a, b] [v, w] := .cons h (.cons k .nil)
end

inductive AO where
  | list (vs : List AV)
  | dict (es : List (Int × AV)) (ep : Nat)
  | inst (C : Addr) (d : Nat)
  | attrs (fs : List (Str × AV))
  | slots (C : Addr) (vs : List (Option AV))
  | set (S : Int → Bool) (n : Nat)
  | liter (l k : Nat)
  | dead
  deriving Inhabited

noncomputable def AttrR (W : Wd) (f : Str × AV) (e : DictEntry) : Prop := (∃ t, e.key = .str f.1 t) ∧ VR W f.2 e.val
inductive AttrsR (W : Wd) : List (Str × AV) → List DictEntry → Prop
  | nil : AttrsR W [] []
  | cons {f e fs es} : AttrR W f e → AttrsR W fs es → AttrsR W (f :: fs) (e :: es)
theorem AttrR.mono {W W' : Wd} (x : W.Le W') {f e} (h : AttrR W f e) : AttrR W' f e := ⟨h.1, h.2.mono x⟩
theorem AttrsR.mono {W W' : Wd} (x : W.Le W') {fs es} (h : AttrsR W fs es) : AttrsR W' fs es := by
  induction h with
  | nil => exact .nil
  | cons h _ ih => exact .cons (h.mono x) ih

noncomputable def SlotR (W : Wd) : Option AV → Option Value → Prop
  | none, none => True
  | some a, some v => VR W a v
  | _, _ => False
inductive SlotsR (W : Wd) : List (Option AV) → List (Option Value) → Prop
  | nil : SlotsR W [] []
  | cons {a v as vs} : SlotR W a v → SlotsR W as vs → SlotsR W (a :: as) (v :: vs)
theorem SlotR.mono {W W' : Wd} (x : W.Le W') : ∀ {a v}, SlotR W a v → SlotR W' a v
  | none, none, _ => trivial
  | some _, some _, h => VR.mono x h
theorem SlotsR.mono {W W' : Wd} (x : W.Le W') {as vs} (h : SlotsR W as vs) : SlotsR W' as vs := by
  induction h with
  | nil => exact .nil
  | cons h _ ih => exact .cons (h.mono x) ih

noncomputable def PairR (W : Wd) (p : Int × AV) (e : DictEntry) : Prop := (∃ t, e.key = .int p.1 t) ∧ e.hash = hashInt p.1 ∧ VR W p.2 e.val
inductive PairsR (W : Wd) : List (Int × AV) → List DictEntry → Prop
  | nil : PairsR W [] []
  | cons {f e fs es} : PairR W f e → PairsR W fs es → PairsR W (f :: fs) (e :: es)
theorem PairsR.mono {W W' : Wd} (x : W.Le W') {fs es} (h : PairsR W fs es) : PairsR W' fs es := by
  induction h with
  | nil => exact .nil
  | cons h _ ih => exact .cons ⟨h.1, h.2.1, h.2.2.mono x⟩ ih

noncomputable def OR (W : Wd) (h : Heap) : AO → Addr → Prop
  | .list vs, a => ∃ (items : Array Value) (n : Nat), h.get? a = some { cls := .type "list", data := .seq items n } ∧ VRs W vs items.toList
  | .dict es ep, a => ∃ (entries : Array DictEntry), h.get? a = some { cls := .type "dict", data := .dict entries ep } ∧ PairsR W es entries.toList ∧ (es.map (fun x => x.1)).Nodup
  | .inst C d, a => ∃ ad, W.φ[d]? = some ad ∧ h.get? a = some ⟨.ref C, some ad, .plain, #[]⟩
  | .attrs fs, a => ∃ (entries : List DictEntry) (n : Nat), h.get? a = some { cls := .type "dict", data := .dict entries.toArray n } ∧ AttrsR W fs entries
  | .slots C vs, a => ∃ (sl : Array (Option Value)) (ad : Addr), h.get? a = some ⟨.ref C, some ad, .plain, sl⟩ ∧ SlotsR W vs sl.toList ∧ (ad, ({ cls := .type "dict", data := .dict #[] } : Obj)) ∈ W.ι
  | .set S n, a => ∃ o : Obj, h.get? a = some o ∧ o.IntSetOf S n ∧ n < scanBound
  | .liter l k, a => ∃ la, W.φ[l]? = some la ∧ h.get? a = some { cls := .type "list_iterator", data := .fields #[.ref la, .int k 0] }
  | .dead, a => ∃ o, h.get? a = some o

theorem OR.mono {W W' : Wd} (x : W.Le W') {h : Heap} {o : AO} {a : Addr} (r : OR W h o a) : OR W' h o a := by
  cases o with
  | list vs => obtain ⟨items, n, h1, h2⟩ := r; exact ⟨items, n, h1, h2.mono x⟩
  | dict es ep => obtain ⟨en, h1, h2, h3⟩ := r; exact ⟨en, h1, h2.mono x, h3⟩
  | inst C d => obtain ⟨ad, h1, h2⟩ := r; exact ⟨ad, x.at h1, h2⟩
  | attrs fs => obtain ⟨en, n, h1, h2⟩ := r; exact ⟨en, n, h1, h2.mono x⟩
  | slots C vs => obtain ⟨sl, ad, h1, h2, h3⟩ := r; exact ⟨sl, ad, h1, h2.mono x, x.ι _ h3⟩
  | set S n => exact r
  | liter l k => obtain ⟨la, h1, h2⟩ := r; exact ⟨la, x.at h1, h2⟩
  | dead => exact r

theorem OR.same {W : Wd} {h h' : Heap} {o : AO} {a : Addr} (e : ∀ x, h.get? a = some x → h'.get? a = some x) (r : OR W h o a) : OR W h' o a := by
  cases o with
  | list vs => obtain ⟨items, n, h1, h2⟩ := r; exact ⟨items, n, e _ h1, h2⟩
  | dict es ep => obtain ⟨en, h1, h2⟩ := r; exact ⟨en, e _ h1, h2⟩
  | inst C d => obtain ⟨ad, h1, h2⟩ := r; exact ⟨ad, h1, e _ h2⟩
  | attrs fs => obtain ⟨en, n, h1, h2⟩ := r; exact ⟨en, n, e _ h1, h2⟩
  | slots C vs => obtain ⟨sl, ad, h1, h2, h3⟩ := r; exact ⟨sl, ad, e _ h1, h2, h3⟩
  | set S n => obtain ⟨o, h1, h2⟩ := r; exact ⟨o, e _ h1, h2⟩
  | liter l k => obtain ⟨la, h1, h2⟩ := r; exact ⟨la, h1, e _ h2⟩
  | dead => obtain ⟨o, h1⟩ := r; exact ⟨o, e _ h1⟩
theorem OR.there {W : Wd} {h : Heap} {o : AO} {a : Addr} (r : OR W h o a) : ∃ x, h.get? a = some x := by
  cases o with
  | list vs => obtain ⟨items, n, h1, h2⟩ := r; exact ⟨_, h1⟩
  | dict es ep => obtain ⟨en, h1, h2⟩ := r; exact ⟨_, h1⟩
  | inst C d => obtain ⟨ad, h1, h2⟩ := r; exact ⟨_, h2⟩
  | attrs fs => obtain ⟨en, n, h1, h2⟩ := r; exact ⟨_, h1⟩
  | slots C vs => obtain ⟨sl, ad, h1, h2, h3⟩ := r; exact ⟨_, h1⟩
  | set S n => obtain ⟨o, h1, h2⟩ := r; exact ⟨_, h1⟩
  | liter l k => obtain ⟨la, h1, h2⟩ := r; exact ⟨_, h2⟩
  | dead => obtain ⟨o, h1⟩ := r; exact ⟨_, h1⟩

structure Bx where
  prog : Program
  w : World
  h₀ : Heap
  mg : Str → Option Value
  mb : Str → Option Value
  K : W.Frag
structure Cx extends Bx where
  fr : List Env
  calm : Bool := true
noncomputable def Cx.push (C : Cx) (env : Env) : Cx := ⟨C.toBx, env :: C.fr, C.calm⟩

structure Cx.Ok (C : Bx) : Prop where
  g : C.h₀.Ns mainGlobals C.mg
  b : C.h₀.Ns builtinsNs C.mb
  lim : C.h₀.NoLimit
  k : C.K.In C.h₀
  bb : ∀ x : Str, x ≠ "__name__" → C.mb x = bootBuiltins x

structure Rel (C : Cx) (W : Wd) (σ : List AO) (h : Heap) : Prop where
  ok : Cx.Ok C.toBx
  old : ∀ b o, C.h₀.get? b = some o → h.get? b = some o
  imm : ∀ p ∈ W.ι, h.get? p.1 = some p.2
  len : W.φ.length = σ.length
  nodup : W.φ.Nodup
  apart : ∀ p ∈ W.ι, p.1 ∉ W.φ
  new : ∀ a ∈ W.φ, C.h₀.get? a = none
  big : ∀ a ∈ W.φ, mainGlobals < a
  objs : ∀ (i : Nat) (o : AO) (a : Addr), σ[i]? = some o → W.φ[i]? = some a → OR W h o a
  frs : ∀ env ∈ C.fr, env.scope.kind ≠ .module ∧ ∃ L, env.frame = some L ∧ L ∉ W.φ ∧ C.h₀.get? L = none ∧ (∀ q ∈ W.ι, q.1 ≠ L) ∧ ∃ o es ep, h.get? L = some o ∧ o.data = .dict es ep

structure Keep (W W' : Wd) (π : List Addr) (h h' : Heap) : Prop where
  le : W.Le W'
  keep : ∀ b o, h.get? b = some o → b ∉ W.φ → b ∉ π → ∃ sl, h'.get? b = some { o with slots := sl } ∧ ((∃ es ep, o.data = .dict es ep) ∨ sl = o.slots)
  stay : ∀ b o, h.get? b = some o → ∃ o', h'.get? b = some o'
  new : ∀ a ∈ W'.φ, a ∉ W.φ → h.get? a = none
  imm : ∀ p ∈ W'.ι, p ∈ W.ι ∨ h.get? p.1 = none

theorem Keep.of {W W' : Wd} {π : List Addr} {h h' : Heap} (le : W.Le W') (keep : ∀ b o, h.get? b = some o → b ∉ W.φ → b ∉ π → h'.get? b = some o) (stay : ∀ b o, h.get? b = some o → ∃ o', h'.get? b = some o')
    (new : ∀ a ∈ W'.φ, a ∉ W.φ → h.get? a = none) (imm : ∀ p ∈ W'.ι, p ∈ W.ι ∨ h.get? p.1 = none) : Keep W W' π h h' :=
  ⟨le, fun b o e n1 n2 => ⟨o.slots, keep b o e n1 n2, .inr rfl⟩, stay, new, imm⟩
theorem Keep.exact {W W' : Wd} {π : List Addr} {h h' : Heap} (x : Keep W W' π h h') {b : Addr} {o : Obj} (e : h.get? b = some o) (n1 : b ∉ W.φ) (n2 : b ∉ π) (nd : ∀ es ep, o.data ≠ .dict es ep) : h'.get? b = some o := by
  obtain ⟨sl, h1, h2⟩ := x.keep b o e n1 n2
  rcases h2 with ⟨es, ep, h2⟩ | rfl
  · exact absurd h2 (nd es ep)
  · exact h1
theorem Keep.refl (W : Wd) (π : List Addr) (h : Heap) : Keep W W π h h := .of (.refl W) (fun u1 u2 e u3 u4 => e) (fun u1 o e => ⟨o, e⟩) (fun u1 h1 h2 => absurd h1 h2) (fun u1 h => .inl h)
theorem Keep.back {W W' : Wd} {π : List Addr} {h h' : Heap} (x : Keep W W' π h h') {a : Addr} (e : h'.get? a = none) : h.get? a = none := by
  cases q : h.get? a with
  | none => rfl
  | some o => obtain ⟨o', e'⟩ := x.stay a o q; rw [e] at e'; cases e'
theorem Keep.trans {W W' W'' : Wd} {π : List Addr} {h h' h'' : Heap} (x : Keep W W' π h h') (y : Keep W' W'' π h' h'') : Keep W W'' π h h'' := by
  refine ⟨x.le.trans y.le, fun b o e n1 n2 => ?_, fun b o e => ?_, fun a h1 h2 => ?_, fun p hp => ?_⟩
  · obtain ⟨sl, h1, h2⟩ := x.keep b o e n1 n2
    have n3 : b ∉ W'.φ := fun q => by have := x.new b q n1; rw [e] at this; cases this
    obtain ⟨sl', h3, h4⟩ := y.keep b _ h1 n3 n2
    refine ⟨sl', h3, ?_⟩
    rcases h2 with h2 | h2
    · exact .inl h2
    · rcases h4 with h4 | h4
      · exact .inl h4
      · exact .inr (h4.trans h2)
  · obtain ⟨o', e'⟩ := x.stay b o e; exact y.stay b o' e'
  · by_cases q : a ∈ W'.φ
    · exact x.new a q h2
    · exact x.back (y.new a h1 q)
  · rcases y.imm p hp with q | q
    · exact x.imm p q
    · exact .inr (x.back q)
theorem Keep.wide {W W' : Wd} {π : List Addr} {h h' : Heap} (x : Keep W W' [] h h') : Keep W W' π h h' :=
  ⟨x.le, fun b o e n1 u1 => x.keep b o e n1 (by simp), x.stay, x.new, x.imm⟩
theorem Keep.ext {W W' : Wd} {π : List Addr} {h h' h'' : Heap} {I : Addr} (x : Keep W W' π h h') (hI : h.get? I = none) (e : ∀ b o, b ≠ I → h'.get? b = some o → h''.get? b = some o) : Keep W W' π h h'' := by
  have hne : ∀ b o, h.get? b = some o → b ≠ I := fun b o e q => by rw [q, hI] at e; cases e
  exact ⟨x.le, fun b o q n1 n2 => let ⟨sl, h1, h2⟩ := x.keep b o q n1 n2; ⟨sl, e b _ (hne b o q) h1, h2⟩, fun b o q => let ⟨o', q'⟩ := x.stay b o q; ⟨o', e b o' (hne b o q) q'⟩, x.new, x.imm⟩
theorem get?_size (h : Heap) : h.get? h.objs.size = none := by
  cases e : h.get? h.objs.size with
  | none => rfl
  | some o => exact absurd (Heap.lt_size e) (Nat.lt_irrefl _)

section
variable {C : Cx} {W : Wd} {σ : List AO} {h h' : Heap}

theorem Rel.at (R : Rel C W σ h) {i : Nat} {o : AO} (e : σ[i]? = some o) : ∃ a, W.φ[i]? = some a ∧ OR W h o a := by
  have hi := (List.getElem?_eq_some_iff.mp e).1
  rw [← R.len] at hi
  exact ⟨W.φ[i], List.getElem?_eq_getElem hi, R.objs i o _ e (List.getElem?_eq_getElem hi)⟩
theorem Rel.lim (R : Rel C W σ h) : h.NoLimit := R.ok.lim.keeps R.old
theorem Rel.kin (R : Rel C W σ h) : C.K.In h := R.ok.k.keeps R.old
theorem Rel.oldNe (R : Rel C W σ h) {a b : Addr} {o : Obj} (ha : a ∈ W.φ) (hb : C.h₀.get? b = some o) : b ≠ a := by
  rintro rfl; have := R.new _ ha; rw [hb] at this; cases this
theorem mem_of_get {l : List Addr} {i : Nat} {a : Addr} (h : l[i]? = some a) : a ∈ l := List.mem_of_getElem? h

theorem Rel.upd (R : Rel C W σ h) {i : Nat} {a : Addr} {o : AO} (ha : W.φ[i]? = some a) (hs : Heap.SameBut a h h') (ho : OR W h' o a) :
    Rel C W (σ.set i o) h' ∧ Keep W W [] h h' := by
  have hm := mem_of_get ha
  refine ⟨⟨R.ok, fun b x e => (hs.2 b (R.oldNe hm e)).trans (R.old b x e), fun p hp => (hs.2 p.1 fun q => R.apart p hp (q ▸ hm)).trans (R.imm p hp), ?_, R.nodup, R.apart, R.new, R.big, fun j x b e eb => ?_, fun env he => ?_⟩,
    .of (.refl W) (fun b x e n u1 => (hs.2 b fun q => n (q ▸ hm)).trans e) (fun b x e => by
      by_cases q : b = a
      · rw [q]; exact ho.there
      · exact ⟨x, (hs.2 b q).trans e⟩) (fun u1 h1 h2 => absurd h1 h2) (fun u1 h => .inl h)⟩
  · rw [List.length_set]; exact R.len
  · by_cases hj : i = j
    · subst hj
      rw [ha] at eb; cases eb
      have hi := (List.getElem?_eq_some_iff.mp ha).1
      rw [R.len] at hi
      rw [List.getElem?_set_self hi] at e; cases e
      exact ho
    · rw [List.getElem?_set_ne hj] at e
      refine (R.objs j x b e eb).same fun y hy => (hs.2 b fun q => hj ?_).trans hy
      subst q
      exact (List.getElem?_inj (List.getElem?_eq_some_iff.mp ha).1 R.nodup).mp (ha.trans eb.symm)
  · obtain ⟨h0, L, h1, h2, h3, h4, o, es, ep, h5, h6⟩ := R.frs env he
    exact ⟨h0, L, h1, h2, h3, h4, o, es, ep, (hs.2 L fun q => h2 (q ▸ hm)).trans h5, h6⟩

theorem Rel.ext (R : Rel C W σ h) {π : List Addr} (k : ∀ b o, h.get? b = some o → b ∉ π → h'.get? b = some o) (hp : ∀ p ∈ π, p ∉ W.φ ∧ C.h₀.get? p = none ∧ ∀ q ∈ W.ι, q.1 ≠ p)
    (hd : ∀ p ∈ π, ∀ o es ep, h.get? p = some o → o.data = .dict es ep → ∃ o' es' ep', h'.get? p = some o' ∧ o'.data = .dict es' ep') : Rel C W σ h' := by
  refine ⟨R.ok, fun b x e => k b x (R.old b x e) (fun q => ?_), fun p hq => k _ _ (R.imm p hq) (fun q => (hp _ q).2.2 p hq rfl), R.len, R.nodup, R.apart, R.new, R.big, fun i o a e ea => (R.objs i o a e ea).same fun x hx => k a x hx fun q => (hp _ q).1 (mem_of_get ea), fun env he => ?_⟩
  · have := (hp _ q).2.1; rw [e] at this; cases this
  · obtain ⟨h0, L, h1, h2, h3, h4, o, es, ep, h5, h6⟩ := R.frs env he
    by_cases hL : L ∈ π
    · exact ⟨h0, L, h1, h2, h3, h4, hd L hL o es ep h5 h6⟩
    · exact ⟨h0, L, h1, h2, h3, h4, o, es, ep, k L o h5 hL, h6⟩

theorem Rel.lt (R : Rel C W σ h) {a : Addr} (ha : a ∈ W.φ) : a < h.objs.size := by
  obtain ⟨i, hi, rfl⟩ := List.mem_iff_getElem.mp ha
  have hi' : i < σ.length := R.len ▸ hi
  obtain ⟨x, hx⟩ := (R.objs i _ _ (List.getElem?_eq_getElem hi') (List.getElem?_eq_getElem hi)).there
  exact Heap.lt_size hx
theorem Rel.fresh (R : Rel C W σ h) : h.objs.size ∉ W.φ := fun q => Nat.lt_irrefl _ (R.lt q)
theorem Rel.freshOld (R : Rel C W σ h) : C.h₀.get? h.objs.size = none := by
  cases e : C.h₀.get? h.objs.size with
  | none => rfl
  | some o => exact absurd (Heap.lt_size (R.old _ _ e)) (Nat.lt_irrefl _)

theorem Rel.push (R : Rel C W σ h) (o : Obj) : Rel C W σ (h.push o) ∧ Keep W W [] h (h.push o) := by
  have k : Keep W W [] h (h.push o) := .of (.refl W) (fun b x e u1 u2 => Heap.get?_push_of_some _ e) (fun b x e => ⟨x, Heap.get?_push_of_some _ e⟩) (fun u1 h1 h2 => absurd h1 h2) (fun u1 h => .inl h)
  exact ⟨R.ext (π := []) (fun b x e u1 => Heap.get?_push_of_some _ e) (by simp) (by simp), k⟩
theorem Rel.pushImm (R : Rel C W σ h) (o : Obj) (hf : o.isFreed = false) : Rel C ⟨W.φ, (h.objs.size, o) :: W.ι⟩ σ (h.push o) ∧ Keep W ⟨W.φ, (h.objs.size, o) :: W.ι⟩ [] h (h.push o) := by
  have le : W.Le ⟨W.φ, (h.objs.size, o) :: W.ι⟩ := ⟨⟨[], by simp⟩, fun p hp => List.mem_cons_of_mem _ hp⟩
  refine ⟨⟨R.ok, fun b x e => Heap.get?_push_of_some _ (R.old b x e), fun p hp => ?_, R.len, R.nodup, fun p hp => ?_, R.new, R.big, fun i x a e ea => ((R.objs i x a e ea).mono le).same fun y hy => Heap.get?_push_of_some _ hy, fun env he => ?_⟩,
    .of le (fun b x e u1 u2 => Heap.get?_push_of_some _ e) (fun b x e => ⟨x, Heap.get?_push_of_some _ e⟩) (fun u1 h1 h2 => absurd h1 h2) (fun p hp => by rcases List.mem_cons.mp hp with rfl | hp; exact .inr (get?_size h); exact .inl hp)⟩
  · rcases List.mem_cons.mp hp with rfl | hp
    · exact Heap.get?_push_size _ hf
    · exact Heap.get?_push_of_some _ (R.imm p hp)
  · rcases List.mem_cons.mp hp with rfl | hp
    · exact R.fresh
    · exact R.apart p hp
  · obtain ⟨h0, L, h1, h2, h3, h4, o', es, ep, h5, h6⟩ := R.frs env he
    refine ⟨h0, L, h1, h2, h3, fun q hq => ?_, o', es, ep, Heap.get?_push_of_some _ h5, h6⟩
    rcases List.mem_cons.mp hq with rfl | hq
    · exact Nat.ne_of_gt (Heap.lt_size h5)
    · exact h4 q hq
theorem Rel.pushObj (R : Rel C W σ h) (o : Obj) (ao : AO) (ho : OR ⟨W.φ ++ [h.objs.size], W.ι⟩ (h.push o) ao h.objs.size) :
    Rel C ⟨W.φ ++ [h.objs.size], W.ι⟩ (σ ++ [ao]) (h.push o) ∧ Keep W ⟨W.φ ++ [h.objs.size], W.ι⟩ [] h (h.push o) := by
  have le : W.Le ⟨W.φ ++ [h.objs.size], W.ι⟩ := ⟨⟨_, rfl⟩, fun u1 hp => hp⟩
  refine ⟨⟨R.ok, fun b x e => Heap.get?_push_of_some _ (R.old b x e), fun p hp => Heap.get?_push_of_some _ (R.imm p hp), by simp [R.len], ?_, fun p hp q => ?_, fun a ha => ?_, fun a ha => ?_, fun i x a e ea => ?_, fun env he => ?_⟩,
    .of le (fun b x e u1 u2 => Heap.get?_push_of_some _ e) (fun b x e => ⟨x, Heap.get?_push_of_some _ e⟩) (fun a h1 h2 => ?_) (fun u1 h => .inl h)⟩
  · rw [List.nodup_append]
    refine ⟨R.nodup, by simp, fun a ha b hb => ?_⟩
    rw [List.mem_singleton.mp hb]; exact Nat.ne_of_lt (R.lt ha)
  · rcases List.mem_append.mp q with q | q
    · exact R.apart p hp q
    · exact absurd (Heap.lt_size (R.imm p hp)) (by rw [List.mem_singleton.mp q]; exact Nat.lt_irrefl _)
  · rcases List.mem_append.mp ha with q | q
    · exact R.new a q
    · rw [List.mem_singleton.mp q]; exact R.freshOld
  · rcases List.mem_append.mp ha with q | q
    · exact R.big a q
    · rw [List.mem_singleton.mp q]
      obtain ⟨o, _, _, ho, _⟩ := R.ok.g
      exact Heap.lt_size (R.old _ _ ho)
  · by_cases hi : i < σ.length
    · rw [List.getElem?_append_left hi] at e
      rw [List.getElem?_append_left (by rw [R.len]; exact hi)] at ea
      exact ((R.objs i x a e ea).mono le).same fun y hy => Heap.get?_push_of_some _ hy
    · have hi' : i = σ.length := by
        have := (List.getElem?_eq_some_iff.mp e).1
        simp at this; omega
      subst hi'
      simp at e; subst e
      rw [← R.len] at ea
      simp at ea; subst ea
      exact ho
  · obtain ⟨h0, L, h1, h2, h3, h4, o', es, ep, h5, h6⟩ := R.frs env he
    refine ⟨h0, L, h1, fun q => ?_, h3, h4, o', es, ep, Heap.get?_push_of_some _ h5, h6⟩
    rcases List.mem_append.mp q with q | q
    · exact h2 q
    · exact Nat.ne_of_lt (Heap.lt_size h5) (List.mem_singleton.mp q)
  · rcases List.mem_append.mp h1 with q | q
    · exact absurd q h2
    · rw [List.mem_singleton.mp q]; exact get?_size h
end
end Mine
set_option Elab.async false
namespace Mine
open PySem

structure SCx where
  tab : List (Str × NameKind × Nat)
  own : List Str := []
  comp : Bool := false

structure St where
  θ : Nat → Option AV
  σ : List AO

noncomputable def upd (θ : Nat → Option AV) (i : Nat) (a : AV) : Nat → Option AV := fun j => if j = i then some a else θ j
@[simp] theorem upd_same (θ : Nat → Option AV) (i : Nat) (a : AV) : upd θ i a i = some a := by simp [upd]
theorem upd_ne (θ : Nat → Option AV) {i j : Nat} (a : AV) (h : j ≠ i) : upd θ i a j = θ j := by simp [upd, h]

noncomputable def priv (Γ : SCx) (env : Env) : List Addr := env.locals :: Γ.own.filterMap fun x => env.cells.lookup x

structure LR (C : Cx) (Γ : SCx) (env : Env) (W : Wd) (θ : Nat → Option AV) (h : Heap) : Prop where
  kind : env.scope.kind = .function
  glob : env.globals = mainGlobals
  blt : env.builtins = builtinsNs
  names : ∀ x, env.kindOf x = (Γ.tab.lookup x).map (fun x => x.1)
  inj : ∀ x y k k' i, Γ.tab.lookup x = some (k, i) → Γ.tab.lookup y = some (k', i) → x = y
  loc : ∃ m, h.Ns env.locals m ∧ ∀ x i a, Γ.tab.lookup x = some (.local, i) → θ i = some a → ∃ v, m x = some v ∧ VR W a v
  cel : ∀ x k i, Γ.tab.lookup x = some (k, i) → k = .cell ∨ k = .free → ∃ c ov, env.cells.lookup x = some c ∧ c ≠ env.locals ∧ h.IsCell c ov ∧ ∀ a, θ i = some a → ∃ v, ov = some v ∧ VR W a v
  cinj : ∀ x y c, env.cells.lookup x = some c → env.cells.lookup y = some c → x = y
  out : ∀ p, (p = env.locals ∨ ∃ x, env.cells.lookup x = some p) → p ∉ W.φ ∧ C.h₀.get? p = none ∧ (∀ q ∈ W.ι, q.1 ≠ p) ∧ ∃ o, h.get? p = some o
  top : Γ.comp = false → ∃ r, C.fr = env :: r

structure Inv (C : Cx) (Γ : SCx) (env : Env) (W : Wd) (st : St) (h : Heap) : Prop where
  rel : Rel C W st.σ h
  loc : LR C Γ env W st.θ h

structure AOk (C : Cx) (n : Nat) (A : Around) : Prop where
  handled : C.calm = true → A.handled = none
  frames : A.frames = some C.fr
  depth : A.depth + n < recursionLimit
  units : A.units + 32 * n + 96 < cLine

theorem AOk.less {C : Cx} {n m : Nat} {A : Around} (x : AOk C n A) (h : m ≤ n) : AOk C m A := ⟨x.handled, x.frames, by have := x.depth; omega, by have := x.units; omega⟩
theorem AOk.in1 {C : Cx} {n : Nat} {A : Around} (x : AOk C (n + 1) A) : AOk C n A.in1 := ⟨x.handled, x.frames, by have := x.depth; simp; omega, by have := x.units; simp; omega⟩
theorem AOk.deeper {C : Cx} {n : Nat} {A : Around} (x : AOk C (n + 1) A) (env : Env) : AOk (C.push env) n (A.deeper env) :=
  ⟨x.handled, Around.frames_deeper x.frames, by have := x.depth; show A.depth + 1 + n < _; omega, by have := x.units; simp; omega⟩

theorem lookup_mem {α β : Type} [BEq α] [LawfulBEq α] : ∀ {l : List (α × β)} {x : α} {y : β}, l.lookup x = some y → (x, y) ∈ l
  | (k, v) :: r, x, y, h => by
    rw [List.lookup_cons] at h
    cases hb : x == k with
    | true => rw [hb] at h; cases h; rw [beq_iff_eq.mp hb]; exact List.mem_cons_self
    | false => rw [hb] at h; exact List.mem_cons_of_mem _ (lookup_mem h)

theorem priv_out {C : Cx} {Γ : SCx} {env : Env} {W : Wd} {θ : Nat → Option AV} {h : Heap} (L : LR C Γ env W θ h) : ∀ p ∈ priv Γ env, p ∉ W.φ ∧ C.h₀.get? p = none ∧ (∀ q ∈ W.ι, q.1 ≠ p) ∧ ∃ o, h.get? p = some o := by
  intro p hp
  refine L.out p ?_
  rcases List.mem_cons.mp hp with rfl | hp
  · exact .inl rfl
  · obtain ⟨x, _, hx⟩ := List.mem_filterMap.mp hp
    exact .inr ⟨x, hx⟩

theorem LR.keep' {C : Cx} {Γ : SCx} {env : Env} {W W' : Wd} {π : List Addr} {θ : Nat → Option AV} {h h' : Heap} (L : LR C Γ env W θ h) (k : Keep W W' π h h') (hπ : ∀ p, (p = env.locals ∨ ∃ x, env.cells.lookup x = some p) → p ∉ π) : LR C Γ env W' θ h' := by
  have hk : ∀ p, (p = env.locals ∨ ∃ x, env.cells.lookup x = some p) → ∀ o, h.get? p = some o → ∃ sl, h'.get? p = some { o with slots := sl } := fun p hp o e => let ⟨sl, h1, _⟩ := k.keep p o e (L.out p hp).1 (hπ p hp); ⟨sl, h1⟩
  refine ⟨L.kind, L.glob, L.blt, L.names, L.inj, ?_, ?_, L.cinj, ?_, L.top⟩
  · obtain ⟨m, ⟨o, es, ep, ho, r⟩, hm⟩ := L.loc
    obtain ⟨sl, ho'⟩ := hk _ (.inl rfl) _ ho
    refine ⟨m, ⟨_, es, ep, ho', r⟩, fun x i a h1 h2 => ?_⟩
    obtain ⟨v, hv, hr⟩ := hm x i a h1 h2
    exact ⟨v, hv, hr.mono k.le⟩
  · intro x kd i h1 h2
    obtain ⟨c, ov, hc, hne, ⟨o, ho, r⟩, hv⟩ := L.cel x kd i h1 h2
    obtain ⟨sl, ho'⟩ := hk _ (.inr ⟨x, hc⟩) _ ho
    refine ⟨c, ov, hc, hne, ⟨_, ho', r⟩, fun a ha => ?_⟩
    obtain ⟨v, e, hr⟩ := hv a ha
    exact ⟨v, e, hr.mono k.le⟩
  · intro p hp
    obtain ⟨h1, h2, h3, h4⟩ := L.out p hp
    obtain ⟨o4, h4⟩ := h4
    refine ⟨fun q => ?_, h2, fun q hq e => ?_, k.stay p o4 h4⟩
    · have := k.new p q h1; rw [h4] at this; cases this
    · rcases k.imm q hq with z | z
      · exact h3 q z e
      · rw [e, h4] at z; cases z

theorem LR.keep {C : Cx} {Γ : SCx} {env : Env} {W W' : Wd} {θ : Nat → Option AV} {h h' : Heap} (L : LR C Γ env W θ h) (k : Keep W W' [] h h') : LR C Γ env W' θ h' := L.keep' k (by simp)

theorem Inv.keep {C : Cx} {Γ : SCx} {env : Env} {W W' : Wd} {st : St} {σ' : List AO} {h h' : Heap} (I : Inv C Γ env W st h) (R : Rel C W' σ' h') (k : Keep W W' [] h h') : Inv C Γ env W' ⟨st.θ, σ'⟩ h' := ⟨R, I.loc.keep k⟩

section
variable {α β γ : Type} {C : Cx} {Γ : SCx} {env : Env} {W : Wd} {A : Around} {s : Shared}

noncomputable def Post (C : Cx) (Γ : SCx) (env : Env) (W : Wd) (s : Shared) (R : Wd → β → α → Prop) (b : β) (st' : St) (Q : α → Shared → Prop) : Prop :=
  ∀ a W' h' tk, Inv C Γ env W' st' h' → Keep W W' (priv Γ env) s.heap h' → R W' b a → Q a { s with heap := h', toks := tk }
noncomputable def Run (C : Cx) (Γ : SCx) (env : Env) (W : Wd) (A : Around) (s : Shared) (t : Sem α) (out : Option (β × St)) (R : Wd → β → α → Prop) : Prop :=
  ∀ b st', out = some (b, st') → ∀ (Q : α → Shared → Prop) (E : Value → Shared → Prop), Post C Γ env W s R b st' Q → wpAny (model C.prog C.w) A t Q E s

noncomputable abbrev K (α : Type) := St → Option (α × St)
noncomputable def K.bind (f : K α) (g : α → K β) : K β := fun st => match f st with
  | none => none
  | some (a, st') => g a st'
noncomputable def K.ret (a : α) : K α := fun st => some (a, st)
noncomputable def K.fail : K α := fun u1 => .none
@[simp] theorem K.bind_some {f : K α} {g : α → K β} {st st' : St} {a : α} (h : f st = some (a, st')) : K.bind f g st = g a st' := by simp [K.bind, h]
@[simp] theorem K.ret_bind (a : α) (g : α → K β) : K.bind (K.ret a) g = g a := rfl
theorem K.bind_assoc (f : K α) (g : α → K β) (k : β → K γ) : K.bind (K.bind f g) k = K.bind f fun a => K.bind (g a) k := by
  funext st; simp only [K.bind]; cases f st <;> rfl

theorem K.bindE {f : K α} {g : α → K β} {st st' : St} {b : β} {P : Prop} (e : K.bind f g st = some (b, st')) (k : ∀ a st₁, f st = some (a, st₁) → g a st₁ = some (b, st') → P) : P := by
  unfold K.bind at e
  cases h : f st with
  | none => rw [h] at e; cases e
  | some p => rw [h] at e; exact k p.1 p.2 h e
theorem Run.mk1 {t : Sem α} {R : Wd → β → α → Prop} {b : β} {st' : St} (h : ∀ Q E, Post C Γ env W s R b st' Q → wpAny (model C.prog C.w) A t Q E s) : Run C Γ env W A s t (some (b, st')) R := by
  intro b' st'' e Q E hq
  cases e
  exact h Q E hq
theorem Run.stuck {t : Sem α} {R : Wd → β → α → Prop} : Run C Γ env W A s t (none : Option (β × St)) R := fun u1 u2 e => nomatch e
theorem Run.now {t : Sem α} {R : Wd → β → α → Prop} {b : β} {st : St} (I : Inv C Γ env W st s.heap) {a : α} (tk : Nat) (hr : R W b a) (h : ∀ Q E, Q a { s with toks := tk } → wpAny (model C.prog C.w) A t Q E s) : Run C Γ env W A s t (some (b, st)) R :=
  .mk1 fun Q E hq => h Q E (hq a W s.heap tk I (.refl ..) hr)
theorem Run.omap {t : Sem α} {R : Wd → β → α → Prop} {x : Option γ} {f : γ → β × St} (h : ∀ y, x = some y → Run C Γ env W A s t (some (f y)) R) : Run C Γ env W A s t (x.map f) R := by
  cases x with
  | none => exact .stuck
  | some y => exact h y rfl
theorem Run.obind {t : Sem α} {R : Wd → β → α → Prop} {x : Option γ} {f : γ → Option (β × St)} (h : ∀ y, x = some y → Run C Γ env W A s t (f y) R) : Run C Γ env W A s t (x.bind f) R := by
  cases x with
  | none => exact .stuck
  | some y => exact h y rfl
theorem Run.ite {t : Sem α} {R : Wd → β → α → Prop} {p : Prop} [Decidable p] {o : Option (β × St)} (h : p → Run C Γ env W A s t o R) : Run C Γ env W A s t (if p then o else none) R := by
  by_cases hp : p
  · rw [if_pos hp]; exact h hp
  · rw [if_neg hp]; exact .stuck
theorem Run.of_eq {t : Sem α} {R : Wd → β → α → Prop} {o o' : Option (β × St)} (e : o = o') (h : Run C Γ env W A s t o' R) : Run C Γ env W A s t o R := e ▸ h
theorem Run.step {δ : Type} {t : Sem α} {t' : Sem γ} {k : α → Sem γ} {f : K β} {g : β → K δ} {st : St} {R : Wd → β → α → Prop} {R' : Wd → δ → γ → Prop}
    (hw : ∀ Q E, wpAny (model C.prog C.w) A t (fun a s₁ => wpAny (model C.prog C.w) A (k a) Q E s₁) E s → wpAny (model C.prog C.w) A t' Q E s) (h : Run C Γ env W A s t (f st) R)
    (hk : ∀ b st' a W' h' tk, Inv C Γ env W' st' h' → Keep W W' (priv Γ env) s.heap h' → R W' b a → Run C Γ env W' A { s with heap := h', toks := tk } (k a) (g b st') R') : Run C Γ env W A s t' (K.bind f g st) R' := by
  intro d st'' e Q E hq
  refine K.bindE e fun b st' e1 e2 => hw Q E (h b st' e1 _ E fun a W' h' tk I' k' r => ?_)
  exact hk b st' a W' h' tk I' k' r d st'' e2 Q E fun c W'' h'' tk' I'' k'' r' => hq c W'' h'' tk' I'' (k'.trans k'') r'
theorem Run.stepE {δ : Type} {t : Sem α} {t' : Sem γ} {S : α → (γ → Shared → Prop) → (Value → Shared → Prop) → Shared → Prop} {f : K β} {g : β → K δ} {st : St} {R : Wd → β → α → Prop} {R' : Wd → δ → γ → Prop}
    (hw : ∀ Q E, wpAny (model C.prog C.w) A t (fun a s₁ => S a Q E s₁) E s → wpAny (model C.prog C.w) A t' Q E s) (h : Run C Γ env W A s t (f st) R)
    (hk : ∀ b st' a W' h' tk, Inv C Γ env W' st' h' → R W' b a → ∀ d st'', g b st' = some (d, st'') → ∀ Q E, Post C Γ env W' { s with heap := h', toks := tk } R' d st'' Q → S a Q E { s with heap := h', toks := tk }) : Run C Γ env W A s t' (K.bind f g st) R' := by
  intro d st'' e Q E hq
  refine K.bindE e fun b st' e1 e2 => hw Q E (h b st' e1 _ E fun a W' h' tk I' k' r => ?_)
  exact hk b st' a W' h' tk I' r d st'' e2 Q E fun c W'' h'' tk' I'' k'' r' => hq c W'' h'' tk' I'' (k'.trans k'') r'
theorem Run.step2 {δ : Type} {t : Sem α} {k : α → Sem γ} {f : K β} {g : β → K δ} {st : St} {R : Wd → β → α → Prop} {R' : Wd → δ → γ → Prop} (h : Run C Γ env W A s t (f st) R)
    (hk : ∀ b st' a W' h' tk, Inv C Γ env W' st' h' → Keep W W' (priv Γ env) s.heap h' → R W' b a → Run C Γ env W' A { s with heap := h', toks := tk } (k a) (g b st') R') :
    ∀ d st'', K.bind f g st = some (d, st'') → ∀ Q E, Post C Γ env W s R' d st'' Q → wpAny (model C.prog C.w) A t (fun a s₁ => wpAny (model C.prog C.w) A (k a) Q E s₁) E s := by
  intro d st'' e Q E hq
  refine K.bindE e fun b st' e1 e2 => h b st' e1 _ E fun a W' h' tk I' k' r => ?_
  exact hk b st' a W' h' tk I' k' r d st'' e2 Q E fun c W'' h'' tk' I'' k'' r' => hq c W'' h'' tk' I'' (k'.trans k'') r'
theorem Run.finE {δ : Type} {t : Sem α} {k : α → γ} {f : K β} {d : β → δ} {st : St} {R : Wd → β → α → Prop} {R' : Wd → δ → γ → Prop}
    (h : Run C Γ env W A s t (f st) R) (hr : ∀ W b a, R W b a → R' W (d b) (k a)) : ∀ d' st'', K.bind f (fun b => K.ret (d b)) st = some (d', st'') → ∀ Q E, Post C Γ env W s R' d' st'' Q → wpAny (model C.prog C.w) A t (fun a s₁ => Q (k a) s₁) E s := by
  intro d' st'' e Q E hq
  refine K.bindE e fun b st' e1 e2 => ?_
  cases e2
  exact h b _ e1 _ E fun a W' h' tk I' k' r => hq _ W' h' tk I' k' (hr _ _ _ r)
theorem Run.fin {δ : Type} {t : Sem α} {t' : Sem γ} {k : α → γ} {f : K β} {d : β → δ} {st : St} {R : Wd → β → α → Prop} {R' : Wd → δ → γ → Prop}
    (hw : ∀ Q E, wpAny (model C.prog C.w) A t (fun a s₁ => Q (k a) s₁) E s → wpAny (model C.prog C.w) A t' Q E s) (h : Run C Γ env W A s t (f st) R) (hr : ∀ W b a, R W b a → R' W (d b) (k a)) : Run C Γ env W A s t' (K.bind f (fun b => K.ret (d b)) st) R' :=
  fun d' st'' e Q E hq => hw Q E (h.finE hr d' st'' e Q E hq)
inductive At (C : Cx) (Γ : SCx) (env : Env) (W : Wd) (s : Shared) (P : Wd → St → Heap → Prop) : Shared → Prop
  | mk {W₁ : Wd} {st₁ : St} {h₁ : Heap} {tk₁ : Nat} : Inv C Γ env W₁ st₁ h₁ → Keep W W₁ (priv Γ env) s.heap h₁ → P W₁ st₁ h₁ → At C Γ env W s P { s with heap := h₁, toks := tk₁ }
theorem Run.mono {t : Sem α} {out : Option (β × St)} {R R' : Wd → β → α → Prop} (h : Run C Γ env W A s t out R) (hr : ∀ W b a, R W b a → R' W b a) : Run C Γ env W A s t out R' :=
  fun b st' e Q E hq => h b st' e Q E fun a W' h' tk I k r => hq a W' h' tk I k (hr _ _ _ r)
theorem Run.of_wp {t : Sem α} {t' : Sem γ} {out : Option (β × St)} {R : Wd → β → α → Prop} {R' : Wd → β → γ → Prop} {k : α → γ} (h : Run C Γ env W A s t out R) (hw : ∀ Q E, wpAny (model C.prog C.w) A t (fun a s₁ => Q (k a) s₁) E s → wpAny (model C.prog C.w) A t' Q E s) (hr : ∀ W b a, R W b a → R' W b (k a)) : Run C Γ env W A s t' out R' :=
  fun b st' e Q E hq => hw Q E (h b st' e _ E fun a W' h' tk I k r => hq _ W' h' tk I k (hr _ _ _ r))
end

structure Ev (C : Cx) (n : Nat) (Γ : SCx) (e : Expr) (f : K AV) : Prop where
  run : ∀ A env W st s, AOk C n A → Inv C Γ env W st s.heap → Run C Γ env W A s (eval e env) (f st) VR
structure Te (C : Cx) (n : Nat) (Γ : SCx) (e : Expr) (f : K Bool) : Prop where
  run : ∀ A env W st s, AOk C n A → Inv C Γ env W st s.heap → Run C Γ env W A s (isTrue e env (eval e env)) (f st) fun u1 a b => a = b

inductive Fl where
  | next | brk | cont
  | ret (v : AV)
inductive FR (W : Wd) : Fl → Flow → Prop
  | next : FR W .next .next
  | brk : FR W .brk .brk
  | cont : FR W .cont .cont
  | ret {a v} : VR W a v → FR W (.ret a) (.ret v)
theorem FR.mono {W W' : Wd} (x : W.Le W') {a v} (h : FR W a v) : FR W' a v := by
  cases h with
  | next => exact .next
  | brk => exact .brk
  | cont => exact .cont
  | ret h => exact .ret (h.mono x)
structure Ex (C : Cx) (n : Nat) (Γ : SCx) (e : Stmt) (f : K Fl) : Prop where
  run : ∀ A env W st s, AOk C n A → Inv C Γ env W st s.heap → Run C Γ env W A s (exec e env) (f st) FR
structure Exs (C : Cx) (n : Nat) (Γ : SCx) (e : List Stmt) (f : K Fl) : Prop where
  run : ∀ A env W st s, AOk C n A → Inv C Γ env W st s.heap → Run C Γ env W A s (execs e env) (f st) FR

end Mine
set_option Elab.async false
namespace Mine
open PySem PyProof.Rows

theorem K.bind_iff {α β : Type} {f : K α} {g : α → K β} {st st' : St} {b : β} : K.bind f g st = some (b, st') ↔ ∃ a st₁, f st = some (a, st₁) ∧ g a st₁ = some (b, st') :=
  ⟨fun e => K.bindE e fun a st₁ h1 h2 => ⟨a, st₁, h1, h2⟩, fun ⟨a, st₁, h1, h2⟩ => by rw [K.bind_some h1]; exact h2⟩

noncomputable def AV.int? : AV → Option Int
  | .int x => some x
  | _ => Option.none
noncomputable def AV.str? : AV → Option Str
  | .str x => some x
  | _ => Option.none
noncomputable def AV.oid : AV → Option Nat
  | .obj i => some i
  | _ => Option.none
noncomputable def AV.tup? : AV → Option (List AV)
  | .tup vs => some vs
  | _ => Option.none
noncomputable def AV.isN : AV → Bool
  | .none => true
  | _ => false

section
variable {C : Cx} {n : Nat} {Γ : SCx} {env : Env} {W : Wd} {A : Around} {s : Shared} {st : St}

theorem Ev.int {i k pos} : Ev C n Γ (.Constant (.int i) k pos) (K.ret (.int i)) := ⟨fun A env W st s ok I => .now I _ (.int i _) fun Q E h => wpAny_Constant_int h⟩
theorem Ev.str {x k pos} : Ev C n Γ (.Constant (.str x) k pos) (K.ret (.str x)) := ⟨fun A env W st s ok I => .now I _ (.str x _) fun Q E h => wpAny_Constant_str h⟩
theorem Ev.noneC {k pos} : Ev C n Γ (.Constant .none k pos) (K.ret .none) := ⟨fun A env W st s ok I => .now I _ .none fun Q E h => wpAny_Constant_none h⟩
theorem Ev.boolC {b k pos} : Ev C n Γ (.Constant (.bool b) k pos) (K.ret (.bool b)) := ⟨fun A env W st s ok I => .now I _ (.bool b) fun Q E h => wpAny_Constant_bool h⟩

noncomputable def getv (i : Nat) : K AV := fun st => (st.θ i).map fun a => (a, st)
theorem getv_iff {i : Nat} {st st' : St} {a : AV} : getv i st = some (a, st') ↔ st.θ i = some a ∧ st' = st := by
  simp only [getv]
  cases st.θ i <;> simp [eq_comm]

theorem Ev.loc {x pos i} (h : Γ.tab.lookup x = some (.local, i)) (hd : (x == ("__debug__" : Str)) = false) : Ev C n Γ (.Name x pos) (getv i) :=
  ⟨fun A env W st s ok I => .omap fun r e => by
    obtain ⟨m, hm, hv⟩ := I.loc.loc
    obtain ⟨v, hv, hr⟩ := hv x i r h e
    exact .now I s.toks hr fun Q E hq => wpAny_Name (wpAny_loadName_local I.loc.kind (by rw [I.loc.names, h]; rfl) hm hv hq) hd⟩
theorem Ev.cell {x pos i} (h : Γ.tab.lookup x = some (.cell, i)) (hd : (x == ("__debug__" : Str)) = false) : Ev C n Γ (.Name x pos) (getv i) :=
  ⟨fun A env W st s ok I => .omap fun r e => by
    obtain ⟨c, ov, hc, _, hcell, hv⟩ := I.loc.cel x _ i h (.inl rfl)
    obtain ⟨v, rfl, hr⟩ := hv r e
    exact .now I s.toks hr fun Q E hq => wpAny_Name (wpAny_loadName_cell I.loc.kind (by rw [I.loc.names, h]; rfl) hc hcell hq) hd⟩

theorem Rel.globals {σ : List AO} {h : Heap} (R : Rel C W σ h) : h.Ns mainGlobals C.mg := R.ok.g.keeps R.old
theorem Rel.builtins {σ : List AO} {h : Heap} (R : Rel C W σ h) : h.Ns builtinsNs C.mb := R.ok.b.keeps R.old

theorem Ev.glob {x pos i} {v : Value} {a : AV} (hv : C.mg x = some v) (h : Γ.tab.lookup x = some (.globalImplicit, i)) (hr : ∀ W, VR W a v) (hd : (x == ("__debug__" : Str)) = false) : Ev C n Γ (.Name x pos) (K.ret a) :=
  ⟨fun A env W st s ok I => .now I s.toks (hr W) fun Q E hq => Calls.Name_function_global I.loc.kind (by rw [I.loc.names, h]; rfl) (Calls.loadGlobal_global (by rw [I.loc.glob]; exact I.rel.globals) hv hq) hd⟩
theorem Ev.blt {x pos i} {v : Value} (hm : C.mg x = none) (hv : C.mb x = some v) (h : Γ.tab.lookup x = some (.globalImplicit, i)) (hd : (x == ("__debug__" : Str)) = false) : Ev C n Γ (.Name x pos) (K.ret (.val v)) :=
  ⟨fun A env W st s ok I => .now I s.toks (.val v) fun Q E hq => Calls.Name_function_global I.loc.kind (by rw [I.loc.names, h]; rfl) (Calls.loadGlobal_builtin (by rw [I.loc.glob]; exact I.rel.globals) hm (by rw [I.loc.blt]; exact I.rel.builtins) hv hq) hd⟩
theorem Ev.gk {x pos i} {v : Value} {a : AV} (e : PySem.W.nsIn C.K mainGlobals x = some (some v)) (h : Γ.tab.lookup x = some (.globalImplicit, i)) (hr : ∀ W, VR W a v) (hd : (x == ("__debug__" : Str)) = false) : Ev C n Γ (.Name x pos) (K.ret a) :=
  ⟨fun A env W st s ok I => (Ev.glob (PySem.W.mg_of I.rel.ok.k I.rel.ok.g e) h hr hd).run A env W st s ok I⟩
theorem Ev.bk {x pos i} {v : Value} (e : PySem.W.nsIn C.K mainGlobals x = some none) (hv : bootBuiltins x = some v) (h : Γ.tab.lookup x = some (.globalImplicit, i)) (hd : (x == ("__debug__" : Str)) = false) (hn : (x == ("__name__" : Str)) = false) : Ev C n Γ (.Name x pos) (K.ret (.val v)) :=
  ⟨fun A env W st s ok I => (Ev.blt (PySem.W.mg_none_of I.rel.ok.k I.rel.ok.g e) ((I.rel.ok.bb x (by intro q; rw [q] at hn; simp at hn)).trans hv) h hd).run A env W st s ok I⟩

@[elab_as_elim] theorem VR.intE {a : AV} {v : Value} {x : Int} {P : Value → Prop} (h : VR W a v) (e : a.int? = some x) (k : ∀ t, P (.int x t)) : P v := by
  cases h <;> cases e
  exact k _
@[elab_as_elim] theorem VR.strE {a : AV} {v : Value} {x : Str} {P : Value → Prop} (h : VR W a v) (e : a.str? = some x) (k : ∀ t, P (.str x t)) : P v := by
  cases h <;> cases e
  exact k _
@[elab_as_elim] theorem VR.objE {a : AV} {v : Value} {i : Nat} {P : Value → Prop} (h : VR W a v) (e : a.oid = some i) (k : ∀ l, W.φ[i]? = some l → P (.ref l)) : P v := by
  cases h <;> cases e
  exact k _ (by assumption)
@[elab_as_elim] theorem VR.tupE {a : AV} {v : Value} {vs : List AV} {P : Value → Prop} (h : VR W a v) (e : a.tup? = some vs) (k : ∀ l items n, (l, ({ cls := .type "tuple", data := .seq items n } : Obj)) ∈ W.ι → VRs W vs items.toList → P (.ref l)) : P v := by
  cases h <;> cases e
  exact k _ _ _ (by assumption) (by assumption)
@[elab_as_elim] theorem VR.lstE {a : AV} {v : Value} {vs : List AV} {P : Value → Prop} (h : VR W a v) (e : a = .lst vs) (k : ∀ l items n, (l, ({ cls := .type "list", data := .seq items n } : Obj)) ∈ W.ι → VRs W vs items.toList → P (.ref l)) : P v := by
  subst e
  cases h
  exact k _ _ _ (by assumption) (by assumption)
@[elab_as_elim] theorem VR.rngE {a : AV} {v : Value} {x c : Int} {n : Nat} {P : Value → Prop} (h : VR W a v) (e : a = .rng x c n) (k : ∀ r b t u v, (r, ({ cls := .type "range", data := .fields #[.int x t, .int b u, .int c v] } : Obj)) ∈ W.ι → Builtin.Range.small x b c = true → Builtin.Range.rangeSize x b c = n → P (.ref r)) : P v := by
  subst e
  cases h
  exact k _ _ _ _ _ (by assumption) (by assumption) (by assumption)
@[elab_as_elim] theorem VRs.nilE {vs : List Value} {P : List Value → Prop} (h : VRs W [] vs) (k : P []) : P vs := by cases h; exact k
@[elab_as_elim] theorem VRs.consE {a : AV} {as : List AV} {vs : List Value} {P : List Value → Prop} (h : VRs W (a :: as) vs) (k : ∀ v vs, VR W a v → VRs W as vs → P (v :: vs)) : P vs := by
  cases h with | cons h r => exact k _ _ h r
@[elab_as_elim] theorem VRs.oneE {a : AV} {vs : List Value} {P : List Value → Prop} (h : VRs W [a] vs) (k : ∀ v, VR W a v → P [v]) : P vs := h.consE fun v vs h r => r.nilE (P := fun vs => P (v :: vs)) (k v h)
@[elab_as_elim] theorem VRs.twoE {a b : AV} {vs : List Value} {P : List Value → Prop} (h : VRs W [a, b] vs) (k : ∀ v w, VR W a v → VR W b w → P [v, w]) : P vs := h.consE fun v vs h r => r.oneE (P := fun vs => P (v :: vs)) fun w h2 => k v w h h2

noncomputable def lstAt (σ : List AO) (i : Nat) : Option (List AV) := match σ[i]? with
  | some (.list vs) => some vs
  | _ => none
theorem lstAt_of {σ : List AO} {i : Nat} {vs : List AV} (h : σ[i]? = some (.list vs)) : lstAt σ i = some vs := by unfold lstAt; rw [h]
theorem lstAt_iff {σ : List AO} {i : Nat} {vs : List AV} (e : lstAt σ i = some vs) : σ[i]? = some (.list vs) := by
  unfold lstAt at e
  cases h : σ[i]? with
  | none => rw [h] at e; cases e
  | some o =>
    rw [h] at e
    cases o <;> cases e
    rfl
noncomputable def litems (a : AV) (st : St) : Option (List AV) := match a with
  | .lst vs => some vs
  | .obj i => lstAt st.σ i
  | _ => none
theorem lstE {σ : List AO} {h : Heap} (R : Rel C W σ h) {i : Nat} {l : Addr} (hi : W.φ[i]? = some l) {vs : List AV} (e : lstAt σ i = some vs) {P : Prop}
    (k : ∀ items n, h.get? l = some { cls := .type "list", data := .seq items n } → VRs W vs items.toList → vs.length = items.size → P) : P := by
  obtain ⟨items, n, h1, h2⟩ := R.objs _ _ _ (lstAt_iff e) hi
  exact k items n h1 h2 h2.length
@[elab_as_elim] theorem litemsE {a : AV} {v : Value} {vs : List AV} {h : Heap} (R : Rel C W st.σ h) (hv : VR W a v) (e : litems a st = some vs) {P : Value → Prop}
    (k : ∀ l items n, h.get? l = some { cls := .type "list", data := .seq items n } → VRs W vs items.toList → vs.length = items.size → P (.ref l)) : P v := by
  cases hv with
  | lst h1 h4 => cases e; exact k _ _ _ (R.imm _ h1) h4 h4.length
  | obj hi => exact lstE R hi e fun items n => k _ items n
  | _ => cases e
theorem litems_sound {a : AV} {v : Value} {vs : List AV} {h : Heap} (R : Rel C W st.σ h) (hv : VR W a v) (e : litems a st = some vs) :
    ∃ l items n, v = .ref l ∧ h.get? l = some { cls := .type "list", data := .seq items n } ∧ VRs W vs items.toList :=
  litemsE R hv e fun l items n h1 h2 u1 => ⟨l, items, n, rfl, h1, h2⟩
theorem isList_of {h : Heap} {l : Addr} {items : Array Value} {n : Nat} (e : h.get? l = some { cls := .type "list", data := .seq items n }) : h.IsList l items := ⟨_, e, rfl, n, rfl⟩
@[elab_as_elim] theorem tupE {a : AV} {v : Value} {vs : List AV} {σ : List AO} {h : Heap} (R : Rel C W σ h) (hv : VR W a v) (e : a.tup? = some vs) {P : Value → Prop}
    (k : ∀ l items n, h.get? l = some { cls := .type "tuple", data := .seq items n } → VRs W vs items.toList → vs.length = items.size → P (.ref l)) : P v :=
  hv.tupE e fun l items n h1 h2 => k l items n (R.imm _ h1) h2 h2.length
theorem tup_sound {v : Value} {vs : List AV} {σ : List AO} {h : Heap} (R : Rel C W σ h) (hv : VR W (.tup vs) v) :
    ∃ l items n, v = .ref l ∧ h.get? l = some { cls := .type "tuple", data := .seq items n } ∧ VRs W vs items.toList :=
  tupE R hv rfl fun l items n h1 h2 u1 => ⟨l, items, n, rfl, h1, h2⟩
theorem isTup_of {h : Heap} {l : Addr} {items : Array Value} {n : Nat} (e : h.get? l = some { cls := .type "tuple", data := .seq items n }) : IsTup h l items := ⟨_, e, rfl, n, rfl⟩

noncomputable def binI (op : Operator) (x y : Int) : Option Int := match op with
  | .Add => some (x + y)
  | .Sub => some (x - y)
  | .Mult => if Builtin.Int.intBits x ≤ 64 then some (x * y) else none
  | .Mod => if y ≠ 0 then some (x.fmod y) else none
  | .FloorDiv => if y ≠ 0 ∧ y.natAbs < 2 ^ 64 then some (x.fdiv y) else none
  | .RShift => if 0 ≤ y then some (x.fdiv (2 ^ y.toNat)) else none
  | _ => none
noncomputable def binK (op : Operator) (a b : AV) : K AV := fun st => a.int?.bind fun x => b.int?.bind fun y => (binI op x y).map fun z => (.int z, st)

theorem noPylong {x y : Int} (h : y.natAbs < 2 ^ 64) : Builtin.divisionGoesByPylong x y = false := by
  unfold Builtin.divisionGoesByPylong
  simp only [Bool.and_eq_false_iff]
  left
  simp only [decide_eq_false_iff_not, Nat.not_lt]
  split
  · omega
  · rename_i hy
    have : y.natAbs.log2 < 64 := by
      rw [Nat.log2_lt (by simpa using hy)]; exact h
    omega
@[elab_as_elim] theorem ite_some {α : Type} {p : Prop} [Decidable p] {x y : α} {P : α → Prop} (e : (if p then some x else none) = some y) (k : p → P x) : P y := by
  by_cases h : p
  · rw [if_pos h] at e; cases e; exact k h
  · rw [if_neg h] at e; cases e
@[elab_as_elim] theorem mapE {α β : Type} {x : Option α} {f : α → β} {b : β} {P : β → Prop} (e : x.map f = some b) (k : ∀ a, x = some a → P (f a)) : P b := by
  cases x with
  | none => cases e
  | some a => cases e; exact k a rfl
@[elab_as_elim] theorem bindE {α β : Type} {x : Option α} {f : α → Option β} {b : β} {P : β → Prop} (e : x.bind f = some b) (k : ∀ a, x = some a → f a = some b → P b) : P b := by
  cases x with
  | none => cases e
  | some a => exact k a rfl e
theorem ite_none {α : Type} {p : Prop} [Decidable p] {x : Option α} {y : α} {P : Prop} (e : (if p then x else none) = some y) (k : p → x = some y → P) : P := by
  by_cases h : p
  · rw [if_pos h] at e; exact k h e
  · rw [if_neg h] at e; cases e
@[elab_as_elim] theorem some_of {α : Type} {x y : α} {P : α → Prop} (e : some x = some y) (k : P x) : P y := Option.some.inj e ▸ k
theorem binI_sound {op : Operator} {x y z : Int} {t u : Tok} {s : Shared} {Q E : Value → Shared → Prop} (e : binI op x y = some z) (hq : ∀ tk w, Q (.int z w) { s with toks := tk }) : wpAny (model C.prog C.w) A (binaryOp op (.int x t) (.int y u)) Q E s := by
  revert hq
  cases op with
  | Add => exact some_of e fun hq => add_int (hq _ _)
  | Sub => exact some_of e fun hq => sub_int (hq _ _)
  | Mult => exact ite_some e fun h hq => mul_int (hq _ _) (.of_left h)
  | Mod => exact ite_some e fun h hq => mod_int h (hq _ _)
  | FloorDiv => exact ite_some e fun h hq => floordiv_int h.1 (hq _ _) (.inl (noPylong h.2))
  | RShift => exact ite_some e fun h hq => rshift_int h (hq _ _)
  | _ => exact nomatch e
theorem binK_sound {op : Operator} {a b : AV} {va vb : Value} (I : Inv C Γ env W st s.heap) (ha : VR W a va) (hb : VR W b vb) : Run C Γ env W A s (binaryOp op va vb) (binK op a b st) VR :=
  .obind fun x hx => .obind fun y hy => .omap fun z hz => ha.intE (P := fun va => Run C Γ env W A s (binaryOp op va vb) _ VR) hx fun t => hb.intE (P := fun vb => Run C Γ env W A s (binaryOp op _ vb) _ VR) hy fun u =>
    .mk1 fun Q E hq => binI_sound hz fun tk w => hq _ W _ tk I (.refl ..) (.int z w)

noncomputable def isNone : AV → Option Bool
  | .none => some true
  | .bool _ | .int _ | .str _ | .tup _ | .lst _ | .obj _ | .rng _ _ _ | .nxt _ => some false
  | .val _ => none
noncomputable def cmpI (op : CmpOp) (x y : Int) : Option Bool := match op with
  | .Lt => some (decide (x < y))
  | .Gt => some (decide (y < x))
  | .Eq => some (x == y)
  | .NotEq => some (x != y)
  | .LtE => some (decide (x ≤ y))
  | .GtE => some (decide (y ≤ x))
  | _ => none
noncomputable def cmpK (op : CmpOp) (a b : AV) : K AV := fun st => match op with
  | .Is => if b.isN = true then (isNone a).map fun c => (.bool c, st) else none
  | .IsNot => if b.isN = true then (isNone a).map fun c => (.bool (!c), st) else none
  | op => a.int?.bind fun x => b.int?.bind fun y => (cmpI op x y).map fun c => (.bool c, st)

theorem isNone_sound {a : AV} {v : Value} {b : Bool} (hv : VR W a v) (e : isNone a = some b) : plainIs v .none = true ∧ (v == .none) = b := by
  cases hv <;> cases e <;> exact ⟨rfl, rfl⟩
@[elab_as_elim] theorem VR.noneE {a : AV} {v : Value} {P : Value → Prop} (h : VR W a v) (e : a.isN = true) (k : P .none) : P v := by
  cases h <;> cases e
  exact k
theorem cmpI_sound {op : CmpOp} {x y : Int} {c : Bool} {t u : Tok} {s : Shared} {Q E : Value → Shared → Prop} (e : cmpI op x y = some c) (hq : Q (.bool c) s) : wpAny (model C.prog C.w) A (compareOp op (.int x t) (.int y u)) Q E s := by
  revert hq
  cases op with
  | Lt => exact some_of e lt_int
  | Gt => exact some_of e gt_int
  | Eq => exact some_of e eq_int
  | NotEq => exact some_of e ne_int
  | LtE => exact some_of e le_int
  | GtE => exact some_of e ge_int
  | _ => exact nomatch e
theorem cmpK_sound {op : CmpOp} {a b : AV} {va vb : Value} (I : Inv C Γ env W st s.heap) (ha : VR W a va) (hb : VR W b vb) : Run C Γ env W A s (compareOp op va vb) (cmpK op a b st) VR := by
  have gen : ∀ op, Run C Γ env W A s (compareOp op va vb) (a.int?.bind fun x => b.int?.bind fun y => (cmpI op x y).map fun c => (.bool c, st)) VR := fun op =>
    .obind fun x hx => .obind fun y hy => .omap fun c hc => ha.intE (P := fun va => Run C Γ env W A s (compareOp op va vb) _ VR) hx fun t => hb.intE (P := fun vb => Run C Γ env W A s (compareOp op _ vb) _ VR) hy fun u =>
      .mk1 fun Q E hq => cmpI_sound hc (hq _ W _ _ I (.refl ..) (.bool c))
  cases op with
  | Is => exact .ite fun hb' => .omap fun c hc => hb.noneE (P := fun vb => Run C Γ env W A s (compareOp .Is va vb) _ VR) hb' (.mk1 fun Q E hq => let ⟨h1, h2⟩ := isNone_sound ha hc; wpAny_is_plain h1 (h2 ▸ hq _ W _ _ I (.refl ..) (.bool _)))
  | IsNot => exact .ite fun hb' => .omap fun c hc => hb.noneE (P := fun vb => Run C Γ env W A s (compareOp .IsNot va vb) _ VR) hb' (.mk1 fun Q E hq => let ⟨h1, h2⟩ := isNone_sound ha hc; wpAny_isNot_plain h1 (h2 ▸ hq _ W _ _ I (.refl ..) (.bool _)))
  | _ => exact gen _

noncomputable def truthK (a : AV) : K Bool := fun st => match a with
  | .bool b => some (b, st)
  | .none => some (false, st)
  | .int i => some (i != 0, st)
  | a => (litems a st).bind fun vs => if vs.length < 2 ^ 62 then some (!vs.isEmpty, st) else none

end
end Mine
set_option Elab.async false
namespace Mine
open PySem PyProof.Rows

noncomputable def SayN (W : Wd) (Γ : SCx) (k : NameKind) (θ : Nat → Option AV) (m : Str → Option Value) : Prop := ∀ y j a, Γ.tab.lookup y = some (k, j) → θ j = some a → ∃ v, m y = some v ∧ VR W a v
theorem SayN.other {W : Wd} {Γ : SCx} {k k' : NameKind} {θ : Nat → Option AV} {m : Str → Option Value} {x : Str} {i : Nat} {a : AV} (hinj : ∀ x y k k' i, Γ.tab.lookup x = some (k, i) → Γ.tab.lookup y = some (k', i) → x = y)
    (h : SayN W Γ k θ m) (hx : Γ.tab.lookup x = some (k', i)) (hk : k' ≠ k) : SayN W Γ k (upd θ i a) m := fun y j b hy hb => h y j b hy ((upd_ne θ a (fun q => by
  have := hinj _ _ _ _ _ (q ▸ hy) hx
  rw [this, hx] at hy
  exact hk (Prod.mk.inj (Option.some.inj hy)).1)).symm.trans hb)
theorem SayN.same {W : Wd} {Γ : SCx} {k : NameKind} {θ : Nat → Option AV} {m m' : Str → Option Value} {x : Str} {i : Nat} {a : AV} {v : Value} (hinj : ∀ x y k k' i, Γ.tab.lookup x = some (k, i) → Γ.tab.lookup y = some (k', i) → x = y)
    (h : SayN W Γ k θ m) (hx : Γ.tab.lookup x = some (k, i)) (hv : VR W a v) (h1 : m' x = some v) (h2 : ∀ y, y ≠ x → m' y = m y) : SayN W Γ k (upd θ i a) m' := fun y j b hy hb => by
  by_cases hxy : y = x
  · rw [hxy, hx] at hy
    cases hy
    rw [upd_same] at hb
    cases hb
    exact ⟨v, hxy ▸ h1, hv⟩
  · rw [h2 y hxy]
    exact h y j b hy ((upd_ne θ a (fun q => hxy (hinj _ _ _ _ _ (q ▸ hy) hx))).symm.trans hb)
theorem SayN.new {W : Wd} {Γ : SCx} {k : NameKind} {θ : Nat → Option AV} {m m' : Str → Option Value} {x : Str} (h : SayN W Γ k θ m) (hx : Γ.tab.lookup x = none) (h2 : ∀ y, y ≠ x → m' y = m y) : SayN W Γ k θ m' := fun y j b hy hb => by
  rw [h2 y (fun q => by rw [q, hx] at hy; cases hy)]
  exact h y j b hy hb
section
variable {C : Cx} {n : Nat} {Γ : SCx} {env : Env} {W : Wd} {A : Around} {s : Shared} {st : St}

theorem truthK_sound {a : AV} {v : Value} (I : Inv C Γ env W st s.heap) (ha : VR W a v) : Run C Γ env W A s (truthy v) (truthK a st) fun u1 a b => a = b := by
  have key : Run C Γ env W A s (truthy v) ((litems a st).bind fun vs => if vs.length < 2 ^ 62 then some (!vs.isEmpty, st) else none) fun u1 a b => a = b :=
    .obind fun vs e => .ite fun hlt => litemsE I.rel ha e fun l items n hl u1 hlen => .mk1 fun Q E hq =>
      wpAny_truthy_list (isList_of hl) (by omega) (by
        have e : (!items.isEmpty) = !vs.isEmpty := by rw [Array.isEmpty, ← hlen]; cases vs <;> rfl
        rw [e]
        exact hq _ W _ _ I (.refl ..) rfl)
  cases a with
  | none => exact ha.noneE rfl (.now I s.toks rfl fun Q E h => truthy_none h)
  | bool b => cases ha; exact .now I s.toks rfl fun Q E h => wpAny_truthy_bool h
  | int i => exact ha.intE rfl fun t => .now I s.toks rfl fun Q E h => truthy_int h
  | _ => exact key

theorem Te.val {e : Expr} {f : K AV} (he : Ev C n Γ e f) (hs : ∀ env whole, isTrue e env whole = (do let v ← whole; standAt e.pos; holding [v] (truthy v))) : Te C n Γ e (K.bind f truthK) :=
  ⟨fun A env W st s ok I => .step (fun Q E h => wpAny_isTrue_value h (hs _ _)) (he.run A env W st s ok I) fun a st₁ va W1 h1 tk1 I1 k1 v1 => truthK_sound I1 v1⟩
theorem Te.not {x : Expr} {pos : Pos} {f : K Bool} (h : Te C n Γ x f) : Te C n Γ (.UnaryOp .Not x pos) (K.bind f fun b => K.ret (!b)) :=
  ⟨fun A env W st s ok I => .fin (fun Q E h => wpAny_isTrue_Not h) (h.run A env W st s ok I) fun u1 u2 u3 h => congrArg _ h⟩

structure Tes (C : Cx) (n : Nat) (Γ : SCx) (op : BoolOp) (es : List Expr) (f : K Bool) : Prop where
  run : ∀ A env W st s, AOk C n A → Inv C Γ env W st s.heap → Run C Γ env W A s (allTrue op es env) (f st) fun u1 a b => a = b
theorem Tes.and0 : Tes C n Γ .And [] (K.ret true) := ⟨fun A env W st s ok I => .now I s.toks rfl fun Q E h => wpAny_allTrue_And_nil h⟩
theorem Tes.or0 : Tes C n Γ .Or [] (K.ret false) := ⟨fun A env W st s ok I => .now I s.toks rfl fun Q E h => wpAny_allTrue_Or_nil h⟩
theorem Post.now {α β : Type} {R : Wd → β → α → Prop} {b b' : β} {st st' : St} {Q : α → Shared → Prop} {a : α} {h' : Heap} {tk : Nat} (I : Inv C Γ env W st h') (e : some (b, st) = some (b', st')) (hr : R W b a) (hq : Post C Γ env W { s with heap := h', toks := tk } R b' st' Q) : Q a { s with heap := h', toks := tk } := by
  cases e
  exact hq a W h' tk I (.refl ..) hr
theorem Tes.and {x : Expr} {r : List Expr} {f g : K Bool} (h : Te C n Γ x f) (hr : Tes C n Γ .And r g) : Tes C n Γ .And (x :: r) (K.bind f fun b => if b then g else K.ret false) :=
  ⟨fun A env W st s ok I => .stepE (fun Q E h => wpAny_allTrue_And_cons h) (h.run A env W st s ok I) fun a st₁ b W1 h1 tk1 I1 v1 => by
    subst v1
    cases a with
    | true => exact hr.run A env W1 st₁ _ ok I1
    | false => exact fun d st2 e Q E hq => hq.now I1 e rfl⟩
theorem Tes.or {x : Expr} {r : List Expr} {f g : K Bool} (h : Te C n Γ x f) (hr : Tes C n Γ .Or r g) : Tes C n Γ .Or (x :: r) (K.bind f fun b => if b then K.ret true else g) :=
  ⟨fun A env W st s ok I => .stepE (fun Q E h => wpAny_allTrue_Or_cons h) (h.run A env W st s ok I) fun a st₁ b W1 h1 tk1 I1 v1 => by
    subst v1
    cases a with
    | false => exact hr.run A env W1 st₁ _ ok I1
    | true => exact fun d st2 e Q E hq => hq.now I1 e rfl⟩
theorem Te.all {op : BoolOp} {es : List Expr} {pos : Pos} {f : K Bool} (h : Tes C n Γ op es f) : Te C n Γ (.BoolOp op es pos) f :=
  ⟨fun A env W st s ok I v st' e Q E hq => wpAny_isTrue_BoolOp (h.run A env W st s ok I v st' e Q E hq)⟩

theorem Ev.ifx {t b o : Expr} {pos : Pos} {f : K Bool} {g k : K AV} (ht : Te C n Γ t f) (hb : Ev C n Γ b g) (ho : Ev C n Γ o k) : Ev C n Γ (.IfExp t b o pos) (K.bind f fun c => if c then g else k) :=
  ⟨fun A env W st s ok I => .stepE (fun Q E h => wpAny_IfExp h) (ht.run A env W st s ok I) fun a st₁ b W1 h1 tk1 I1 v1 => by
    subst v1
    cases a with
    | true => exact hb.run A env W1 st₁ _ ok I1
    | false => exact ho.run A env W1 st₁ _ ok I1⟩
theorem Ev.not {x : Expr} {pos : Pos} {f : K AV} (h : Ev C n Γ x f) : Ev C n Γ (.UnaryOp .Not x pos) (K.bind f fun a => K.bind (truthK a) fun b => K.ret (.bool (!b))) :=
  ⟨fun A env W st s ok I => .step (fun Q E h => wpAny_UnaryOp h) (h.run A env W st s ok I) fun a st₁ va W1 h1 tk1 I1 k1 v1 => .fin (fun Q E h => not_value h) (truthK_sound I1 v1) fun u1 u2 u3 h => h ▸ .bool _⟩
noncomputable def negK (a : AV) : K AV := fun st => a.int?.map fun i => (.int (-i), st)
theorem Ev.neg {x : Expr} {pos : Pos} {f : K AV} (h : Ev C n Γ x f) : Ev C n Γ (.UnaryOp .USub x pos) (K.bind f negK) :=
  ⟨fun A env W st s ok I => .step (fun Q E h => wpAny_UnaryOp h) (h.run A env W st s ok I) fun a st₁ va W1 h1 tk1 I1 k1 v1 => .omap fun i hi => v1.intE hi fun t => .mk1 fun Q E hq => neg_int (hq _ W1 h1 _ I1 (.refl ..) (.int ..))⟩

noncomputable def setv (i : Nat) (a : AV) : K Unit := fun st => some ((), ⟨upd st.θ i a, st.σ⟩)

theorem Ns.lt' {h : Heap} {a : Addr} {m : Str → Option Value} (x : h.Ns a m) : ∃ o, h.get? a = some o := let ⟨o, _, _, ho, _⟩ := x; ⟨o, ho⟩

theorem Inv.privKeep {p : Addr} {h h' : Heap} (I : Inv C Γ env W st h) (hp : p ∈ priv Γ env) (hs : Heap.SameBut p h h') (ht : ∃ o, h'.get? p = some o)
    (hd : ∀ o es ep, h.get? p = some o → o.data = .dict es ep → ∃ o' es' ep', h'.get? p = some o' ∧ o'.data = .dict es' ep') : Rel C W st.σ h' ∧ Keep W W (priv Γ env) h h' := by
  have k : Keep W W (priv Γ env) h h' := .of (.refl W) (fun b o e u1 n2 => (hs.2 b fun q => n2 (q ▸ hp)).trans e) (fun b o e => by
    by_cases q : b = p
    · rw [q]; exact ht
    · exact ⟨o, (hs.2 b q).trans e⟩) (fun u1 h1 h2 => absurd h1 h2) (fun u1 h => .inl h)
  refine ⟨I.rel.ext (π := [p]) (fun b o e n => (hs.2 b fun q => n (by simp [q])).trans e) (fun q hq => ?_) (fun q hq => ?_), k⟩
  · rw [List.mem_singleton.mp hq]
    obtain ⟨h1, h2, h3, _⟩ := priv_out I.loc p hp
    exact ⟨h1, h2, h3⟩
  · rw [List.mem_singleton.mp hq]; exact hd
theorem Ns.dict {h : Heap} {a : Addr} {m : Str → Option Value} (x : h.Ns a m) : ∃ o es ep, h.get? a = some o ∧ o.data = .dict es ep := let ⟨o, es, ep, ho, hd, _⟩ := x; ⟨o, es, ep, ho, hd⟩

theorem store_loc {x : Str} {i : Nat} {a : AV} {v : Value} (hx : Γ.tab.lookup x = some (.local, i)) (I : Inv C Γ env W st s.heap) (hv : VR W a v) :
    Run C Γ env W A s (storeName env x v) (setv i a st) fun u1 u2 u3 => True := .mk1 fun Q E hq => by
  have L := I.loc
  refine Exists.elim L.loc fun m hm => wpAny_storeName_local (by rw [L.names, hx]; rfl) hm.1 (fun h' hn' hs' => ?_) (by rw [L.kind]; rfl)
  have X := I.privKeep (h' := h') (p := env.locals) List.mem_cons_self hs' (Ns.lt' hn') (fun u1 u2 u3 u4 u5 => Ns.dict hn')
  refine hq () W h' _ ⟨X.1, ⟨L.kind, L.glob, L.blt, L.names, L.inj, ⟨_, hn', SayN.same L.inj hm.2 hx hv (if_pos rfl) fun y hy => if_neg hy⟩, fun y k j hy hk => ?_, L.cinj, fun p hp => ?_, L.top⟩⟩ X.2 trivial
  · obtain ⟨c, ov, h1, h2, h3, h4⟩ := L.cel y k j hy hk
    refine ⟨c, ov, h1, h2, h3.sameBut hs' h2, fun b hb => h4 b ((upd_ne st.θ a fun q => ?_).symm.trans hb)⟩
    subst q
    have := L.inj _ _ _ _ _ hy hx; subst this
    rw [hx] at hy
    exact hk.elim (fun q => by rw [q] at hy; cases hy) fun q => by rw [q] at hy; cases hy
  · have h := L.out p hp
    exact ⟨h.1, h.2.1, h.2.2.1, Exists.elim h.2.2.2 fun o e => X.2.stay p o e⟩

theorem store_cell {x : Str} {i : Nat} {a : AV} {v : Value} (hx : Γ.tab.lookup x = some (.cell, i)) (ho : x ∈ Γ.own) (I : Inv C Γ env W st s.heap) (hv : VR W a v) :
    Run C Γ env W A s (storeName env x v) (setv i a st) fun u1 u2 u3 => True := .mk1 fun Q E hq => by
  have L := I.loc
  obtain ⟨c, ov, hc, hne, hcell, hov⟩ := L.cel x _ i hx (.inl rfl)
  refine wpAny_storeName_cell L.kind (by rw [L.names, hx]; rfl) hc hcell (fun h' hc' hs' => ?_)
  have X := I.privKeep (h' := h') (p := c) (List.mem_cons_of_mem _ (List.mem_filterMap.mpr ⟨x, ho, hc⟩)) hs' (let ⟨o, h1, _⟩ := hc'; ⟨o, h1⟩) (fun o es ep e1 e2 => by obtain ⟨o', h1, h2⟩ := hcell; rw [h1] at e1; cases e1; rw [h2] at e2; cases e2)
  refine hq () W h' s.toks ⟨X.1, ⟨L.kind, L.glob, L.blt, L.names, L.inj, Exists.elim L.loc fun m hm => ⟨m, hm.1.sameBut hs' (Ne.symm hne), SayN.other L.inj hm.2 hx (fun q => nomatch q)⟩, fun y k j hy hk => ?_, L.cinj, fun p hp => ?_, L.top⟩⟩ X.2 trivial
  · by_cases hxy : y = x
    · subst hxy
      rw [hx] at hy; cases hy
      exact ⟨c, some v, hc, hne, hc', fun b hb => ⟨v, rfl, Option.some.inj ((upd_same st.θ i a).symm.trans hb) ▸ hv⟩⟩
    · obtain ⟨d, ov', h1, h2, h3, h4⟩ := L.cel y k j hy hk
      exact ⟨d, ov', h1, h2, h3.sameBut hs' (fun q => hxy (L.cinj _ _ _ h1 (q ▸ hc))), fun b hb => h4 b ((upd_ne st.θ a (fun q => hxy (L.inj _ _ _ _ _ (q ▸ hy) hx))).symm.trans hb)⟩
  · have h := L.out p hp
    exact ⟨h.1, h.2.1, h.2.2.1, Exists.elim h.2.2.2 fun o e => X.2.stay p o e⟩

structure Sto (C : Cx) (Γ : SCx) (x : Str) (i : Nat) : Prop where
  run : ∀ A env W st s a v, Inv C Γ env W st s.heap → VR W a v → Run C Γ env W A s (storeName env x v) (setv i a st) fun u1 u2 u3 => True
theorem Sto.loc {x : Str} {i : Nat} (hx : Γ.tab.lookup x = some (.local, i)) : Sto C Γ x i := ⟨fun u1 u2 u3 u4 u5 u6 u7 I hv => store_loc hx I hv⟩
theorem Sto.cell {x : Str} {i : Nat} (hx : Γ.tab.lookup x = some (.cell, i)) (ho : x ∈ Γ.own) : Sto C Γ x i := ⟨fun u1 u2 u3 u4 u5 u6 u7 I hv => store_cell hx ho I hv⟩

structure As (C : Cx) (n : Nat) (Γ : SCx) (t : Expr) (f : AV → K Unit) : Prop where
  run : ∀ A env W st s a v, AOk C n A → Inv C Γ env W st s.heap → VR W a v → Run C Γ env W A s (assign t env v) (f a st) fun u1 u2 u3 => True
theorem As.name {x : Str} {i : Nat} {pos : Pos} (h : Sto C Γ x i) : As C n Γ (.Name x pos) (setv i) :=
  ⟨fun A env W st s a v u1 I hv r st' e Q E hq => wpAny_assign_Name (h.run A env W st s a v I hv r st' e Q E hq)⟩
theorem Ex.assign {x : Str} {pos' pos : Pos} {value : Expr} {i : Nat} {f : K AV} (h : Ev C n Γ value f) (hx : Sto C Γ x i) (hs : ∀ env, swapsWith value (some (.Name x pos')) pos.line env = pure false) :
    Ex C n Γ (.Assign [.Name x pos'] value pos) (K.bind f fun a => K.bind (setv i a) fun u1 => K.ret .next) :=
  ⟨fun A env W st s ok I => .stepE (fun Q E h => wpAny_Assign_Name h (hs env)) (h.run A env W st s ok I) fun a st₁ va W1 h1 tk1 I1 v1 =>
    Run.finE (k := fun u1 => Flow.next) (R' := FR) (hx.run A env W1 st₁ _ a va I1 v1) fun u1 u2 u3 u4 => .next⟩
theorem Ex.expr {e : Expr} {pos : Pos} {f : K AV} (h : Ev C n Γ e f) (hs : ∀ env, swapsWith e none pos.line env = pure false) : Ex C n Γ (.Expr e pos) (K.bind f fun u1 => K.ret .next) :=
  ⟨fun A env W st s ok I => .fin (k := fun u1 => Flow.next) (fun Q E h => wpAny_Expr_any h (by unfold interactive; rw [I.loc.kind]; rfl) (hs env)) (h.run A env W st s ok I) fun u1 u2 u3 u4 => .next⟩
theorem Ex.pass {pos : Pos} : Ex C n Γ (.Pass pos) (K.ret .next) := ⟨fun A env W st s ok I => .now I s.toks .next fun Q E h => wpAny_Pass h⟩
theorem Ex.brk {pos : Pos} : Ex C n Γ (.Break pos) (K.ret .brk) := ⟨fun A env W st s ok I => .now I s.toks .brk fun Q E h => wpAny_Break h⟩
theorem Ex.cont {pos : Pos} : Ex C n Γ (.Continue pos) (K.ret .cont) := ⟨fun A env W st s ok I => .now I s.toks .cont fun Q E h => wpAny_Continue h⟩
theorem Ex.ret {e : Expr} {pos : Pos} {f : K AV} (h : Ev C n Γ e f) : Ex C n Γ (.Return (some e) pos) (K.bind f fun a => K.ret (.ret a)) :=
  ⟨fun A env W st s ok I => .fin (fun Q E h => wpAny_Return_some h) (h.run A env W st s ok I) fun u1 u2 u3 h => .ret h⟩
theorem Ex.ret0 {pos : Pos} : Ex C n Γ (.Return none pos) (K.ret (.ret .none)) := ⟨fun A env W st s ok I => .now I s.toks (.ret .none) fun Q E h => wpAny_Return_none h⟩
theorem Ex.ite {t : Expr} {b o : List Stmt} {pos : Pos} {f : K Bool} {g k : K Fl} (ht : Te C n Γ t f) (hb : Exs C n Γ b g) (ho : Exs C n Γ o k) : Ex C n Γ (.If t b o pos) (K.bind f fun c => if c then g else k) :=
  ⟨fun A env W st s ok I => .stepE (fun Q E h => wpAny_If h) (ht.run A env W st s ok I) fun a st₁ b W1 h1 tk1 I1 v1 => by
    subst v1
    cases a with
    | true => exact hb.run A env W1 st₁ _ ok I1
    | false => exact ho.run A env W1 st₁ _ ok I1⟩
theorem Exs.nil : Exs C n Γ [] (K.ret .next) := ⟨fun A env W st s ok I => .now I s.toks .next fun Q E h => wpAny_execs_nil h⟩
noncomputable def thenK (f : K Fl) (g : K Fl) : K Fl := K.bind f fun fl => match fl with
  | .next => g
  | fl => K.ret fl
theorem Exs.cons {x : Stmt} {r : List Stmt} {f g : K Fl} (h : Ex C n Γ x f) (hr : Exs C n Γ r g) : Exs C n Γ (x :: r) (thenK f g) :=
  ⟨fun A env W st s ok I => .stepE (fun Q E h => wpAny_execs_cons h) (h.run A env W st s ok I) fun a st₁ b W1 h1 tk1 I1 v1 => by
    cases v1 with
    | next => exact hr.run A env W1 st₁ _ ok I1
    | brk => exact fun d st2 e Q E hq => hq.now I1 e .brk
    | cont => exact fun d st2 e Q E hq => hq.now I1 e .cont
    | ret hv => exact fun d st2 e Q E hq => hq.now I1 e (.ret hv)⟩
noncomputable def whileA (t : K Bool) (b o : K Fl) : Nat → K Fl
  | 0 => K.fail
  | N + 1 => K.bind t fun c => if c then K.bind b fun fl => (match fl with
      | .next | .cont => whileA t b o N
      | .brk => K.ret .next
      | .ret v => K.ret (.ret v)) else o
theorem whileA_mono {t : K Bool} {b o : K Fl} {r : Fl × St} : ∀ {N M : Nat} {st : St}, whileA t b o N st = some r → N ≤ M → whileA t b o M st = some r := by
  intro N
  induction N with
  | zero => exact fun h => nomatch h
  | succ N ih =>
    intro M st h hl
    cases M with
    | zero => exact absurd hl (Nat.not_succ_le_zero _)
    | succ M =>
      refine K.bindE (b := r.1) (st' := r.2) h fun c st₁ e1 e => (K.bind_some e1).trans ?_
      cases c with
      | false => exact e
      | true =>
        refine K.bindE (b := r.1) (st' := r.2) e fun fl st₂ e2 e => (K.bind_some e2).trans ?_
        cases fl with
        | next => exact ih e (Nat.le_of_succ_le_succ hl)
        | cont => exact ih e (Nat.le_of_succ_le_succ hl)
        | brk => exact e
        | ret v => exact e
open Classical in
noncomputable def whileW (t : K Bool) (b o : K Fl) : K Fl := fun st => if h : ∃ N r, whileA t b o N st = some r then some h.choose_spec.choose else none
theorem whileW_iff {t : K Bool} {b o : K Fl} {st : St} {r : Fl × St} : whileW t b o st = some r ↔ ∃ N, whileA t b o N st = some r := by
  unfold whileW
  constructor
  · intro e
    split at e
    · rename_i h
      cases e
      exact ⟨_, h.choose_spec.choose_spec⟩
    · cases e
  · rintro ⟨N, e⟩
    have h : ∃ N r, whileA t b o N st = some r := ⟨N, r, e⟩
    rw [dif_pos h]
    have h2 := h.choose_spec.choose_spec
    have a1 := whileA_mono e (Nat.le_max_left N h.choose)
    have a2 := whileA_mono h2 (Nat.le_max_right N h.choose)
    rw [a1] at a2
    exact a2.symm

theorem Ex.while {t : Expr} {b o : List Stmt} {pos : Pos} {f : K Bool} {g k : K Fl} (ht : Te C n Γ t f) (hb : Exs C n Γ b g) (ho : Exs C n Γ o k) : Ex C n Γ (.While t b o pos) (whileW f g k) := by
  refine ⟨fun A env W st s ok I v st' e Q E hq => ?_⟩
  refine Exists.elim (whileW_iff.mp e) fun N e => ?_
  refine wpAny_While (codeAny_whileLoop (fun m s₁ => At C Γ env W s (fun u1 st₁ u2 => whileA f g k m st₁ = some (v, st')) s₁) ?_ N ⟨I, .refl .., e⟩)
  clear e I
  intro m s₁ a
  cases a with
  | mk I₁ k₁ e =>
    cases m with
    | zero => exact nomatch e
    | succ m =>
      refine K.bindE e fun c st₂ e1 e => ht.run A env _ _ _ ok I₁ c st₂ e1 _ _ fun c' W2 h2 tk2 I2 k2 v2 => ?_
      subst v2
      replace k₁ := k₁.trans k2
      clear I₁ e1 k2
      cases c with
      | false => exact ho.run A env W2 st₂ _ ok I2 _ _ e _ _ fun fl W3 h3 tk3 I3 k3 v3 => hq fl W3 h3 tk3 I3 (k₁.trans k3) v3
      | true =>
        refine K.bindE e fun fl st₃ e2 e => hb.run A env W2 st₂ _ ok I2 fl st₃ e2 _ _ fun fl' W3 h3 tk3 I3 k3 v3 => ?_
        replace k₁ := k₁.trans k3
        clear I2 e2 k3
        cases v3 with
        | next => exact ⟨m, Nat.lt_succ_self m, I3, k₁, e⟩
        | cont => exact ⟨m, Nat.lt_succ_self m, I3, k₁, e⟩
        | brk => cases e; exact hq _ W3 h3 tk3 I3 k₁ .next
        | ret hv => cases e; exact hq _ W3 h3 tk3 I3 k₁ (.ret hv)
end
end Mine
set_option Elab.async false
namespace Mine
open PySem PyProof.Rows PySem.W

noncomputable def Fn (C : Cx) (n : Nat) (f : Value) (F : List AV → List AO → Option (AV × List AO)) : Prop :=
  ∀ A Wd σ (s : Shared) args vs, AOk C n A → Rel C Wd σ s.heap → VRs Wd args vs → ∀ r σ', F args σ = some (r, σ') → ∀ (Q : Value → Shared → Prop) (E : Value → Shared → Prop),
    (∀ v W' h' tk, Rel C W' σ' h' → Keep Wd W' [] s.heap h' → VR W' r v → Q v { s with heap := h', toks := tk }) → wpAny (model C.prog C.w) A (call f vs) Q E s

theorem Fn.less {C : Cx} {n m : Nat} {f : Value} {F} (h : Fn C n f F) (hl : n ≤ m) : Fn C m f F := fun A Wd σ s args vs ok => h A Wd σ s args vs (ok.less hl)

noncomputable def Cal (C : Cx) (n : Nat) (Γ : SCx) (f : Value) (F : List AV → K AV) : Prop :=
  ∀ A env Wd st (s : Shared) args vs, AOk C n A → Inv C Γ env Wd st s.heap → VRs Wd args vs → Run C Γ env Wd A s (call f vs) (F args st) VR

noncomputable def liftF (F : List AV → List AO → Option (AV × List AO)) (args : List AV) : K AV := fun st => (F args st.σ).map fun p => (p.1, ⟨st.θ, p.2⟩)

section
variable {C : Cx} {n : Nat} {Γ : SCx} {env : Env} {Wd : Wd} {A : Around} {s : Shared} {st : St}

theorem Cal.fn {f : Value} {F} (h : Fn C n f F) : Cal C n Γ f (liftF F) := fun A env W st s args vs ok I hv => .omap fun p e1 => .mk1 fun Q E hq =>
  h A W st.σ s args vs ok I.rel hv p.1 p.2 e1 Q E fun v W' h' tk R k hr => hq v W' h' tk (I.keep R k) k.wide hr

noncomputable def Callee (C : Cx) (f : Value) : Prop := ∀ M h, (∀ b o, C.h₀.get? b = some o → h.get? b = some o) → ∃ k, Looks M h (keeperOf f) k
theorem Callee.builtin {id : String} : Callee C (.builtin id) := fun u1 u2 u3 => ⟨.machine, Looks.of_pure rfl⟩
theorem Callee.type {T : String} : Callee C (.type T) := fun u1 u2 u3 => ⟨.machine, Looks.of_pure rfl⟩
theorem Callee.func {a : Addr} {o : Obj} {fd : FuncData} (h : C.h₀.get? a = some o) (hd : o.data = .func fd) : Callee C (.ref a) := fun M h' hk => ⟨.frame, by
  unfold keeperOf
  refine (Looks.ld (part := none) (hk _ _ h)).andThen ?_
  rw [hd]; exact .now⟩
theorem Callee.k {a : Addr} (x : C.K.In C.h₀) (h : keepIn C.K (.ref a) = true) : Callee C (.ref a) := fun M h' hk => by
  obtain ⟨k, _, hl⟩ := keeps_K (M := M) h h' (x.keeps hk)
  exact ⟨k, hl⟩

theorem callWith_gen {M : Model} {f : Value} {first : List Value} {pos : Pos} {E : Value → Shared → Prop} {Q : Value → Shared → Prop} {P : Heap → Prop} {args : List (Bool × Sem Value)} {keywords : List (Option Str × Sem Value)}
    (hk : ∀ h, P h → ∃ k, Looks M h (keeperOf f) k)
    (h : wpAny M A (evalArgs f true args keywords) (fun a s₁ => P s₁.heap ∧ wpAny M A (call f (first ++ a.pos) a.kw) Q E s₁) E s) : wpAny M A (callWith pos f first args keywords) Q E s := by
  unfold callWith
  refine wpAny_bind (wpAny_holding (wpAny_mono h (fun a s₁ h₁ => wpAny_bind (wpAny_standAt ?_)) fun u1 u2 x => x))
  obtain ⟨k, L⟩ := hk _ h₁.1
  refine wpAny_bind (L.here ?_)
  have tail : ∀ {t : Sem Value}, wpAny M A t Q E s₁ → wpAny M A (t >>= fun r => holding [r] point >>= fun u1 => pure r) Q E s₁ :=
    fun ht => wpAny_bind (wpAny_mono ht (fun r s₂ hr => wpAny_bind (wpAny_holding (wpAny_point (wpAny_pure hr)))) fun u1 u2 x => x)
  have marked (mk : Value) : wpAny M A (callMarked mk f (first ++ a.pos) a.kw) Q E s₁ := by unfold callMarked; exact Calls.wpAny_keep h₁.2
  cases hs : (args.any (fun x => x.1) || keywords.any (fun x => x.1.isNone)) <;> cases k <;> dsimp only <;>
    first | exact tail h₁.2 | exact tail (marked _) | exact tail (wpAny_operating h₁.2) | (split <;> first | exact tail h₁.2 | exact tail (marked _))

structure Eas (C : Cx) (n : Nat) (Γ : SCx) (args : List Expr) (f : K (List AV)) : Prop where
  run : ∀ pos A env Wd st s, AOk C n A → Inv C Γ env Wd st s.heap → Run C Γ env Wd A s (spliced (backTo pos (starEach args env))) (f st) VRs
theorem Eas.nil : Eas C n Γ [] (K.ret []) := ⟨fun pos A env W st s ok I => .now I s.toks .nil fun Q E h => Calls.spliced_nil h⟩
theorem Eas.cons {e : Expr} {r : List Expr} {f : K AV} {g : K (List AV)} (h : Ev C n Γ e f) (hr : Eas C n Γ r g) (he : ∀ env, starEach (e :: r) env = (false, eval e env) :: starEach r env) :
    Eas C n Γ (e :: r) (K.bind f fun a => K.bind g fun as => K.ret (a :: as)) :=
  ⟨fun pos A env W st s ok I v st' e Q E hq => K.bindE e fun a st₁ e1 e => K.bindE e fun as st₂ e2 e => by
    cases e
    exact wpAny_items_cons (h.run A env W st s ok I _ _ e1 _ _ fun va W1 h1 tk1 I1 k1 v1 => hr.run pos A env W1 st₁ _ ok I1 _ _ e2 _ _ fun vs W2 h2 tk2 I2 k2 v2 => hq _ W2 h2 tk2 I2 (k1.trans k2) (.cons (v1.mono k2.le) v2)) (he env)⟩

structure Ear (C : Cx) (n : Nat) (Γ : SCx) (args : List Expr) (kws : List Keyword) (f : K (List AV × List (Str × AV))) : Prop where
  run : ∀ pos fv A env Wd st s, AOk C n A → Inv C Γ env Wd st s.heap → Run C Γ env Wd A s (evalArgs fv true (backTo pos (starEach args env)) (backToKw pos (keywordEach kws env))) (f st)
    fun W p a => VRs W p.1 a.pos ∧ a.kw.map (fun x => x.1) = p.2.map (fun x => x.1) ∧ VRs W (p.2.map (fun x => x.2)) (a.kw.map (fun x => x.2))
noncomputable def isStar : Expr → Bool
  | .Starred .. => true
  | _ => false
noncomputable def lone : List Expr → Bool
  | [e] => isStar e
  | _ => false
theorem starEach_cons (e : Expr) (r : List Expr) (env : Env) : ∃ t, starEach (e :: r) env = (isStar e, t) :: starEach r env ∧ (isStar e = false → t = eval e env) := by
  cases e with
  | Starred => exact ⟨_, rfl, nofun⟩
  | _ => exact ⟨_, rfl, fun u1 => rfl⟩
theorem starEach_plain {e : Expr} {r : List Expr} {env : Env} (h : isStar e = false) : starEach (e :: r) env = (false, eval e env) :: starEach r env :=
  Exists.elim (starEach_cons e r env) fun t q => by rw [q.1, h, q.2 h]
noncomputable def lone1 : List (Bool × Sem Value) → Bool
  | [(b, _)] => b
  | _ => false
theorem lone1_of {args : List Expr} {env : Env} {pos : Pos} (h : lone args = false) : lone1 (backTo pos (starEach args env)) = false := by
  cases args with
  | nil => rfl
  | cons e r =>
    refine Exists.elim (starEach_cons e r env) fun t q => ?_
    rw [q.1]
    cases r with
    | nil => exact h
    | cons e' r => exact Exists.elim (starEach_cons e' r env) fun t' q' => by rw [q'.1]; rfl
theorem wpAny_evalArgs {M : Model} {fv : Value} {Q : Args → Shared → Prop} {E : Value → Shared → Prop} {l : List (Bool × Sem Value)} {kws : List (Option Str × Sem Value)} (hl : lone1 l = false) (hk : kws.all (fun x => x.1.isSome) = true)
    (h : wpAny M A (spliced l) (fun ps s₁ => wpAny M A (evalAll (kws.map (fun x => x.2))) (fun ks s₂ => Q ⟨ps, (kws.filterMap (fun x => x.1)).zip ks⟩ s₂) E s₁) E s) : wpAny M A (evalArgs fv true l kws) Q E s := by
  have fin : wpAny M A (spliced l >>= fun ps => holding (ps ++ (none : Option Value).toList) (do
      if (kws.all (fun x => x.1.isSome)) then
        let kw := (kws.filterMap (fun x => x.1)).zip (← evalAll (kws.map (fun x => x.2)))
        return ⟨← (pure ps : Sem (List Value)), kw⟩
      let d ← mergedKeywords fv kws
      let ps ← (pure ps : Sem (List Value))
      return ⟨ps, ← holding (.ref d :: ps) (keywordsIn fv d)⟩)) Q E s := by
    refine wpAny_bind (wpAny_mono h (fun vs s' h' => wpAny_holding ?_) fun u1 u2 x => x)
    rw [hk]
    exact wpAny_bind (wpAny_mono h' (fun ks s'' hh => wpAny_bind (wpAny_pure (wpAny_pure hh))) fun u1 u2 x => x)
  clear h
  cases l with
  | nil => exact fin
  | cons p r =>
    obtain ⟨b, x⟩ := p
    cases r with
    | nil => cases hl; exact fin
    | cons q r => cases b <;> exact fin
theorem Ear.plain {args : List Expr} {f : K (List AV)} (h : Eas C n Γ args f) (hl : lone args = false) : Ear C n Γ args [] (K.bind f fun as => K.ret (as, [])) :=
  ⟨fun pos fv A env W st s ok I => .fin (k := fun vs => ⟨vs, []⟩) (fun Q E h => wpAny_evalArgs (lone1_of hl) rfl (wpAny_mono h (fun u1 u2 h => wpAny_pure h) fun u1 u2 x => x)) (h.run pos A env W st s ok I) fun u1 u2 u3 h => ⟨h, rfl, .nil⟩⟩

theorem Ev.call {x : Str} {np pos : Pos} {args : List Expr} {f : Value} {g : K (List AV)} {F : List AV → K AV} (hf : Ev C n Γ (.Name x np) (K.ret (.val f))) (hc : Callee C f) (ha : Eas C n Γ args g) (hl : lone args = false) (hF : Cal C n Γ f F) :
    Ev C n Γ (.Call (.Name x np) args [] pos) (K.bind g F) := by
  refine ⟨fun A env W st s ok I v st' e Q E hq => ?_⟩
  refine wpAny_Call_ofName (hf.run A env W st s ok I _ _ rfl _ _ fun fv W0 h0 tk0 I0 k0 v0 => ?_)
  cases v0
  refine callWith_gen (P := fun h => ∀ b o, C.h₀.get? b = some o → h.get? b = some o) (hc _) (wpAny_evalArgs (lone1_of hl) rfl ?_)
  refine K.bindE e fun as st₁ e1 e => ha.run pos A env W0 st { s with heap := h0, toks := tk0 } ok I0 as st₁ e1 _ _ fun vs W1 h1 tk1 I1 k1 hp => wpAny_pure ⟨I1.rel.old, ?_⟩
  exact hF A env W1 st₁ { s with heap := h1, toks := tk1 } as vs ok I1 hp v st' e _ _ fun r W2 h2 tk2 I2 k2 v2 => hq r W2 h2 tk2 I2 (k0.trans (k1.trans k2)) v2
end
end Mine
set_option Elab.async false
namespace Mine
open PySem PyProof.Rows PySem.W

noncomputable def numb : Nat → List (Str × NameKind) → List (Str × NameKind × Nat)
  | _, [] => []
  | i, (x, k) :: r => (x, k, i) :: numb (i + 1) r
noncomputable def scx (sc : Scope) : SCx := { tab := numb 0 sc.names, own := (sc.names.filter (·.2 == .cell)).map (fun x => x.1) }

theorem numb_names (x : Str) : ∀ (l : List (Str × NameKind)) (i : Nat), ((numb i l).lookup x).map (fun x => x.1) = l.lookup x
  | [], _ => rfl
  | (y, k) :: r, i => by
    simp only [numb, List.lookup_cons]
    cases x == y with
    | true => rfl
    | false => exact numb_names x r (i + 1)
theorem numb_ge {x : Str} {k : NameKind} {j : Nat} : ∀ {l : List (Str × NameKind)} {i : Nat}, (numb i l).lookup x = some (k, j) → i ≤ j
  | (y, k') :: r, i, h => by
    simp only [numb, List.lookup_cons] at h
    cases hb : x == y with
    | true => rw [hb] at h; cases h; exact Nat.le_refl _
    | false => rw [hb] at h; exact Nat.le_of_succ_le (numb_ge h)
theorem numb_inj {x y : Str} {k k' : NameKind} {j : Nat} : ∀ {l : List (Str × NameKind)} {i : Nat}, (numb i l).lookup x = some (k, j) → (numb i l).lookup y = some (k', j) → x = y
  | (z, kz) :: r, i, h, h' => by
    simp only [numb, List.lookup_cons] at h h'
    cases hx : x == z with
    | true =>
      rw [hx] at h; cases h
      cases hy : y == z with
      | true => rw [beq_iff_eq.mp hx, beq_iff_eq.mp hy]
      | false => rw [hy] at h'; have := numb_ge h'; omega
    | false =>
      rw [hx] at h
      cases hy : y == z with
      | true => rw [hy] at h'; cases h'; have := numb_ge h; omega
      | false => rw [hy] at h'; exact numb_inj h h'

theorem cells_there {x : Str} : ∀ (l : List (Str × NameKind)) (n : Nat) (acc : List (Str × Addr)), (acc.lookup x).isSome = true ∨ (x, NameKind.cell) ∈ l → ((cellsFrom n l acc).lookup x).isSome = true
  | [], _, _, h => h.elim id fun q => nomatch q
  | (y, k) :: r, n, acc, h => by
    unfold cellsFrom
    split
    · refine cells_there r _ _ ?_
      rcases h with h | h
      · left
        rw [List.lookup_cons]
        cases x == y
        · exact h
        · rfl
      · rcases List.mem_cons.mp h with e | h
        · left
          cases e
          simp [List.lookup_cons]
        · exact .inr h
    · rename_i hk
      refine cells_there r _ _ ?_
      rcases h with h | h
      · exact .inl h
      · rcases List.mem_cons.mp h with e | h
        · cases e; exact absurd rfl hk
        · exact .inr h

noncomputable def θbind (Γ : SCx) : List (Str × AV) → (Nat → Option AV) → Nat → Option AV
  | [], θ => θ
  | (x, a) :: r, θ => θbind Γ r (match Γ.tab.lookup x with | some (_, i) => upd θ i a | none => θ)

inductive BindsR (W : Wd) : List (Str × AV) → List (Str × Value) → Prop
  | nil : BindsR W [] []
  | cons {x a v r r'} : VR W a v → BindsR W r r' → BindsR W ((x, a) :: r) ((x, v) :: r')
theorem BindsR.mono {W W' : Wd} (x : W.Le W') {a b} (h : BindsR W a b) : BindsR W' a b := by
  induction h with
  | nil => exact .nil
  | cons h _ ih => exact .cons (h.mono x) ih
theorem BindsR.names {W : Wd} {a b} (h : BindsR W a b) : b.map (fun x => x.1) = a.map (fun x => x.1) := by
  induction h with
  | nil => rfl
  | cons _ _ ih => simp [ih]

theorem θbind_ok {W : Wd} {Γ : SCx} {kindOf : Str → Option NameKind} (hk : ∀ x, kindOf x = (Γ.tab.lookup x).map (fun x => x.1)) (hinj : ∀ x y k k' i, Γ.tab.lookup x = some (k, i) → Γ.tab.lookup y = some (k', i) → x = y) {ab vb} (h : BindsR W ab vb) :
    ∀ (θ : Nat → Option AV) (m cm : Str → Option Value), SayN W Γ .local θ m → SayN W Γ .cell θ cm → SayN W Γ .local (θbind Γ ab θ) (bindL kindOf vb m) ∧ SayN W Γ .cell (θbind Γ ab θ) (bindC kindOf vb cm) := by
  induction h with
  | nil => exact fun u1 u2 u3 h1 h2 => ⟨h1, h2⟩
  | @cons x a v r r' hv _ ih =>
    intro θ m cm h1 h2
    unfold θbind bindL bindC
    have kx := hk x
    cases hx : Γ.tab.lookup x with
    | none =>
      rw [hx] at kx
      rw [kx]
      exact ih _ _ _ h1 (h2.new hx fun y hy => if_neg hy)
    | some p =>
      obtain ⟨k, i⟩ := p
      rw [hx] at kx
      rw [kx]
      by_cases hkl : k = .local
      · subst hkl
        exact ih _ _ _ (h1.same hinj hx hv (if_pos rfl) fun y hy => if_neg hy) (h2.other hinj hx (fun q => nomatch q))
      · have e : ∀ {α : Type} (f g : α), (if (Option.map (fun x => x.1) (some (k, i)) = some NameKind.local) then f else g) = g := fun f g => if_neg (fun q => hkl (Option.some.inj q))
        rw [e, e]
        refine ih _ _ _ (h1.other hinj hx hkl) ?_
        by_cases hkc : k = .cell
        · subst hkc
          exact h2.same hinj hx hv (if_pos rfl) fun y hy => if_neg hy
        · exact fun y j b hy hb => by
            have hne : y ≠ x := fun q => by rw [q, hx] at hy; cases hy; exact hkc rfl
            exact Exists.elim (h2.other hinj hx hkc y j b hy hb) fun v' q => ⟨v', (if_neg hne).trans q.1, q.2⟩

noncomputable def FnK (C : Cx) (n : Nat) (f : Value) (F : List AV → List (Str × AV) → List AO → Option (AV × List AO)) : Prop :=
  ∀ A Wd σ (s : Shared) args kws vs kvs, AOk C n A → Rel C Wd σ s.heap → VRs Wd args vs → BindsR Wd kws kvs → ∀ r σ', F args kws σ = some (r, σ') → ∀ (R : Result → Shared → Prop),
    (∀ v W' h' tk, Rel C W' σ' h' → Keep Wd W' [] s.heap h' → VR W' r v → R (.ok (.ret v)) { s with heap := h', toks := tk }) → codeAny (model C.prog C.w) A (.call f ⟨vs, kvs⟩) R s
theorem FnK.fn {C : Cx} {n : Nat} {f : Value} {F} (h : FnK C n f F) : Fn C n f fun args σ => F args [] σ :=
  fun A Wd σ s args vs ok R hv r σ' e Q E hq => wpAny_call (h A Wd σ s args [] vs [] ok R hv .nil r σ' e _ hq)
theorem FnK.less {C : Cx} {n m : Nat} {f : Value} {F} (h : FnK C n f F) (hl : n ≤ m) : FnK C m f F := fun A Wd σ s args kws vs kvs ok => h A Wd σ s args kws vs kvs (ok.less hl)

noncomputable def PostB (C : Cx) (W : Wd) (s : Shared) (Q : List (Str × Value) → Shared → Prop) (p : List (Str × AV) × List AO) : Prop := ∀ vb W' h' tk, Rel C W' p.2 h' → Keep W W' [] s.heap h' → BindsR W' p.1 vb → Q vb { s with heap := h', toks := tk }
theorem PostB.now {C : Cx} {W : Wd} {s : Shared} {ab : List (Str × AV)} {σ : List AO} {vb : List (Str × Value)} {Q : List (Str × Value) → Shared → Prop} (hq : PostB C W s Q (ab, σ)) (R : Rel C W σ s.heap) (h : BindsR W ab vb) : Q vb s := hq _ W s.heap s.toks R (.refl ..) h
theorem wpAny_eq {α : Type} {M : Model} {A : Around} {s : Shared} {t t' : Sem α} {Q : α → Shared → Prop} {E : Value → Shared → Prop} (e : t = t') (h : wpAny M A t' Q E s) : wpAny M A t Q E s := e ▸ h
noncomputable def Binds (C : Cx) (fd : FuncData) (B : List AV → List (Str × AV) → List AO → Option (List (Str × AV) × List AO)) : Prop :=
  ∀ A Wd σ (s : Shared) args kws vs kvs, Rel C Wd σ s.heap → VRs Wd args vs → BindsR Wd kws kvs → ∀ p, B args kws σ = some p → ∀ (Q : List (Str × Value) → Shared → Prop) (E : Value → Shared → Prop), PostB C Wd s Q p → wpAny (model C.prog C.w) A (bindArgs fd ⟨vs, kvs⟩) Q E s

noncomputable def retOf : Fl → AV
  | .ret v => v
  | _ => .none

structure FdOk (C : Cx) (a : Addr) (fd : FuncData) (body : List Stmt) : Prop where
  o : ∃ o, C.h₀.get? a = some o ∧ o.data = .func fd
  body : fd.body = .stmts body
  code : C.h₀.CodeRec fd.code fd.qualname
  clo : fd.closure = []
  glob : fd.globals = mainGlobals
  blt : fd.builtins = builtinsNs
  co : fd.scope.isCoroutine = false
  gen : fd.scope.isGenerator = false
  kind : fd.scope.kind = .function
  nofree : fd.scope.names.all (fun x => x.2 != .free) = true

theorem FdOk.callee {C : Cx} {a : Addr} {fd : FuncData} {body : List Stmt} (h : FdOk C a fd body) : Callee C (.ref a) := let ⟨_, h1, h2⟩ := h.o; .func h1 h2

theorem bind_kinds {names : List (Str × NameKind)} {ab : List (Str × AV)} (h : (ab.all fun x => (names.lookup x.1 == some .local) || (names.lookup x.1 == some .cell)) = true) {W : Wd} {vb : List (Str × Value)} (hb : BindsR W ab vb) (n : Nat) :
    ∀ x ∈ vb, names.lookup x.1 = some .local ∨ (names.lookup x.1 = some .cell ∧ ((cellsFrom n names []).lookup x.1).isSome = true) := by
  intro x hx
  have hm : x.1 ∈ ab.map (fun x => x.1) := by rw [← hb.names]; exact List.mem_map_of_mem hx
  obtain ⟨y, hy, e⟩ := List.mem_map.mp hm
  have := List.all_eq_true.mp h y hy
  rw [e] at this
  rcases Bool.or_eq_true_iff.mp this with q | q
  · exact .inl (beq_iff_eq.mp q)
  · exact .inr ⟨beq_iff_eq.mp q, cells_there _ _ _ (.inr (lookup_mem (beq_iff_eq.mp q)))⟩

theorem Rel.above {C : Cx} {W : Wd} {σ : List AO} {h : Heap} (R : Rel C W σ h) {p : Addr} (hp : h.objs.size ≤ p) : p ∉ W.φ ∧ C.h₀.get? p = none ∧ (∀ q ∈ W.ι, q.1 ≠ p) := by
  refine ⟨fun q => absurd (R.lt q) (Nat.not_lt.mpr hp), ?_, fun q hq e => absurd (Heap.lt_size (R.imm q hq)) (e ▸ Nat.not_lt.mpr hp)⟩
  cases e : C.h₀.get? p with
  | none => rfl
  | some o => exact absurd (Heap.lt_size (R.old _ _ e)) (Nat.not_lt.mpr hp)
theorem Rel.frame {C : Cx} {W : Wd} {σ : List AO} {h : Heap} (R : Rel C W σ h) {env : Env} (hk : env.scope.kind ≠ .module) {L : Addr} (hL : env.frame = some L) (hp : L ∉ W.φ ∧ C.h₀.get? L = none ∧ (∀ q ∈ W.ι, q.1 ≠ L)) (hd : ∃ o es ep, h.get? L = some o ∧ o.data = .dict es ep) : Rel (C.push env) W σ h :=
  ⟨R.ok, R.old, R.imm, R.len, R.nodup, R.apart, R.new, R.big, R.objs, fun e hin => (List.mem_cons.mp hin).elim (fun q => by rw [q]; exact ⟨hk, L, hL, hp.1, hp.2.1, hp.2.2, hd⟩) (R.frs e)⟩
theorem Rel.pop {C : Cx} {W : Wd} {σ : List AO} {h : Heap} {env : Env} (J : Rel (C.push env) W σ h) : Rel C W σ h := ⟨J.ok, J.old, J.imm, J.len, J.nodup, J.apart, J.new, J.big, J.objs, fun e he => J.frs e (List.mem_cons_of_mem _ he)⟩
theorem Keep.own {W W' : Wd} {π : List Addr} {h h' : Heap} (k : Keep W W' π h h') (hπ : ∀ p ∈ π, h.objs.size ≤ p) : Keep W W' [] h h' :=
  ⟨k.le, fun b o e n1 u1 => k.keep b o e n1 fun q => Nat.lt_irrefl _ (Nat.lt_of_lt_of_le (Heap.lt_size e) (hπ b q)), k.stay, k.new, k.imm⟩
theorem FR.retOf {W : Wd} {fl : Fl} {fv : Flow} (h : FR W fl fv) : VR W (retOf fl) (match (generalizing := false) fv with | .ret v => v | _ => .none) := by
  cases h with
  | ret h => exact h
  | _ => exact .none
theorem FnK.of_body {C : Cx} {n : Nat} {a : Addr} {fd : FuncData} {body : List Stmt} {F : List AV → List (Str × AV) → List AO → Option (AV × List AO)} {B : List AV → List (Str × AV) → List AO → Option (List (Str × AV) × List AO)} {f : K Fl}
    (h : FdOk C a fd body) (hB : Binds C fd B) (hf : ∀ env, Exs (C.push env) n (scx fd.scope) body f)
    (hF : ∀ args kws σ r σ', F args kws σ = some (r, σ') → ∀ P : Prop, (∀ ab σ₁ fl θ', B args kws σ = some (ab, σ₁) → (ab.all fun x => (fd.scope.names.lookup x.1 == some .local) || (fd.scope.names.lookup x.1 == some .cell)) = true →
      f ⟨θbind (scx fd.scope) ab fun u1 => none, σ₁⟩ = some (fl, ⟨θ', σ'⟩) → retOf fl = r → P) → P) : FnK C (n + 1) (.ref a) F := by
  intro A W σ s args kws vs kvs ok R hv hkv r σ' e RR hq
  refine hF _ _ _ _ _ e _ fun ab σ₁ fl θ' hab hkinds ef er => ?_
  refine Exists.elim h.o fun o ho => ?_
  refine codeAny_call_function (o := o) (fd := fd) (body := body) (by have := ok.depth; omega) (R.old _ _ ho.1) ho.2 h.co h.gen h.body (h.code.keeps R.old) ?_
  refine hB A.in1 W σ s args kws vs kvs R hv hkv (ab, σ₁) hab _ _ fun vb W1 h1 tk1 R1 k1 b1 => ?_
  clear hv hkv hab hF ho e
  rw [h.clo]
  refine wpAny_newFunctionEnv_cells h.kind (bind_kinds hkinds b1 _) fun env he s' x => ?_
  clear hkinds
  refine ⟨R1.lim.keeps x.toInCall.keep, codeAny_func ?_⟩
  obtain ⟨h', tk', rfl⟩ := x.toInCall.same
  have hk : env.scope.kind = .function := (congrArg (fun e => e.scope.kind) he).trans h.kind
  have hg : env.globals = mainGlobals := (congrArg (fun e => e.globals) he).trans h.glob
  have hb : env.builtins = builtinsNs := (congrArg (fun e => e.builtins) he).trans h.blt
  have hL : env.locals = h1.objs.size := congrArg (fun e => e.locals) he
  have hfr : env.frame = some env.locals := (congrArg (fun e => e.frame) he).trans (congrArg (fun e => some e.locals) he).symm
  have hnames : ∀ y, env.kindOf y = ((scx fd.scope).tab.lookup y).map (fun x => x.1) := fun y => (congrArg (fun e => e.kindOf y) he).trans (numb_names y fd.scope.names 0).symm
  have hcl : ∀ y, ((cellsFrom (h1.objs.size + 1) fd.scope.names []).lookup y).isSome = true → ∃ c, env.cells.lookup y = some c := fun y hy => Exists.elim (Option.isSome_iff_exists.mp hy) fun c hc => ⟨c, (congrArg (fun e => e.cells.lookup y) he).trans hc⟩
  clear he
  have k2 : Keep W1 W1 [] h1 h' := .of (.refl _) (fun b o e u1 u2 => x.toInCall.keep b o e) (fun b o e => ⟨o, x.toInCall.keep b o e⟩) (fun u1 h1 h2 => absurd h1 h2) (fun u1 h => .inl h)
  have hsz : ∀ p, (p = env.locals ∨ ∃ x, env.cells.lookup x = some p) → h1.objs.size ≤ p ∧ ∃ o, h'.get? p = some o := fun p hp => by
    rcases hp with rfl | ⟨y, hy⟩
    · exact ⟨Nat.le_of_eq hL.symm, Ns.lt' x.toInCall.ns⟩
    · exact ⟨hL ▸ Nat.le_of_lt (x.above y p (lookup_mem hy)), let ⟨o, h1, _⟩ := x.cell y p hy; ⟨o, h1⟩⟩
  have R2 : Rel (C.push env) W1 σ₁ h' := Rel.frame (R1.ext (π := []) (fun a o e u1 => x.toInCall.keep a o e) (fun u1 q => nomatch q) (fun u1 q => nomatch q)) (fun q => by rw [hk] at q; cases q) hfr (R1.above (Nat.le_of_eq hL.symm)) (Ns.dict x.toInCall.ns)
  have t12 := θbind_ok (W := W1) hnames (fun u1 u2 u3 u4 u5 a b => numb_inj a b) b1 (fun u1 => none) (fun u1 => none) (fun u1 => none) (fun u1 u2 u3 u4 e => nomatch e) (fun u1 u2 u3 u4 e => nomatch e)
  have hlr : LR (C.push env) (scx fd.scope) env W1 (θbind (scx fd.scope) ab fun u1 => none) h' := by
    refine ⟨hk, hg, hb, hnames, fun u1 u2 u3 u4 u5 a b => numb_inj a b, ⟨_, x.toInCall.ns, t12.1⟩, fun y k i hy hk => ?_, fun y z c hy hz => name_of_addr x.apart (lookup_mem hy) (lookup_mem hz), fun p hp => ?_, fun u1 => ⟨_, rfl⟩⟩
    · have hl : fd.scope.names.lookup y = some k := (numb_names y fd.scope.names 0).symm.trans (congrArg (Option.map (fun x => x.1)) hy)
      rcases hk with rfl | rfl
      · refine Exists.elim (hcl y (cells_there fd.scope.names (h1.objs.size + 1) [] (.inr (lookup_mem hl)))) fun c hc => ?_
        exact ⟨c, _, hc, Nat.ne_of_gt (x.above y c (lookup_mem hc)), x.cell y c hc, fun a ha => t12.2 y i a hy ha⟩
      · exact nomatch List.all_eq_true.mp h.nofree _ (lookup_mem hl)
    · have a := R1.above (hsz p hp).1
      exact ⟨a.1, a.2.1, a.2.2, (hsz p hp).2⟩
  refine (hf env).run (A.deeper env) env W1 ⟨_, σ₁⟩ { s with heap := h', toks := tk' } (ok.deeper env) ⟨R2, hlr⟩ fl ⟨θ', σ'⟩ ef _ _ fun fv W3 h3 tk3 I3 k3 v3 => ?_
  have k4 : Keep W1 W3 [] h1 h3 := ((k2.wide (π := priv (scx fd.scope) env)).trans k3).own fun p q => (hsz p ((List.mem_cons.mp q).elim .inl fun q => .inr (let ⟨y, _, hy⟩ := List.mem_filterMap.mp q; ⟨y, hy⟩))).1
  exact hq _ W3 h3 tk3 I3.rel.pop (k1.trans k4) (er ▸ v3.retOf)
end Mine
namespace Mine
open PySem PyProof.Rows PySem.W
noncomputable abbrev BindF := List AV → List (Str × AV) → List AO → Option (List (Str × AV) × List AO)
noncomputable def zipN : List Str → List AV → Option (List (Str × AV))
  | [], [] => some []
  | x :: xs, a :: as => (zipN xs as).map ((x, a) :: ·)
  | _, _ => none
noncomputable def noK {α : Type} : List (Str × AV) → Option α → Option α
  | [], o => o
  | _, _ => none
noncomputable def bP (xs : List Str) : BindF := fun args kws σ => noK kws ((zipN xs args).map fun b => (b, σ))
noncomputable def bP0 : BindF := bP []
noncomputable def bP1 (x : Str) : BindF := bP [x]
noncomputable def bP2 (x y : Str) : BindF := bP [x, y]
noncomputable def bP3 (x y z : Str) : BindF := bP [x, y, z]
theorem zipN_ok {W : Wd} : ∀ {xs : List Str} {as : List AV} {ab : List (Str × AV)} {vs : List Value}, zipN xs as = some ab → VRs W as vs → vs.length = xs.length ∧ BindsR W ab (xs.zip vs) := by
  intro xs
  induction xs with
  | nil =>
    intro as ab vs e h
    cases as with
    | nil => cases e; exact h.nilE ⟨rfl, .nil⟩
    | cons _ _ => cases e
  | cons x xs ih =>
    intro as ab vs e h
    cases as with
    | nil => cases e
    | cons a as =>
      refine h.consE fun v vs hv hr => ?_
      refine Exists.elim (Option.map_eq_some_iff.mp e) fun b q => ?_
      have r := ih q.1 hr
      exact ⟨congrArg Nat.succ r.1, q.2 ▸ .cons hv r.2⟩
section
variable {C : Cx} {fd : FuncData}
theorem noK_of {α : Type} {kws : List (Str × AV)} {kvs : List (Str × Value)} {o : Option α} {x : α} {W : Wd} {P : List (Str × Value) → Prop} (e : noK kws o = some x) (h : BindsR W kws kvs) (k : o = some x → P []) : P kvs := by
  cases h with
  | nil => exact k e
  | cons _ _ => exact nomatch e
theorem Binds.p {xs : List Str} (h : ∀ vs, vs.length = xs.length → bindArgs fd ⟨vs, []⟩ = pure (xs.zip vs)) : Binds C fd (bP xs) := by
  intro A W σ s args kws vs kvs R hv hkv p e Q E
  refine noK_of (P := fun kvs => PostB C W s Q p → wpAny _ A (bindArgs fd ⟨vs, kvs⟩) Q E s) e hkv fun e => mapE e fun b hb hq => ?_
  have r := zipN_ok hb hv
  exact wpAny_eq (h _ r.1) (wpAny_pure (hq.now R r.2))
@[elab_as_elim] theorem lenCons {α : Type} {n : Nat} {vs : List α} {P : List α → Prop} (h : vs.length = n + 1) (k : ∀ v r, r.length = n → P (v :: r)) : P vs := by
  cases vs with
  | nil => exact absurd h (Nat.succ_ne_zero n).symm
  | cons v r => exact k v r (Nat.succ.inj h)
@[elab_as_elim] theorem lenNil {α : Type} {vs : List α} {P : List α → Prop} (h : vs.length = 0) (k : P []) : P vs := by
  cases vs with
  | nil => exact k
  | cons v r => exact absurd h (Nat.succ_ne_zero _)
theorem Binds.p1 {x : Str} (h : ∀ v, bindArgs fd ⟨[v], []⟩ = pure [(x, v)]) : Binds C fd (bP1 x) := Binds.p (xs := [x]) fun vs hl => lenCons (vs := vs) (n := 0) hl fun v r hl => lenNil (vs := r) hl (h v)
theorem Binds.p2 {x y : Str} (h : ∀ v w, bindArgs fd ⟨[v, w], []⟩ = pure [(x, v), (y, w)]) : Binds C fd (bP2 x y) := Binds.p (xs := [x, y]) fun vs hl => lenCons (vs := vs) (n := 1) hl fun v r hl => lenCons (vs := r) (n := 0) hl fun w r hl => lenNil (vs := r) hl (h v w)
theorem Binds.p3 {x y z : Str} (h : ∀ v w u, bindArgs fd ⟨[v, w, u], []⟩ = pure [(x, v), (y, w), (z, u)]) : Binds C fd (bP3 x y z) := Binds.p (xs := [x, y, z]) fun vs hl => lenCons (vs := vs) (n := 2) hl fun v r hl => lenCons (vs := r) (n := 1) hl fun w r hl => lenCons (vs := r) (n := 0) hl fun u r hl => lenNil (vs := r) hl (h v w u)
end
end Mine
set_option Elab.async false
namespace Mine
open PySem PyProof.Rows PySem.W

section
variable {α β : Type} {C : Cx} {n : Nat} {Γ : SCx} {env : Env} {W : Wd} {A : Around} {s : Shared} {st : St}

theorem Post.at {R : Wd → β → α → Prop} {b : β} {Q : α → Shared → Prop} {a : α} (hq : Post C Γ env W s R b st Q) (I : Inv C Γ env W st s.heap) (tk : Nat) (hr : R W b a) : Q a { s with toks := tk } := hq a W s.heap tk I (.refl ..) hr
theorem Post.upd {R : Wd → β → α → Prop} {b : β} {Q : α → Shared → Prop} {a : α} {o : Nat} {l : Addr} {ob : AO} {h' : Heap} (hq : Post C Γ env W s R b ⟨st.θ, st.σ.set o ob⟩ Q) (I : Inv C Γ env W st s.heap) (ho : W.φ[o]? = some l) (hs : Heap.SameBut l s.heap h') (hor : OR W h' ob l) (tk : Nat) (hr : R W b a) : Q a { s with heap := h', toks := tk } :=
  have x := I.rel.upd ho hs hor
  hq a W h' tk (I.keep x.1 x.2) x.2.wide hr
theorem Post.new {Q : Value → Shared → Prop} {ob : AO} (hq : Post C Γ env W s VR (.obj st.σ.length) ⟨st.θ, st.σ ++ [ob]⟩ Q) (I : Inv C Γ env W st s.heap) (o : Obj) (ho : OR ⟨W.φ ++ [s.heap.objs.size], W.ι⟩ (s.heap.push o) ob s.heap.objs.size) (tk : Nat) : Q (.ref s.heap.objs.size) { s with heap := s.heap.push o, toks := tk } :=
  have x := I.rel.pushObj o ob ho
  hq _ _ _ tk (I.keep x.1 x.2) x.2.wide (.obj (by rw [← I.rel.len]; exact List.getElem?_concat_length))
theorem Post.imm {b : AV} {Q : Value → Shared → Prop} (hq : Post C Γ env W s VR b st Q) (I : Inv C Γ env W st s.heap) (o : Obj) (hf : o.isFreed = false) (hr : ∀ W' : Wd, W.Le W' → (s.heap.objs.size, o) ∈ W'.ι → VR W' b (.ref s.heap.objs.size)) (tk : Nat) : Q (.ref s.heap.objs.size) { s with heap := s.heap.push o, toks := tk } :=
  have x := I.rel.pushImm o hf
  hq _ _ _ tk (I.keep x.1 x.2) x.2.wide (hr _ x.2.le List.mem_cons_self)

noncomputable def one? : List AV → Option AV
  | [a] => some a
  | _ => none
noncomputable def two? : List AV → Option (AV × AV)
  | [a, b] => some (a, b)
  | _ => none
@[elab_as_elim] theorem VRs.one?E {args : List AV} {a : AV} {vs : List Value} {P : List Value → Prop} (h : VRs W args vs) (e : one? args = some a) (k : ∀ v, VR W a v → P [v]) : P vs := by
  cases args with
  | nil => cases e
  | cons a r => cases r with
    | nil => cases e; exact h.oneE k
    | cons _ _ => cases e
@[elab_as_elim] theorem VRs.two?E {args : List AV} {p : AV × AV} {vs : List Value} {P : List Value → Prop} (h : VRs W args vs) (e : two? args = some p) (k : ∀ v w, VR W p.1 v → VR W p.2 w → P [v, w]) : P vs := by
  cases args with
  | nil => cases e
  | cons a r => cases r with
    | nil => cases e
    | cons b r => cases r with
      | nil => cases e; exact h.twoE k
      | cons _ _ => cases e
theorem Cal.one {f : Value} {F : AV → K AV} (h : ∀ A env W st (s : Shared) a v, AOk C n A → Inv C Γ env W st s.heap → VR W a v → Run C Γ env W A s (call f [v]) (F a st) VR) : Cal C n Γ f fun args st => (one? args).bind fun a => F a st :=
  fun A env W st s args vs ok I hv => .obind fun a e => VRs.one?E (vs := vs) hv e fun v hv => h A env W st s a v ok I hv
theorem Cal.two {f : Value} {F : AV → AV → K AV} (h : ∀ A env W st (s : Shared) a b v w, AOk C n A → Inv C Γ env W st s.heap → VR W a v → VR W b w → Run C Γ env W A s (call f [v, w]) (F a b st) VR) : Cal C n Γ f fun args st => (two? args).bind fun p => F p.1 p.2 st :=
  fun A env W st s args vs ok I hv => .obind fun p e => VRs.two?E (vs := vs) hv e fun v w hv hw => h A env W st s p.1 p.2 v w ok I hv hw

noncomputable def itemAt (vs : List AV) (k : Int) : Option AV := if -(2 ^ 62) ≤ k ∧ k < 2 ^ 62 then (seqIndex? k vs.length).bind fun j => vs[j]? else none
noncomputable def strAt (x : Str) (k : Int) : Option Str := if -(2 ^ 62) ≤ k ∧ k < 2 ^ 62 then ((seqIndex? k x.length).bind fun j => x.cps[j]?).map fun c => ⟨#[c]⟩ else none

theorem itemAtE {vs : List AV} {items : Array Value} {k : Int} {a : AV} {P : Prop} (hv : VRs W vs items.toList) (e : itemAt vs k = some a)
    (h : -(2 ^ 62) ≤ k → k < 2 ^ 62 → ∀ j v, seqIndex? k items.size = some j → items[j]? = some v → VR W a v → P) : P := by
  unfold itemAt at e
  by_cases hk : -(2 ^ 62) ≤ k ∧ k < 2 ^ 62
  · rw [if_pos hk] at e
    refine Exists.elim (Option.bind_eq_some_iff.mp e) fun j q => Exists.elim (hv.get q.2) fun v r => ?_
    have hl : vs.length = items.size := hv.length
    exact h hk.1 hk.2 j v (hl ▸ q.1) (Array.getElem?_toList ▸ r.1) r.2
  · rw [if_neg hk] at e; cases e

theorem seqIndexE {k : Int} {m j : Nat} {P : Prop} (e : seqIndex? k m = some j) (h1 : k < 0 → 0 ≤ k + m → (k + m).toNat = j → P) (h2 : 0 ≤ k → k < m → k.toNat = j → P) : P := by
  unfold seqIndex? at e
  by_cases hk : k < 0
  · rw [if_pos hk] at e
    by_cases hb : (decide (0 ≤ k + (m : Int)) && decide (k + (m : Int) < m)) = true
    · have e := (if_pos hb).symm.trans e
      rw [Bool.and_eq_true, decide_eq_true_eq] at hb
      exact h1 hk hb.1 (Option.some.inj e)
    · exact nomatch (if_neg hb).symm.trans e
  · rw [if_neg hk] at e
    by_cases hb : (decide (0 ≤ k) && decide (k < (m : Int))) = true
    · have e := (if_pos hb).symm.trans e
      rw [Bool.and_eq_true, decide_eq_true_eq, decide_eq_true_eq] at hb
      exact h2 hb.1 hb.2 (Option.some.inj e)
    · exact nomatch (if_neg hb).symm.trans e
theorem getItem_list_any {l : Addr} {items : Array Value} {m : Nat} {k : Int} {t : Tok} {j : Nat} {x : Value} {Q : Value → Shared → Prop} {E : Value → Shared → Prop} (hl : s.heap.get? l = some { cls := .type "list", data := .seq items m })
    (hlo : -(2 ^ 62) ≤ k) (hhi : k < 2 ^ 62) (hj : seqIndex? k items.size = some j) (hx : items[j]? = some x) (h : Q x s) : wpAny (model C.prog C.w) A (getItem (.ref l) (.int k t)) Q E s :=
  seqIndexE hj (fun h1 h2 h3 => wpAny_getItem_list_neg (isList_of hl) h1 (by omega) (by omega) (h3 ▸ hx) h) fun h1 h2 h3 => wpAny_getItem_list (isList_of hl) h1 (by omega) (h3 ▸ hx) h

noncomputable def plainSlice : Expr → Bool
  | .Slice .. => false
  | _ => true
theorem subscripted_plain {slice : Expr} {va vi : Value} (h : plainSlice slice = true) : subscripted slice false va vi = operate [va, vi] (getItem va vi) := by
  cases slice <;> first | rfl | cases h
theorem getItem_tail {T id : String} {value slice : Expr} {va vi : Value} {Q : Value → Shared → Prop} {E : Value → Shared → Prop} (hs : plainSlice slice = true) (hT : s.TypeIs va T) (hl : typeLookup (.type T) "__getitem__" = pure (some (.builtin id))) (hw : wpAny (model C.prog C.w) A (getItem va vi) Q E s) : wpAny (model C.prog C.w) A (subscriptTail value slice va vi) Q E s :=
  tail_any (ops := [va, vi]) hT hl hw (subscripted_plain hs)

noncomputable def lenOf (st : St) : AV → Option Nat
  | .tup vs => some vs.length
  | .str x => some x.length
  | a => (litems a st).map List.length
noncomputable def len1 (a : AV) : K AV := fun st => (lenOf st a).bind fun n => if n < 2 ^ 62 then some (.int n, st) else none
noncomputable def lenK : List AV → K AV := fun args st => (one? args).bind fun a => len1 a st
theorem Cal.len : Cal C n Γ (.builtin "len") lenK := .one fun A env W st s a v ok I hv => .obind fun m e => .ite fun hlt => .mk1 fun Q E hq => by
  have hq' := fun tk t => hq.at I tk (.int m t)
  clear hq
  have key : (litems a st).map List.length = some m → wpAny (model C.prog C.w) A (call (.builtin "len") [v]) Q E s := fun e =>
    Exists.elim (Option.map_eq_some_iff.mp e) fun vs q => litemsE I.rel hv q.1 fun l items m' hl u1 hlen => len_list (isList_of hl) (by omega) (by rw [← hlen, q.2]; exact hq' _ _)
  revert hv
  cases a with
  | tup vs => exact fun hv => tupE I.rel hv rfl fun l items m' hl u1 hlen => len_tuple (isTup_of hl) (by cases e; omega) (by cases e; rw [← hlen]; exact hq' _ _)
  | str x => exact fun hv => hv.strE rfl fun t => by cases e; exact len_str (by omega) (hq' _ _)
  | _ => exact fun hv => key e

open Classical in
noncomputable def guardK (P : St → Prop) : K Unit := fun st => if P st then some ((), st) else none
theorem guardK_pos {P : St → Prop} {st : St} (h : P st) : guardK P st = some ((), st) := by unfold guardK; rw [if_pos h]
theorem guardE {β : Type} {P : St → Prop} {g : K β} {st st' : St} {b : β} {G : Prop} (e : K.bind (guardK P) (fun u1 => g) st = some (b, st')) (k : P st → g st = some (b, st') → G) : G := by
  by_cases h : P st
  · rw [K.bind_some (guardK_pos h)] at e
    exact k h e
  · unfold K.bind guardK at e
    rw [if_neg h] at e
    cases e

noncomputable def Res (C : Cx) (name : Str) (fv : Value) (P : AV → St → Prop) : Prop :=
  ∀ A (W : Wd) (st : St) (s : Shared) a v, Rel C W st.σ s.heap → VR W a v → P a st → ∀ (Q : Value × List Value → Shared → Prop) (E : Value → Shared → Prop) pl, Q (fv, [v]) s → wpAny (model C.prog C.w) A (getMethod v name pl) Q E s

noncomputable def isSuper : Expr → Bool
  | .Call (.Name _ _) [] [] _ => true
  | _ => false
theorem attributeBase_plain {o : Expr} {x : Str} {env : Env} {t : Sem Value} (h : isSuper o = false) : attributeBase o x env t = t := by
  cases o with
  | Call f as ks p =>
    cases f with
    | Name y q =>
      cases as with
      | cons _ _ => rfl
      | nil => cases ks with
        | cons _ _ => rfl
        | nil => cases h
    | _ => rfl
  | _ => rfl
theorem all_plain {args : List Expr} {env : Env} {pos : Pos} (h : args.all (fun e => !isStar e) = true) : (backTo pos (starEach args env)).all (fun x => !x.1) = true := by
  induction args with
  | nil => rfl
  | cons e r ih =>
    rw [List.all_cons, Bool.and_eq_true] at h
    rw [starEach_plain (Bool.not_eq_true' _ ▸ h.1)]
    exact ih h.2

noncomputable def isLst (a : AV) (st : St) : Prop := ∃ vs, litems a st = some vs
theorem Res.list {name : Str} {id : String} (slot : Slot "list" name id) (hty : typeOf (.builtin id) = pure (.type "method_descriptor")) : Res C name (.builtin id) isLst := fun A W st s a v R hv hP Q E pl =>
  Exists.elim hP fun vs e => litemsE R hv e fun l items m hl u1 u2 hq => getMethod_builtin ⟨_, hl, rfl⟩ PySem.F.plainAttrs_list slot hty (fun a e => by cases e; exact ⟨_, hl, rfl⟩) hq

noncomputable def appendK : List AV → K AV := fun args st => (two? args).bind fun p => p.1.oid.bind fun o => (lstAt st.σ o).bind fun vs => if vs.length < 2 ^ 20 then some (.none, ⟨st.θ, st.σ.set o (.list (vs ++ [p.2]))⟩) else none
theorem Cal.append : Cal C n Γ (.builtin "list.append") appendK := .two (F := fun a x st => a.oid.bind fun o => (lstAt st.σ o).bind fun vs => if vs.length < 2 ^ 20 then some (.none, ⟨st.θ, st.σ.set o (.list (vs ++ [x]))⟩) else none) fun A env W st s a x v w ok I hv hw =>
  .obind fun o ho => .obind fun vs hvs => .ite fun hlt => VR.objE (v := v) hv ho fun l hl => lstE I.rel hl hvs fun items m hg hr hlen => .mk1 fun Q E hq =>
    append_at hg (fun h' hs ho' => hq.upd I hl hs ⟨_, _, ho', by rw [Array.toList_push]; exact hr.append (.one hw)⟩ _ .none) (by unfold sizeLine; omega)

noncomputable def pop1 (o : Nat) (vs : List AV) : K AV := fun st => (vs.getLast?).map fun v => (v, ⟨st.θ, st.σ.set o (.list vs.dropLast)⟩)
noncomputable def pop2 (o : Nat) (vs : List AV) (i : AV) : K AV := fun st => i.int?.bind fun k => if 0 ≤ k ∧ k < 2 ^ 62 then (vs[k.toNat]?).map fun v => (v, ⟨st.θ, st.σ.set o (.list (vs.eraseIdx k.toNat))⟩) else none
noncomputable def popL (o : Nat) (vs : List AV) : List AV → K AV
  | [] => pop1 o vs
  | [i] => pop2 o vs i
  | _ => K.fail
noncomputable def popK : List AV → K AV
  | a :: r => fun st => a.oid.bind fun o => (lstAt st.σ o).bind fun vs => if vs.length < 2 ^ 20 then popL o vs r st else none
  | [] => K.fail
theorem dropLast_erase {α : Type} (l : List α) : l.dropLast = l.eraseIdx (l.length - 1) := by
  rw [List.eraseIdx_eq_take_drop_succ, List.dropLast_eq_take, List.drop_eq_nil_of_le (by omega), List.append_nil]
theorem erase_in (items : Array Value) (j : Nat) : (items.eraseIdxIfInBounds j).toList = items.toList.eraseIdx j := by
  by_cases h : j < items.size
  · simp [Array.eraseIdxIfInBounds, h]
  · rw [Array.eraseIdxIfInBounds, dif_neg h, List.eraseIdx_of_length_le (Nat.not_lt.mp h)]
theorem fits_idx {k : Int} (h : 0 ≤ k ∧ k < 2 ^ 62) : Builtin.List.listFitsIndex k = true := by unfold Builtin.List.listFitsIndex; simp; omega
theorem idx_nat {k : Int} {m : Nat} (h : 0 ≤ k) (hk : k.toNat < m) : seqIndex? k m = some k.toNat := by
  unfold seqIndex?
  rw [if_neg (Int.not_lt.mpr h)]
  exact if_pos (Bool.and_eq_true _ _ ▸ ⟨decide_eq_true h, decide_eq_true (by omega)⟩)
theorem lt_line {m k : Nat} (h : m < 2 ^ 20) (e : m = k) : k ≤ sizeLine := by unfold sizeLine; omega
theorem Cal.pop : Cal C n Γ (.builtin "list.pop") popK := by
  intro A env W st s args vs ok I hv
  cases args with
  | nil => exact .stuck
  | cons a r =>
    refine hv.consE fun v ws hv hr => .obind fun o ho => .obind fun xs hx => .ite fun hlt => VR.objE (v := v) hv ho fun l hl => lstE I.rel hl hx fun items m hg hvs hlen => ?_
    have fin : ∀ {y : AV} {j : Nat} {v' : Value} {Q : Value → Shared → Prop}, VR W y v' → Post C Γ env W s VR y ⟨st.θ, st.σ.set o (.list (xs.eraseIdx j))⟩ Q → Q v' { s with heap := s.heap.update l (Obj.mapSeq fun ys => ys.eraseIdxIfInBounds j) } := fun {y j v' Q} hy hq =>
      hq.upd I hl (Heap.SameBut.update s.heap _ (Obj.mapSeq fun ys => ys.eraseIdxIfInBounds j)) ⟨_, _, Heap.get?_update_self (Obj.mapSeq fun ys => ys.eraseIdxIfInBounds j) hg rfl, (erase_in items j).symm ▸ hvs.eraseIdx j⟩ _ hy
    cases r with
    | nil =>
      refine hr.nilE (.omap fun y hy => .mk1 fun Q E hq => ?_)
      rw [dropLast_erase] at hq
      rw [List.getLast?_eq_getElem?, hlen] at hy
      refine Exists.elim (hvs.get hy) fun v' q => ?_
      rw [hlen] at hq
      exact call_meets PySem.F.slot_list_pop ⟨_, hg, rfl⟩ PySem.F.entry_list_pop (PySem.F.args_list_pop_1 _) (PySem.MeetsSeq.list_pop_last _ items m v' (Array.getElem?_toList ▸ q.1) (lt_line hlt hlen)) ⟨hg, fin q.2 hq⟩
    | cons i r =>
      cases r with
      | nil =>
        refine hr.oneE fun w hw => .obind fun k hk => .ite fun hb => .omap fun y hy => hw.intE hk fun t => .mk1 fun Q E hq => ?_
        refine Exists.elim (hvs.get hy) fun v' q => ?_
        have hin := (List.getElem?_eq_some_iff.mp hy).1
        exact call_meets PySem.F.slot_list_pop ⟨_, hg, rfl⟩ PySem.F.entry_list_pop (PySem.F.args_list_pop_2 _ _) (PySem.MeetsSeq.list_pop_at _ items m k t k.toNat v' (fits_idx hb) (idx_nat hb.1 (hlen ▸ hin)) (Array.getElem?_toList ▸ q.1) (lt_line hlt hlen)) ⟨hg, fin q.2 hq⟩
      | cons _ _ => exact .stuck
end
end Mine
set_option Elab.async false
namespace Mine
open PySem PyProof.Rows PySem.W

noncomputable def rngVals (a c : Int) (n : Nat) : List AV := (List.range n).map fun i : Nat => .int (a + c * (i : Int))
noncomputable def strVals (x : Str) : List AV := x.cps.toList.map fun c => .str ⟨#[c]⟩

inductive ItAt (W : Wd) (h : Heap) (I : Addr) : List AV → Option (Nat × AO) → Nat → Prop
  | lst {l : Addr} {items : Array Value} {n : Nat} {vs : List AV} {i : Nat} : (l, ({ cls := .type "list", data := .seq items n } : Obj)) ∈ W.ι → VRs W vs items.toList → h.IsListIter I l i → ItAt W h I vs none i
  | obj {o : Nat} {l : Addr} {vs : List AV} {i : Nat} : W.φ[o]? = some l → h.IsListIter I l i → ItAt W h I vs (some (o, .list vs)) i
  | tup {l : Addr} {items : Array Value} {n : Nat} {vs : List AV} {i : Nat} : (l, ({ cls := .type "tuple", data := .seq items n } : Obj)) ∈ W.ι → VRs W vs items.toList → h.IsTupleIter I l i → ItAt W h I vs none i
  | rng {a c : Int} {n i : Nat} : IsRangeIter h I (a + c * i) (n - i) c → ItAt W h I (rngVals a c n) none i
  | ascii {x : Str} {t : Tok} {i : Nat} : h.IsStrIter I "str_ascii_iterator" x t i → ItAt W h I (strVals x) none i
  | wide {x : Str} {t : Tok} {i : Nat} : h.IsStrIter I "str_iterator" x t i → ItAt W h I (strVals x) none i
  | key {o : Nat} {d : Addr} {es : List (Int × AV)} {ep i : Nat} : W.φ[o]? = some d → h.IsKeyIter I d i es.length ep → ItAt W h I (es.map fun p => .int p.1) (some (o, .dict es ep)) i
  | vals {o : Nat} {d : Addr} {es : List (Int × AV)} {ep i : Nat} : W.φ[o]? = some d → h.IsValIter I d i es.length ep → ItAt W h I (es.map fun p => p.2) (some (o, .dict es ep)) i

theorem ItAt.mono {W W' : Wd} {h h' : Heap} {I : Addr} {vs : List AV} {g : Option (Nat × AO)} {i : Nat} (x : ItAt W h I vs g i) (le : W.Le W') (e : ∀ o, h.get? I = some o → h'.get? I = some o) : ItAt W' h' I vs g i := by
  cases x with
  | lst h1 h2 h3 => exact .lst (le.ι _ h1) (h2.mono le) (let ⟨o, ho, r⟩ := h3; ⟨o, e _ ho, r⟩)
  | obj h1 h3 => exact .obj (le.at h1) (let ⟨o, ho, r⟩ := h3; ⟨o, e _ ho, r⟩)
  | tup h1 h2 h3 => exact .tup (le.ι _ h1) (h2.mono le) (let ⟨o, ho, r⟩ := h3; ⟨o, e _ ho, r⟩)
  | rng h => exact .rng (e _ h)
  | ascii h3 => exact .ascii (let ⟨o, ho, r⟩ := h3; ⟨o, e _ ho, r⟩)
  | wide h3 => exact .wide (let ⟨o, ho, r⟩ := h3; ⟨o, e _ ho, r⟩)
  | key h1 h3 => exact .key (le.at h1) (let ⟨o, ho, r⟩ := h3; ⟨o, e _ ho, r⟩)
  | vals h1 h3 => exact .vals (le.at h1) (let ⟨o, ho, r⟩ := h3; ⟨o, e _ ho, r⟩)

noncomputable def gOk (g : Option (Nat × AO)) (σ : List AO) : Prop := ∀ p, g = some p → σ[p.1]? = some p.2

theorem notSys {C : Cx} {W : Wd} {σ : List AO} {h : Heap} (R : Rel C W σ h) {d : Addr} (hd : d ∈ W.φ) : (d == sysModules) = false := by
  have := R.big d hd
  refine beq_eq_false_iff_ne.mpr fun q => ?_
  rw [q] at this
  exact absurd this (by decide)

theorem PairsR.isInt {W : Wd} {es : List (Int × AV)} {en : List DictEntry} (h : PairsR W es en) : ∀ e ∈ en, ∃ k, Value.isInt k e.key = true ∧ e.hash = hashInt k := by
  induction h with
  | nil => simp
  | cons h _ ih =>
    intro e he
    rcases List.mem_cons.mp he with rfl | he
    · obtain ⟨⟨t, ht⟩, hh, _⟩ := h
      exact ⟨_, by rw [ht]; simp [Value.isInt], hh⟩
    · exact ih e he
theorem PairsR.pairs {prog : Program} {w : World} {W : Wd} {es : List (Int × AV)} {en : List DictEntry} (h : PairsR W es en) : ∃ kvs : List (Int × Value), Pairs (intKind prog w) en kvs ∧ kvs.map (fun x => x.1) = es.map (fun x => x.1) ∧ VRs W (es.map (fun x => x.2)) (kvs.map (fun x => x.2)) := by
  induction h with
  | nil => exact ⟨[], .nil, rfl, .nil⟩
  | cons h _ ih =>
    obtain ⟨kvs, h1, h2, h3⟩ := ih
    rename_i f e fs es' _
    obtain ⟨⟨t, ht⟩, hh, hv⟩ := h
    exact ⟨(f.1, e.val) :: kvs, .cons (by rw [ht]; simp [intKind, Value.isInt]) rfl h1, by simp [h2], .cons hv h3⟩
theorem dictAt_of {C : Cx} {W : Wd} {σ : List AO} {h : Heap} (R : Rel C W σ h) {o : Nat} {d : Addr} {es : List (Int × AV)} {ep : Nat} (hd : W.φ[o]? = some d) (e : σ[o]? = some (.dict es ep)) :
    ∃ kvs, h.DictAt (intKind C.prog C.w) d kvs ep ∧ (kvs.map (fun x => x.1) = es.map (fun x => x.1) ∧ VRs W (es.map (fun x => x.2)) (kvs.map (fun x => x.2))) ∧ kvs.length = es.length := by
  obtain ⟨en, h1, h2, h3⟩ := R.objs _ _ _ e hd
  obtain ⟨kvs, p1, p2, p3⟩ := h2.pairs (prog := C.prog) (w := C.w)
  exact ⟨kvs, ⟨_, en, h1, ⟨rfl, rfl, rfl⟩, rfl, fun x hx => h2.isInt x (Array.mem_toList_iff.mpr hx), p1, by rw [p2]; exact h3⟩, ⟨p2, p3⟩, by rw [← List.length_map (f := (fun x => x.1)) (as := kvs), p2, List.length_map]⟩

theorem lt_of_none {α : Type} {l : List α} {i : Nat} (h : l[i]? = none) : l.length ≤ i := by simpa using h

section
variable {C : Cx} {W : Wd} {A : Around} {s : Shared} {σ : List AO} {I : Addr} {vs : List AV} {g : Option (Nat × AO)} {i : Nat}

theorem ItAt.next {Q : Option Value → Shared → Prop} {E : Value → Shared → Prop} {a : AV} (x : ItAt W s.heap I vs g i) (R : Rel C W σ s.heap) (hg : gOk g σ) (hx : vs[i]? = some a)
    (hq : ∀ v h' tk, VR W a v → ItAt W h' I vs g (i + 1) → Heap.SameBut I s.heap h' → Q (some v) { s with heap := h', toks := tk }) : wpAny (model C.prog C.w) A (pyNext (.ref I)) Q E s := by
  cases x with
  | lst h1 h2 h3 =>
    obtain ⟨v, hv1, hv2⟩ := h2.get hx
    exact wpAny_pyNext_list_item h3 (isList_of (R.imm _ h1)) (by simpa using hv1) fun h' hi hs => hq v h' s.toks hv2 (.lst h1 h2 hi) hs
  | obj h1 h3 =>
    obtain ⟨items, m, hl, h2⟩ := R.objs _ _ _ (hg _ rfl) h1
    obtain ⟨v, hv1, hv2⟩ := h2.get hx
    exact wpAny_pyNext_list_item h3 (isList_of hl) (by simpa using hv1) fun h' hi hs => hq v h' s.toks hv2 (.obj h1 hi) hs
  | tup h1 h2 h3 =>
    obtain ⟨v, hv1, hv2⟩ := h2.get hx
    exact wpAny_pyNext_tuple_item h3 (isTup_of (R.imm _ h1)) (by simpa using hv1) fun h' hi hs => hq v h' s.toks hv2 (.tup h1 h2 hi) hs
  | @rng a' c n _ h =>
    obtain ⟨hi, rfl⟩ : i < n ∧ AV.int (a' + c * (i : Int)) = a := by
      have hlt : i < n := by simpa [rngVals] using (List.getElem?_eq_some_iff.mp hx).1
      refine ⟨hlt, ?_⟩
      simp only [rngVals, List.getElem?_map, List.getElem?_range hlt, Option.map_some, Option.some.injEq] at hx
      exact hx
    refine wpAny_pyNext_range_item h (by omega) fun h' hi' hs => hq _ h' _ (.int _ _) (.rng ?_) hs
    have e1 : a' + c * (i : Int) + c = a' + c * ((i + 1 : Nat) : Int) := by rw [Int.natCast_add, Int.mul_add]; simp; omega
    have e2 : (n : Int) - i - 1 = n - ((i + 1 : Nat) : Int) := by omega
    rw [e1, e2] at hi'
    exact hi'
  | @ascii x t _ h =>
    obtain ⟨c, hc, rfl⟩ : ∃ c, x.cps[i]? = some c ∧ AV.str ⟨#[c]⟩ = a := by
      simp only [strVals, List.getElem?_map, Option.map_eq_some_iff] at hx
      obtain ⟨c, h1, h2⟩ := hx
      exact ⟨c, by simpa using h1, h2⟩
    exact wpAny_pyNext_ascii_item h hc fun h' hi hs => hq _ h' _ (.str _ _) (.ascii hi) hs
  | @wide x t _ h =>
    obtain ⟨c, hc, rfl⟩ : ∃ c, x.cps[i]? = some c ∧ AV.str ⟨#[c]⟩ = a := by
      simp only [strVals, List.getElem?_map, Option.map_eq_some_iff] at hx
      obtain ⟨c, h1, h2⟩ := hx
      exact ⟨c, by simpa using h1, h2⟩
    exact wpAny_pyNext_wide_item h hc fun h' hi hs => hq _ h' _ (.str _ _) (.wide hi) hs
  | @key o d es ep _ h1 h3 =>
    obtain ⟨kvs, hd, ⟨hk1, hk2⟩, hlen⟩ := dictAt_of R h1 (hg _ rfl)
    simp only [List.getElem?_map, Option.map_eq_some_iff] at hx
    obtain ⟨p, hp, rfl⟩ := hx
    have : (kvs.map (fun x => x.1))[i]? = some p.1 := by rw [hk1, List.getElem?_map, hp]; rfl
    simp only [List.getElem?_map, Option.map_eq_some_iff] at this
    obtain ⟨kv, hkv, hkv1⟩ := this
    refine wpAny_pyNext_dict_item (knd := intKind C.prog C.w) (k := kv.1) (v := kv.2) (by rw [hlen]; exact h3) hd hkv fun key h' hkey hi hs => ?_
    obtain ⟨t, rfl⟩ := Value.isInt_shape hkey
    refine hq _ h' s.toks (by rw [hkv1]; exact .int _ _) (.key h1 (by rw [← hlen]; exact hi)) hs
  | @vals o d es ep _ h1 h3 =>
    obtain ⟨kvs, hd, ⟨hk1, hk2⟩, hlen⟩ := dictAt_of R h1 (hg _ rfl)
    obtain ⟨v, hv1, hv2⟩ := hk2.get hx
    simp only [List.getElem?_map, Option.map_eq_some_iff] at hv1
    obtain ⟨kv, hkv, hkv1⟩ := hv1
    exact wpAny_pyNext_values_item (knd := intKind C.prog C.w) (k := kv.1) (v := kv.2) (by rw [hlen]; exact h3) hd hkv fun h' hi hs => hq _ h' s.toks (by rw [hkv1]; exact hv2) (.vals h1 (by rw [← hlen]; exact hi)) hs

theorem ItAt.done {Q : Option Value → Shared → Prop} {E : Value → Shared → Prop} (x : ItAt W s.heap I vs g i) (R : Rel C W σ s.heap) (hg : gOk g σ) (hh : A.handled = none) (hx : vs[i]? = none)
    (hq : ∀ h' tk, Heap.ExtBut I s.heap h' → Q none { s with heap := h', toks := tk }) : wpAny (model C.prog C.w) A (pyNext (.ref I)) Q E s := by
  have hx := lt_of_none hx
  cases x with
  | lst h1 h2 h3 =>
    have := h2.length
    exact wpAny_pyNext_list_end hh h3 (isList_of (R.imm _ h1)) (by simp at this ⊢; omega) fun h' hs => hq h' s.toks hs
  | obj h1 h3 =>
    obtain ⟨items, m, hl, h2⟩ := R.objs _ _ _ (hg _ rfl) h1
    have := h2.length
    exact wpAny_pyNext_list_end hh h3 (isList_of hl) (by simp at this ⊢; omega) fun h' hs => hq h' s.toks hs
  | tup h1 h2 h3 =>
    have := h2.length
    exact wpAny_pyNext_tuple_end hh h3 (isTup_of (R.imm _ h1)) (by simp at this ⊢; omega) fun h' hs => hq h' s.toks hs
  | rng h =>
    simp [rngVals] at hx
    exact wpAny_pyNext_range_end hh h (by omega) fun h' hs => hq h' s.toks hs
  | ascii h =>
    simp [strVals] at hx
    exact wpAny_pyNext_ascii_end hh h (by simpa using hx) fun h' hs => hq h' s.toks hs
  | wide h =>
    simp [strVals] at hx
    exact wpAny_pyNext_wide_end hh h (by simpa using hx) fun h' hs => hq h' s.toks hs
  | @key o d es ep _ h1 h3 =>
    obtain ⟨kvs, hd, ⟨hk1, hk2⟩, hlen⟩ := dictAt_of R h1 (hg _ rfl)
    exact wpAny_pyNext_dict_end (knd := intKind C.prog C.w) hh (by rw [hlen]; exact h3) hd (by simp at hx ⊢; omega) fun h' hs => hq h' s.toks hs
  | @vals o d es ep _ h1 h3 =>
    obtain ⟨kvs, hd, ⟨hk1, hk2⟩, hlen⟩ := dictAt_of R h1 (hg _ rfl)
    exact wpAny_pyNext_values_end (knd := intKind C.prog C.w) hh (by rw [hlen]; exact h3) hd (by simp at hx ⊢; omega) fun h' hs => hq h' s.toks hs

noncomputable def srcO (o : Nat) : AO → Option (List AV × Option (Nat × AO))
  | .list vs => some (vs, some (o, .list vs))
  | .dict es ep => some (es.map fun p => .int p.1, some (o, .dict es ep))
  | _ => none
noncomputable def srcOf (a : AV) (σ : List AO) : Option (List AV × Option (Nat × AO)) := match a with
  | .tup vs => some (vs, none)
  | .lst vs => some (vs, none)
  | .rng a c n => some (rngVals a c n, none)
  | .str x => some (strVals x, none)
  | .obj o => (σ[o]?).bind (srcO o)
  | _ => none
noncomputable def Started (W : Wd) (s : Shared) (Q : Value → Shared → Prop) (p : List AV × Option (Nat × AO)) : Prop := ∀ o : Obj, o.isFreed = false → ItAt W (s.heap.push o) s.heap.objs.size p.1 p.2 0 → Q (.ref s.heap.objs.size) { s with heap := s.heap.push o }
theorem ItAt.start {Q : Value → Shared → Prop} {E : Value → Shared → Prop} {a : AV} {v : Value} (R : Rel C W σ s.heap) (hv : VR W a v) {p : List AV × Option (Nat × AO)} (e : srcOf a σ = some p) (hq : Started W s Q p) : wpAny (model C.prog C.w) A (pyIter v) Q E s := by
  have new : ∀ {o : Obj}, o.isFreed = false → (s.heap.push o).get? s.heap.objs.size = some o := fun h => Heap.get?_push_size _ h
  revert hq
  cases a with
  | tup ws => exact some_of e fun hq => hv.tupE rfl fun l items n h1 h2 => wpAny_pyIter_tuple (isTup_of (R.imm _ h1)) (hq _ rfl (.tup h1 h2 ⟨_, new rfl, rfl, rfl⟩))
  | lst ws => exact some_of e fun hq => hv.lstE rfl fun l items n h1 h2 => wpAny_pyIter_list (isList_of (R.imm _ h1)) (hq _ rfl (.lst h1 h2 ⟨_, new rfl, rfl, rfl⟩))
  | rng a c n => exact some_of e fun hq => hv.rngE rfl fun r b t u v h1 h2 h3 => wpAny_pyIter_range (R.imm _ h1) h2 (hq _ rfl (.rng (by
      rw [h3, Int.natCast_zero, Int.mul_zero, Int.add_zero, Int.sub_zero]
      exact new rfl)))
  | str x =>
      refine some_of e fun hq => hv.strE rfl fun t => ?_
      cases ha : x.cps.all (· < 128)
      · exact wpAny_pyIter_wide ha (hq _ rfl (.wide ⟨_, new rfl, rfl, rfl⟩))
      · exact wpAny_pyIter_ascii ha (hq _ rfl (.ascii ⟨_, new rfl, rfl, rfl⟩))
  | obj o =>
    refine hv.objE rfl fun d hi => bindE e fun ob q e => ?_
    cases ob with
    | list ws => exact some_of e fun hq => lstE R hi (lstAt_of q) fun items m h1 u1 u2 => wpAny_pyIter_list (isList_of h1) (hq _ rfl (.obj hi ⟨_, new rfl, rfl, rfl⟩))
    | dict es ep => exact some_of e fun hq => Exists.elim (dictAt_of R hi q) fun kvs r => wpAny_pyIter_dict (knd := intKind C.prog C.w) (notSys R (mem_of_get hi)) r.1 (hq _ rfl (.key hi ⟨_, new rfl, rfl, by rw [r.2.2]; rfl⟩))
    | _ => exact nomatch e
  | _ => exact nomatch e
theorem srcOf_ok {a : AV} {p : List AV × Option (Nat × AO)} (e : srcOf a σ = some p) : gOk p.2 σ := by
  cases a with
  | obj o =>
    refine bindE e fun ob q e => ?_
    cases ob with
    | list ws => exact some_of e fun p hp => Option.some.inj hp ▸ q
    | dict es ep => exact some_of e fun p hp => Option.some.inj hp ▸ q
    | _ => exact nomatch e
  | tup ws => exact some_of e nofun
  | lst ws => exact some_of e nofun
  | rng a c n => exact some_of e nofun
  | str x => exact some_of e nofun
  | _ => exact nomatch e
end
end Mine
set_option Elab.async false
namespace Mine
open PySem PyProof.Rows PySem.W

inductive ItObj (h : Heap) (I : Addr) : Prop
  | mk {o : Obj} {T : String} {fs : Array Value} : h.get? I = some o → o.cls = .type T → o.data = .fields fs → (["enumerate", "zip", "dict_itemiterator", "dict_reverseitemiterator", "odict_iterator", "itertools.zip_longest", "itertools.pairwise"].contains T) = false → ItObj h I
theorem ItObj.of {h : Heap} {I : Addr} {T : String} {fs : Array Value} (hx : ∃ o, h.get? I = some o ∧ o.cls = .type T ∧ o.data = .fields fs) (ht : (["enumerate", "zip", "dict_itemiterator", "dict_reverseitemiterator", "odict_iterator", "itertools.zip_longest", "itertools.pairwise"].contains T) = false) : ItObj h I :=
  Exists.elim hx fun o q => ⟨q.1, q.2.1, q.2.2, ht⟩
theorem ItAt.obj' {W : Wd} {h : Heap} {I : Addr} {vs : List AV} {g : Option (Nat × AO)} {i : Nat} (x : ItAt W h I vs g i) : ItObj h I := by
  cases x with
  | lst _ _ h => exact .of h (by decide)
  | obj _ h => exact .of h (by decide)
  | tup _ _ h => exact .of h (by decide)
  | rng h => exact ⟨h, rfl, rfl, by decide⟩
  | ascii h => exact .of h (by decide)
  | wide h => exact .of h (by decide)
  | key _ h => exact .of h (by decide)
  | vals _ h => exact .of h (by decide)

theorem ItAt.letGo {M : Model} {A : Around} {E : Value → Shared → Prop} {s : Shared} {W : Wd} {I : Addr} {vs : List AV} {g : Option (Nat × AO)} {i : Nat} (x : ItAt W s.heap I vs g i) {t : Expr} {v : Value} {Q : Unit → Shared → Prop} (hQ : Q () s) : wpAny M A (letOwnedTupleGo t (.ref I) v) Q E s := by
  cases x.obj' with
  | mk h1 h2 h3 h4 =>
    have no : wpAny M A (pure ()) Q E s := wpAny_pure hQ
    have key : wpAny M A (letOwnedTupleGo (.List [] ⟨0, 0, 0, 0⟩) (.ref I) v) Q E s := by
      cases v with
      | ref a =>
        refine wpAny_bind (wpAny_load h1 ?_)
        rw [h2, h3]
        dsimp only
        rw [h4, Bool.false_and]
        exact no
      | _ => exact no
    cases t with
    | Tuple => exact key
    | List => exact key
    | _ => exact no

structure ItOk (C : Cx) (env : Env) (W : Wd) (h : Heap) (I : Addr) : Prop where
  none : h.get? I = none
  φ : I ∉ W.φ
  old : C.h₀.get? I = Option.none
  ι : ∀ q ∈ W.ι, q.1 ≠ I
  priv : ∀ p, (p = env.locals ∨ ∃ x, env.cells.lookup x = some p) → p ≠ I
  frm : ∀ e ∈ C.fr, e.frame ≠ some I

section
variable {C : Cx} {n : Nat} {Γ : SCx} {env : Env} {W W' : Wd} {A : Around} {s : Shared} {st : St} {h h' : Heap} {I : Addr}

theorem ItOk.notPriv (x : ItOk C env W h I) : I ∉ Mine.priv Γ env := by
  intro q
  rcases List.mem_cons.mp q with q | q
  · exact x.priv _ (.inl rfl) q.symm
  · obtain ⟨y, _, hy⟩ := List.mem_filterMap.mp q
    exact x.priv _ (.inr ⟨y, hy⟩) rfl

theorem LR.but {θ : Nat → Option AV} (L : LR C Γ env W θ h) (hp : ∀ p, (p = env.locals ∨ ∃ x, env.cells.lookup x = some p) → p ≠ I) (hk : ∀ b o, b ≠ I → h.get? b = some o → h'.get? b = some o) : LR C Γ env W θ h' := by
  have hk : ∀ p, (p = env.locals ∨ ∃ x, env.cells.lookup x = some p) → ∀ o, h.get? p = some o → h'.get? p = some o := fun p q o e => hk p o (hp p q) e
  refine ⟨L.kind, L.glob, L.blt, L.names, L.inj, ?_, ?_, L.cinj, ?_, L.top⟩
  · obtain ⟨m, ⟨o, es, ep, ho, r⟩, hm⟩ := L.loc
    exact ⟨m, ⟨o, es, ep, hk _ (.inl rfl) _ ho, r⟩, hm⟩
  · intro x kd i h1 h2
    obtain ⟨c, ov, hc, hne, ⟨o, ho, r⟩, hv⟩ := L.cel x kd i h1 h2
    exact ⟨c, ov, hc, hne, ⟨o, hk _ (.inr ⟨x, hc⟩) _ ho, r⟩, hv⟩
  · intro p hp
    obtain ⟨h1, h2, h3, o4, h4⟩ := L.out p hp
    exact ⟨h1, h2, h3, o4, hk p hp o4 h4⟩
theorem Rel.but {σ : List AO} (R : Rel C W σ h) (h1 : I ∉ W.φ) (h2 : C.h₀.get? I = none) (h3 : ∀ q ∈ W.ι, q.1 ≠ I) (h4 : ∀ e ∈ C.fr, e.frame ≠ some I) (hk : ∀ b o, b ≠ I → h.get? b = some o → h'.get? b = some o) : Rel C W σ h' :=
  ⟨R.ok, fun b x e => hk b x (fun q => by rw [q, h2] at e; cases e) (R.old b x e), fun p hq => hk _ _ (h3 p hq) (R.imm p hq), R.len, R.nodup, R.apart, R.new, R.big,
    fun i o a e ea => (R.objs i o a e ea).same fun x hx => hk a x (fun q => h1 (q ▸ mem_of_get ea)) hx,
    fun e he => by
      obtain ⟨g0, L, g1, g2, g3, g4, o, es, ep, g5, g6⟩ := R.frs e he
      exact ⟨g0, L, g1, g2, g3, g4, o, es, ep, hk L o (fun q => h4 e he (q ▸ g1)) g5, g6⟩⟩
theorem Inv.but {h0 : Heap} (J : Inv C Γ env W st h) (x : ItOk C env W h0 I) (hk : ∀ b o, b ≠ I → h.get? b = some o → h'.get? b = some o) : Inv C Γ env W st h' :=
  ⟨J.rel.but x.φ x.old x.ι x.frm hk, J.loc.but x.priv hk⟩
theorem ItOk.keep {π : List Addr} {h0 : Heap} (x : ItOk C env W h0 I) (k : Keep W W' π h h') (hI : ∃ o, h.get? I = some o) : ItOk C env W' h0 I := by
  obtain ⟨o, hI⟩ := hI
  refine ⟨x.none, fun q => ?_, x.old, fun q hq e => ?_, x.priv, x.frm⟩
  · have := k.new I q x.φ; rw [hI] at this; cases this
  · rcases k.imm q hq with z | z
    · exact x.ι q z e
    · rw [e, hI] at z; cases z
theorem ItOk.new {st : St} (J : Inv C Γ env W st h) : ItOk C env W h h.objs.size :=
  ⟨get?_size h, J.rel.fresh, J.rel.freshOld, fun q hq e => absurd (Heap.lt_size (J.rel.imm q hq)) (by rw [e]; exact Nat.lt_irrefl _), fun p hp e => by
    obtain ⟨_, _, _, o, ho⟩ := J.loc.out p hp
    exact absurd (Heap.lt_size ho) (by rw [e]; exact Nat.lt_irrefl _), fun e he q => by
    obtain ⟨_, L, g1, _, _, _, o, _, _, g5, _⟩ := J.rel.frs e he
    rw [g1] at q; cases q
    exact absurd (Heap.lt_size g5) (Nat.lt_irrefl _)⟩
theorem ItOk.back {π : List Addr} {h0 : Heap} (x : ItOk C env W' h I) (k : Keep W W' π h0 h) : ItOk C env W' h0 I := ⟨k.back x.none, x.φ, x.old, x.ι, x.priv, x.frm⟩

noncomputable def Made (C : Cx) (Γ : SCx) (env : Env) (W : Wd) (s : Shared) (vs : List AV) (g : Option (Nat × AO)) (st' : St) (Q : Value → Shared → Prop) : Prop :=
  ∀ I W' h' tk, Inv C Γ env W' st' h' → Keep W W' (priv Γ env) s.heap h' → ItOk C env W' s.heap I → ItAt W' h' I vs g 0 → gOk g st'.σ → Q (.ref I) { s with heap := h', toks := tk }
structure Itb (C : Cx) (n : Nat) (Γ : SCx) (e : Expr) (f : K (List AV × Option (Nat × AO))) : Prop where
  run : ∀ A env W st (s : Shared), AOk C n A → Inv C Γ env W st s.heap → ∀ vs g st', f st = some ((vs, g), st') → ∀ (Q : Value → Shared → Prop) (E : Value → Shared → Prop), Made C Γ env W s vs g st' Q →
    wpAny (model C.prog C.w) A (eval e env) (fun x s₁ => wpAny (model C.prog C.w) A (pyIter x) Q E s₁) E s
noncomputable def srcK (a : AV) : K (List AV × Option (Nat × AO)) := fun st => (srcOf a st.σ).map fun p => (p, st)

theorem Keep.pushed {h : Heap} {π : List Addr} (o : Obj) : Keep W W π h (h.push o) := .of (.refl W) (fun u1 u2 e u3 u4 => Heap.get?_push_of_some _ e) (fun u1 x e => ⟨x, Heap.get?_push_of_some _ e⟩) (fun u1 h1 h2 => absurd h1 h2) (fun u1 h => .inl h)
theorem Inv.pushed (J : Inv C Γ env W st h) (o : Obj) : Inv C Γ env W st (h.push o) := J.but (ItOk.new J) fun u1 u2 u3 e => Heap.get?_push_of_some _ e

theorem Itb.val {e : Expr} {f : K AV} (he : Ev C n Γ e f) : Itb C n Γ e (K.bind f srcK) :=
  ⟨fun A env W st s ok J vs g st' e Q E hq => K.bindE e fun a st₁ e1 e => Exists.elim (Option.map_eq_some_iff.mp e) fun p q => by
    cases q.2
    exact he.run A env W st s ok J _ _ e1 _ _ fun va W1 h1 tk1 J1 k1 v1 => ItAt.start (s := { s with heap := h1, toks := tk1 }) J1.rel v1 q.1 fun o u1 hit => hq _ W1 _ tk1 (J1.pushed o) (k1.trans (.pushed o)) ((ItOk.new J1).back k1) hit (srcOf_ok q.1)⟩

open Classical in
noncomputable def forL (g : Option (Nat × AO)) (asg : AV → K Unit) (b o : K Fl) : List AV → K Fl
  | [] => K.bind (guardK fun st => gOk g st.σ) fun u1 => o
  | a :: r => K.bind (guardK fun st => gOk g st.σ) fun u1 => K.bind (asg a) fun u1 => K.bind b fun fl => match fl with
    | .next | .cont => forL g asg b o r
    | .brk => K.ret .next
    | .ret v => K.ret (.ret v)

theorem ItAt.keep {vs : List AV} {g : Option (Nat × AO)} {k : Nat} {h0 : Heap} (i : ItAt W h I vs g k) (x : ItOk C env W h0 I) (K : Keep W W' (Mine.priv Γ env) h h') : ItAt W' h' I vs g k ∧ ItOk C env W' h0 I := by
  cases i.obj' with
  | mk h1 _ h3 _ => exact ⟨i.mono K.le fun o e => K.exact e x.φ x.notPriv fun es ep q => (by rw [h1] at e; cases e; rw [h3] at q; cases q), x.keep K ⟨_, h1⟩⟩
noncomputable def turnK (r : K Fl) : Fl → K Fl
  | .next => r
  | .cont => r
  | .brk => K.ret .next
  | .ret v => K.ret (.ret v)
theorem forTurn {hb : Heap} {vs : List AV} {gd : Option (Nat × AO)} {j : Nat} {asg : AV → K Unit} {b o : K Fl} {r : Fl × St} {S : Option Value → Shared → Prop} {E : Value → Shared → Prop} (hh : A.handled = none) (J : Inv C Γ env W st s.heap) (x : ItOk C env W hb I) (i : ItAt W s.heap I vs gd j)
    (e : forL gd asg b o (vs.drop j) st = some r)
    (hnil : ∀ h2 tk2, Inv C Γ env W st h2 → (∀ b o, b ≠ I → s.heap.get? b = some o → h2.get? b = some o) → o st = some r → S none { s with heap := h2, toks := tk2 })
    (hcons : ∀ a v st₁ fl st₂ h2 tk2, j < vs.length → Inv C Γ env W st h2 → (∀ b o, b ≠ I → s.heap.get? b = some o → h2.get? b = some o) → VR W a v → ItAt W h2 I vs gd (j + 1) → asg a st = some ((), st₁) → b st₁ = some (fl, st₂) → turnK (forL gd asg b o (vs.drop (j + 1))) fl st₂ = some r → S (some v) { s with heap := h2, toks := tk2 }) :
    wpAny (model C.prog C.w) A (pyNext (.ref I)) S E s := by
  obtain ⟨v, st'⟩ := r
  cases hd : vs.drop j with
  | nil =>
    rw [hd] at e
    exact guardE e fun hg e => i.done J.rel hg hh (List.getElem?_eq_none_iff.mpr (List.drop_eq_nil_iff.mp hd)) fun h2 tk2 hx => hnil h2 tk2 (J.but x fun b o nb e => hx b o nb e) (fun b o nb e => hx b o nb e) e
  | cons a r =>
    rw [hd] at e
    have hj : vs[j]? = some a := by rw [← List.head?_drop, hd]; rfl
    have hr : r = vs.drop (j + 1) := by rw [← List.tail_drop, hd]; rfl
    subst hr
    refine guardE e fun hg e => K.bindE e fun u st₁ e1 e => K.bindE e fun fl st₂ e2 e => i.next J.rel hg hj fun w h2 tk2 hw i2 hx => ?_
    have bt : ∀ b o, b ≠ I → s.heap.get? b = some o → h2.get? b = some o := fun b o nb e => (hx.2 b nb).trans e
    exact hcons a w st₁ fl st₂ h2 tk2 (List.getElem?_eq_some_iff.mp hj).1 (J.but x bt) bt hw i2 e1 e2 (by cases fl <;> exact e)

theorem turn_lt {j k m : Nat} (h : j < k) (e : k - j = m) : k - (j + 1) < m := by omega
inductive ForAt (C : Cx) (Γ : SCx) (env : Env) (W : Wd) (s : Shared) (I : Addr) (vs : List AV) (gd : Option (Nat × AO)) (F : List AV → K Fl) (r : Fl × St) : Nat → Shared → Prop
  | mk {W₁ : Wd} {st₁ : St} {h₁ : Heap} {tk₁ j m : Nat} : Inv C Γ env W₁ st₁ h₁ → Keep W W₁ (Mine.priv Γ env) s.heap h₁ → ItOk C env W₁ s.heap I → ItAt W₁ h₁ I vs gd j → F (vs.drop j) st₁ = some r → vs.length - j = m → ForAt C Γ env W s I vs gd F r m { s with heap := h₁, toks := tk₁ }
theorem Ex.for {t it : Expr} {b o : List Stmt} {pos : Pos} {f : K (List AV × Option (Nat × AO))} {asg : AV → K Unit} {g k : K Fl} (hi : Itb C n Γ it f) (ht : As C n Γ t asg) (hb : Exs C n Γ b g) (ho : Exs C n Γ o k)
    (hs : ∀ env x, foldedSetIterable it env x = pure x) (hcalm : C.calm = true) : Ex C n Γ (.For t it b o pos) (K.bind f fun p => forL p.2 asg g k p.1) := by
  refine ⟨fun A env W st s ok J v st' e Q E hq => K.bindE e fun p st₁ e1 e => ?_⟩
  refine wpAny_For (hi.run A env W st s ok J p.1 p.2 st₁ e1 _ E fun I W1 h1 tk1 J1 k1 x1 i1 u1 => ?_) (hs env)
  refine codeAny_forLoop_any (ForAt C Γ env W s I p.1 p.2 (forL p.2 asg g k) (v, st')) ?_ p.1.length ⟨J1, k1, x1, i1, e, rfl⟩
  clear e e1 J1 i1 k1 x1
  intro m s₁ a
  cases a with
  | mk J₁ k₁ x₁ i₁ e hm =>
    refine forTurn (s := { s with heap := _, toks := _ }) (ok.handled hcalm) J₁ x₁ i₁ e (fun h2 tk2 J2 bt e => ?_) fun a x st₂ fl st₃ h2 tk2 hlt J2 bt vx i2 e3 e4 e => ?_
    · exact ho.run A env _ _ { s with heap := h2, toks := tk2 } ok J2 _ _ e _ _ fun fl W3 h3 tk3 J3 k3 v3 => hq fl W3 h3 tk3 J3 ((k₁.ext x₁.none bt).trans k3) v3
    · replace k₁ := k₁.ext x₁.none bt
      refine i2.letGo (s := { s with heap := h2, toks := tk2 }) (ht.run A env _ _ { s with heap := h2, toks := tk2 } a x ok J2 vx _ _ e3 _ _ fun u W3 h3 tk3 J3 k3 u1 => ?_)
      have y3 := i2.keep x₁ k3
      replace k₁ := k₁.trans k3
      clear i2 x₁ i₁ J₁ J2 vx e3 bt k3
      refine hb.run A env W3 st₂ { s with heap := h3, toks := tk3 } ok J3 _ _ e4 _ _ fun fl' W4 h4 tk4 J4 k4 v4 => ?_
      have y4 := y3.1.keep y3.2 k4
      replace k₁ := k₁.trans k4
      clear y3 J3 e4 k4
      have again : forL p.2 asg g k (p.1.drop (_ + 1)) st₃ = some (v, st') → ∃ m', m' < m ∧ ForAt C Γ env W s I p.1 p.2 (forL p.2 asg g k) (v, st') m' { s with heap := h4, toks := tk4 } := fun e => ⟨_, turn_lt hlt hm, J4, k₁, y4.2, y4.1, e, rfl⟩
      cases v4 with
      | next => exact again e
      | cont => exact again e
      | brk => cases e; exact hq _ W4 h4 tk4 J4 k₁ .next
      | ret hv => cases e; exact hq _ W4 h4 tk4 J4 k₁ (.ret hv)
end
end Mine
set_option Elab.async false
namespace Mine
open PySem PyProof.Rows PySem.W

noncomputable abbrev testsOf (ifs : List Expr) (env : Env) : Sem Bool := forIn ifs true fun c r => if r = true then do let ok ← isTrue c env (eval c env); pure (ForInStep.yield ok) else pure (ForInStep.yield r)
theorem compTurn_last {elt target iter : Expr} {ifs : List Expr} {gens : List Comprehension} {scope : Scope} {pos : Pos} {it acc : Value} {env : Env} {depth : Nat} (hg : gens[depth]? = some ⟨target, iter, ifs, 0⟩) (hn : gens[depth + 1]? = none) :
    compTurn (.ListComp elt gens scope pos) depth it acc env = (do
      standAt iter.pos
      match ← pyNext it with
      | none => pure (.done .next)
      | some v =>
        letOwnedTupleGo target it v
        assign target env v
        let ok ← testsOf ifs env
        if ok then
          (do let _ ← call (.builtin "list.append") [acc, ← eval elt env])
        again (.compLoop (.ListComp elt gens scope pos) depth it acc env)) := by
  unfold compTurn
  dsimp only
  rw [hg]
  dsimp only
  rw [hn]
  rfl
theorem compTurn_more {elt target iter t' i' : Expr} {ifs ifs' : List Expr} {gens : List Comprehension} {scope : Scope} {pos : Pos} {it acc : Value} {env : Env} {depth : Nat} (hg : gens[depth]? = some ⟨target, iter, ifs, 0⟩) (hn : gens[depth + 1]? = some ⟨t', i', ifs', 0⟩) :
    compTurn (.ListComp elt gens scope pos) depth it acc env = (do
      standAt iter.pos
      match ← pyNext it with
      | none => pure (.done .next)
      | some v =>
        letOwnedTupleGo target it v
        assign target env v
        let ok ← testsOf ifs env
        if ok then do
            let x ← eval i' env
            standAt i'.pos
            let x ← foldedSetIterable i' env x
            let y ← holding [x] (pyIter x)
            let _ ← runOwn (.compStart (.ListComp elt gens scope pos) (depth + 1) y acc env) env
            again (.compLoop (.ListComp elt gens scope pos) depth it acc env)
          else again (.compLoop (.ListComp elt gens scope pos) depth it acc env)) := by
  unfold compTurn
  dsimp only
  rw [hg]
  dsimp only
  rw [hn]
  rfl

section
variable {prog : Program} {w : World} {A : Around} {R : Result → Shared → Prop} {s : Shared}

noncomputable def Ins (prog : Program) (w : World) (A : Around) (elt : Expr) (gens : List Comprehension) (scope : Scope) (pos : Pos) (depth : Nat) (acc : Value) (env : Env) (Q : Shared → Prop) (E : Value → Shared → Prop) (s : Shared) : Prop :=
  match gens[depth + 1]? with
  | none => wpAny (model prog w) A (eval elt env) (fun x s₁ => wpAny (model prog w) A (call (.builtin "list.append") [acc, x]) (fun u1 s₂ => Q s₂) E s₁) E s
  | some g => (∀ x, foldedSetIterable g.iter env x = pure x) ∧ wpAny (model prog w) A (eval g.iter env) (fun x s₁ => wpAny (model prog w) A (pyIter x) (fun it s₂ =>
      codeAny (model prog w) A (.compStart (.ListComp elt gens scope pos) (depth + 1) it acc env) (fun r s' => match r with | .ok _ => Q s' | .error e => cameBackBy (model prog w) A env E e s') s₂) E s₁) E s
noncomputable def TurnQ (prog : Program) (w : World) (A : Around) (elt : Expr) (gens : List Comprehension) (scope : Scope) (pos : Pos) (depth : Nat) (it acc : Value) (env : Env) (target : Expr) (ifs : List Expr) (R : Result → Shared → Prop) (Q : Shared → Prop) (E : Value → Shared → Prop) : Option Value → Shared → Prop
  | none, s₁ => R (.ok .next) s₁
  | some v, s₁ => wpAny (model prog w) A (letOwnedTupleGo target it v) (fun u1 s₁' => wpAny (model prog w) A (assign target env v) (fun u1 s₂ => wpAny (model prog w) A (testsOf ifs env) (fun ok s₃ =>
            if ok = true then Ins prog w A elt gens scope pos depth acc env Q E s₃ else Q s₃) E s₂) E s₁') E s₁

theorem turn_gen {target : Expr} {ifs : List Expr} {gens : List Comprehension} {elt : Expr} {scope : Scope} {pos : Pos} {it acc : Value} {env : Env} {depth : Nat} {Q : Shared → Prop} {E : Value → Shared → Prop} {γ : Type} {k : Bool → Sem γ} {S : γ → Shared → Prop} {v : Value}
    (h : wpAny (model prog w) A (letOwnedTupleGo target it v) (fun u1 s₁' => wpAny (model prog w) A (assign target env v) (fun u1 s₂ => wpAny (model prog w) A (testsOf ifs env) (fun ok s₃ =>
            if ok = true then Ins prog w A elt gens scope pos depth acc env Q E s₃ else Q s₃) E s₂) E s₁') E s)
    (hk : ∀ s, Ins prog w A elt gens scope pos depth acc env Q E s → wpAny (model prog w) A (k true) S E s) (hf : ∀ s, Q s → wpAny (model prog w) A (k false) S E s) :
    wpAny (model prog w) A (do letOwnedTupleGo target it v; assign target env v; let ok ← testsOf ifs env; k ok) S E s :=
  wpAny_bind (wpAny_mono h (fun u1 s₂ h₂ => wpAny_bind (wpAny_mono h₂ (fun u1 s₃ h₃ => wpAny_bind (wpAny_mono h₃ (fun ok s₄ h₄ => by
    cases ok with
    | false => exact hf _ h₄
    | true => exact hk _ h₄) fun u1 u2 h' => h')) fun u1 u2 h' => h')) fun u1 u2 h' => h')

theorem codeAny_compLoop_gen {elt target iter : Expr} {ifs : List Expr} {gens : List Comprehension} {scope : Scope} {pos : Pos} {it acc : Value} {env : Env} {depth : Nat} (hg : gens[depth]? = some ⟨target, iter, ifs, 0⟩) (ha : ∀ g, gens[depth + 1]? = some g → g.is_async = 0) (I : Nat → Shared → Prop)
    (turn : ∀ n s, I n s → ∀ E, wpAny (model prog w) A (pyNext it) (TurnQ prog w A elt gens scope pos depth it acc env target ifs R (fun s₄ => ∃ m, m < n ∧ I m s₄) E) E s)
    (n : Nat) (h : I n s) : codeAny (model prog w) A (.compLoop (.ListComp elt gens scope pos) depth it acc env) R s := by
  refine codeAny_loop rfl I (fun n s hI => ?_) n h
  show wpAny _ A ((compTurn (.ListComp elt gens scope pos) depth it acc env).onRaise (fun x => do noteFrame x env; theTreesLotGoes x)) _ _ s
  refine wpAny_noted ?_
  have turn := turn n s hI
  clear hI h
  cases hn : gens[depth + 1]? with
  | none =>
    rw [compTurn_last hg hn]
    refine wpAny_bind (wpAny_standAt (wpAny_bind (wpAny_mono (turn _) (fun r s₁ h₁ => ?_) fun u1 u2 h' => h')))
    cases r with
    | none => exact wpAny_pure h₁
    | some v =>
      refine turn_gen h₁ (fun s₃ h₃ => ?_) fun s₃ h₃ => wpAny_pure ⟨rfl, h₃⟩
      unfold Ins at h₃
      rw [hn] at h₃
      exact wpAny_bind (wpAny_bind (wpAny_mono h₃ (fun x s₄ h₄ => wpAny_bind (wpAny_mono h₄ (fun u1 s₅ h₅ => wpAny_pure (wpAny_pure ⟨rfl, h₅⟩)) fun u1 u2 h' => h')) fun u1 u2 h' => h'))
  | some g =>
    obtain ⟨t', i', ifs', ia⟩ := g
    obtain rfl : ia = 0 := ha _ hn
    rw [compTurn_more hg hn]
    refine wpAny_bind (wpAny_standAt (wpAny_bind (wpAny_mono (turn _) (fun r s₁ h₁ => ?_) fun u1 u2 h' => h')))
    cases r with
    | none => exact wpAny_pure h₁
    | some v =>
      refine turn_gen h₁ (fun s₃ h₃ => ?_) fun s₃ h₃ => wpAny_pure ⟨rfl, h₃⟩
      unfold Ins at h₃
      rw [hn] at h₃
      refine wpAny_bind (wpAny_mono h₃.2 (fun x s₅ h₅ => wpAny_bind (wpAny_standAt (wpAny_bind (wpAny_of_eq (h₃.1 x) (wpAny_bind (wpAny_holding (wpAny_mono h₅ (fun y s₆ h₆ => ?_) fun u1 u2 h' => h'))))))) fun u1 u2 h' => h')
      refine wpAny_bind (wpAny_runOwn (codeAny_mono h₆ fun r s' hr => ?_))
      cases r with
      | ok f => exact wpAny_pure ⟨rfl, hr⟩
      | error e => exact hr

theorem codeAny_compStart_gen {elt target iter ifs gens scope pos it acc env} {depth : Nat} (hg : gens[depth]? = some ⟨target, iter, ifs, 0⟩)
    (h0 : codeAny (model prog w) A (.compLoop (.ListComp elt gens scope pos) depth it acc env) R s)
    (h : ∀ E, wpAny (model prog w) A (pyIter it) (fun it' s' => codeAny (model prog w) A (.compLoop (.ListComp elt gens scope pos) depth it' acc env) R s') E s) :
    codeAny (model prog w) A (.compStart (.ListComp elt gens scope pos) depth it acc env) R s := by
  refine codeAny_of_tree ?_
  show wpAny _ _ ((compStart (.ListComp elt gens scope pos) depth it acc env).onRaise (fun x => do noteFrame x env; standAt theWindowsPlace)) _ _ s
  refine wpAny_notedAt ?_
  unfold compStart
  have e : (clausesOf (.ListComp elt gens scope pos))[depth]? = some ⟨target, iter, ifs, 0⟩ := hg
  rw [e]
  show wpAny _ _ (ask >>= _) _ _ s
  refine wpAny_bind (wpAny_askSetting (wpAny_ite ?_))
  split
  · first
      | exact wpAny_bind (wpAny_pure (wpAny_pure (And.intro rfl h0)))
      | exact wpAny_pure (And.intro rfl h0)
  · first
      | exact wpAny_bind (wpAny_rule (wpAny_bind (wpAny_standAt (wpAny_bind (wpAny_mono (h _) (fun it' s' h' => wpAny_pure (And.intro rfl h')) fun u1 u2 x => x)))))
      | (refine wpAny_bind (wpAny_rule ?_); show wpAny _ _ (standAt iter.pos >>= _) _ _ s; exact wpAny_bind (wpAny_standAt (wpAny_bind (wpAny_mono (h _) (fun it' s' h' => wpAny_pure (And.intro rfl h')) fun u1 u2 x => x))))
end

theorem ItAt.self {prog : Program} {w : World} {A : Around} {E : Value → Shared → Prop} {s : Shared} {W : Wd} {I : Addr} {vs : List AV} {g : Option (Nat × AO)} {i : Nat} {Q : Value → Shared → Prop} (x : ItAt W s.heap I vs g i) (h : Q (.ref I) s) : wpAny (model prog w) A (pyIter (.ref I)) Q E s := by
  cases x with
  | lst _ _ h3 => exact wpAny_pyIter_listiter h3 h
  | obj _ h3 => exact wpAny_pyIter_listiter h3 h
  | tup _ _ h3 => exact wpAny_pyIter_tupleiter h3 h
  | rng h3 => exact wpAny_pyIter_rangeiter h3 h
  | ascii h3 => exact wpAny_pyIter_striter_ascii h3 h
  | wide h3 => exact wpAny_pyIter_striter_wide h3 h
  | key _ h3 => exact wpAny_pyIter_keyiter h3 h
  | vals _ h3 => exact wpAny_pyIter_valiter h3 h

section
variable {C : Cx} {n : Nat} {Γ : SCx} {env : Env} {W W' : Wd} {A : Around} {s : Shared} {st : St} {h h' : Heap} {I : Addr}

structure Ifs (C : Cx) (n : Nat) (Γ : SCx) (ifs : List Expr) (f : K Bool) : Prop where
  run : ∀ A env W st s, AOk C n A → Inv C Γ env W st s.heap → Run C Γ env W A s (testsOf ifs env) (f st) fun u1 a b => a = b
theorem Ifs.nil : Ifs C n Γ [] (K.ret true) := ⟨fun A env W st s ok J => .now J s.toks rfl fun Q E h => wpAny_pure h⟩
theorem forIn_false {env : Env} : ∀ (ifs : List Expr), (forIn ifs false fun c r => if r = true then do let ok ← isTrue c env (eval c env); pure (ForInStep.yield ok) else pure (ForInStep.yield r) : Sem Bool) = pure false
  | [] => rfl
  | c :: r => by
    rw [List.forIn_cons]
    simp only [Bool.false_eq_true, if_false]
    exact forIn_false r
theorem Ifs.cons {c : Expr} {r : List Expr} {f g : K Bool} (h : Te C n Γ c f) (hr : Ifs C n Γ r g) : Ifs C n Γ (c :: r) (K.bind f fun b => if b then g else K.ret false) :=
  ⟨fun A env W st s ok J => .step (k := fun b => forIn r b fun c r => if r = true then do let ok ← isTrue c env (eval c env); pure (ForInStep.yield ok) else pure (ForInStep.yield r))
    (fun Q E h => by
      unfold testsOf
      rw [List.forIn_cons, if_pos rfl]
      exact wpAny_bind (wpAny_bind (wpAny_mono h (fun b s₁ h₁ => wpAny_pure h₁) fun u1 u2 h => h)))
    (h.run A env W st s ok J) fun b st₁ b' W1 h1 tk1 J1 k1 v1 => by
      subst v1
      cases b with
      | true => exact hr.run A env W1 st₁ _ ok J1
      | false =>
        rw [forIn_false]
        exact .now J1 tk1 rfl fun Q E h => wpAny_pure h⟩

noncomputable def appD (d : Nat) (x : AV) : K Fl := fun st => (lstAt st.σ d).bind fun vs => if vs.length < 2 ^ 20 then some (.next, ⟨st.θ, st.σ.set d (.list (vs ++ [x]))⟩) else none

structure Lp (C : Cx) (n : Nat) (Γ : SCx) (elt : Expr) (gens : List Comprehension) (scope : Scope) (pos : Pos) (depth : Nat) (F : Nat → List AV × Option (Nat × AO) → K Fl) : Prop where
  run : ∀ A env (B : Wd → Heap → Prop) hb W st (s : Shared) d D I vs g, (∀ W h W' h', B W h → Keep W W' (priv Γ env) h h' → B W' h') → (∀ W h h', B W h → (∀ b o, b ≠ I → h.get? b = some o → h'.get? b = some o) → B W h') →
    AOk C n A → Inv C Γ env W st s.heap → B W s.heap → ItOk C env W hb I → ItAt W s.heap I vs g 0 → W.φ[d]? = some D →
    ∀ st', F d (vs, g) st = some (.next, st') → ∀ R : Result → Shared → Prop, (∀ W' h' tk, Inv C Γ env W' st' h' → B W' h' → W.Le W' → R (.ok .next) { s with heap := h', toks := tk }) →
    codeAny (model C.prog C.w) A (.compStart (.ListComp elt gens scope pos) depth (.ref I) (.ref D) env) R s

noncomputable def PostC (C : Cx) (Γ : SCx) (env : Env) (W : Wd) (s : Shared) (st' : St) (Q : Shared → Prop) : Prop := ∀ W' h' tk, Inv C Γ env W' st' h' → Keep W W' (priv Γ env) s.heap h' → Q { s with heap := h', toks := tk }
inductive LpAt (C : Cx) (Γ : SCx) (env : Env) (B : Wd → Heap → Prop) (hb : Heap) (W : Wd) (s : Shared) (I : Addr) (vs : List AV) (gd : Option (Nat × AO)) (d : Nat) (D : Addr) (F : List AV → K Fl) (r : Fl × St) : Nat → Shared → Prop
  | mk {W₁ : Wd} {st₁ : St} {h₁ : Heap} {tk₁ j m : Nat} : Inv C Γ env W₁ st₁ h₁ → B W₁ h₁ → W.Le W₁ → ItOk C env W₁ hb I → ItAt W₁ h₁ I vs gd j → W₁.φ[d]? = some D → F (vs.drop j) st₁ = some r → vs.length - j = m → LpAt C Γ env B hb W s I vs gd d D F r m { s with heap := h₁, toks := tk₁ }
theorem Lp.loop {elt : Expr} {gens : List Comprehension} {scope : Scope} {pos : Pos} {depth : Nat} {target iter : Expr} {ifs : List Expr} {asg : AV → K Unit} {b : Nat → K Fl}
    (hcalm : C.calm = true) (hg : gens[depth]? = some ⟨target, iter, ifs, 0⟩) (ha : ∀ g, gens[depth + 1]? = some g → g.is_async = 0) (ht : As C n Γ target asg)
    (hb : ∀ A env W st (s : Shared) d D, AOk C n A → Inv C Γ env W st s.heap → W.φ[d]? = some D → ∀ fl st', b d st = some (fl, st') → fl = .next ∧ ∀ (Q : Shared → Prop) E, PostC C Γ env W s st' Q →
      wpAny (model C.prog C.w) A (testsOf ifs env) (fun ok s₃ => if ok = true then Ins C.prog C.w A elt gens scope pos depth (.ref D) env Q E s₃ else Q s₃) E s) :
    Lp C n Γ elt gens scope pos depth fun d p => forL p.2 asg (b d) (K.ret .next) p.1 := by
  refine ⟨fun A env B hb' W st s d D I vs gd c1 c2 ok J k x i hd st' e R hq => ?_⟩
  have main : codeAny (model C.prog C.w) A (.compLoop (.ListComp elt gens scope pos) depth (.ref I) (.ref D) env) R s := by
    refine codeAny_compLoop_gen hg ha (LpAt C Γ env B hb' W s I vs gd d D (forL gd asg (b d) (K.ret .next)) (.next, st')) ?_ vs.length ⟨J, k, .refl _, x, i, hd, e, rfl⟩
    clear e J k x i hd hg ha
    intro m s₁ a E
    cases a with
    | mk J₁ k₁ le₁ x₁ i₁ hd₁ e hm =>
      refine forTurn (s := { s with heap := _, toks := _ }) (ok.handled hcalm) J₁ x₁ i₁ e (fun h2 tk2 J2 bt e => ?_) fun a v st₂ fl st₃ h2 tk2 hlt J2 bt vx i2 e3 e4 e => ?_
      · cases e
        exact hq _ h2 tk2 J2 (c2 _ _ _ k₁ bt) le₁
      · refine i2.letGo (s := { s with heap := h2, toks := tk2 }) (ht.run A env _ _ { s with heap := h2, toks := tk2 } a v ok J2 vx _ _ e3 _ _ fun u W3 h3 tk3 J3 k3 u1 => ?_)
        have y3 := i2.keep x₁ k3
        replace k₁ := c1 _ _ _ _ (c2 _ _ _ k₁ bt) k3
        replace le₁ := le₁.trans k3.le
        replace hd₁ := k3.le.at hd₁
        clear i2 x₁ i₁ J₁ J2 vx e3 bt k3
        have q := hb A env W3 st₂ { s with heap := h3, toks := tk3 } d D ok J3 hd₁ fl st₃ e4
        obtain ⟨rfl, hb⟩ := q
        refine hb _ _ fun W4 h4 tk4 J4 k4 => ?_
        have y4 := y3.1.keep y3.2 k4
        exact ⟨_, turn_lt hlt hm, J4, c1 _ _ _ _ k₁ k4, le₁.trans k4.le, y4.2, y4.1, k4.le.at hd₁, e, rfl⟩
  exact codeAny_compStart_gen hg main fun E => i.self main

theorem Lp.tests {elt : Expr} {gens : List Comprehension} {scope : Scope} {pos : Pos} {depth : Nat} {ifs : List Expr} {t : K Bool} {b : K Fl} (hi : Ifs C n Γ ifs t) {D : Addr} {fl : Fl} {st' : St} (ok : AOk C n A) (J : Inv C Γ env W st s.heap) (e : K.bind t (fun ok => if ok then b else K.ret .next) st = some (fl, st'))
    (hb : ∀ st₁, b st₁ = some (fl, st') → fl = .next ∧ ∀ (W1 : Wd) (s₁ : Shared), W.Le W1 → Inv C Γ env W1 st₁ s₁.heap → ∀ (Q : Shared → Prop) E, PostC C Γ env W1 s₁ st' Q → Ins C.prog C.w A elt gens scope pos depth (.ref D) env Q E s₁) :
    fl = .next ∧ ∀ (Q : Shared → Prop) E, PostC C Γ env W s st' Q → wpAny (model C.prog C.w) A (testsOf ifs env) (fun ok s₃ => if ok = true then Ins C.prog C.w A elt gens scope pos depth (.ref D) env Q E s₃ else Q s₃) E s :=
  K.bindE e fun c st₁ e1 e2 => by
    cases c with
    | false =>
      cases e2
      refine ⟨rfl, fun Q E hq => hi.run A env W st s ok J _ _ e1 _ _ fun b W1 h1 tk1 J1 k1 v1 => ?_⟩
      subst v1
      exact hq W1 h1 tk1 J1 k1
    | true =>
      have x := hb st₁ e2
      refine ⟨x.1, fun Q E hq => hi.run A env W st s ok J _ _ e1 _ _ fun b W1 h1 tk1 J1 k1 v1 => ?_⟩
      subst v1
      exact x.2 W1 { s with heap := h1, toks := tk1 } k1.le J1 Q E fun W' h' tk J' k' => hq W' h' tk J' (k1.trans k')

theorem Lp.last {elt : Expr} {gens : List Comprehension} {scope : Scope} {pos : Pos} {depth : Nat} {target iter : Expr} {ifs : List Expr} {asg : AV → K Unit} {t : K Bool} {f : K AV}
    (hcalm : C.calm = true) (hg : gens[depth]? = some ⟨target, iter, ifs, 0⟩) (hn : gens[depth + 1]? = none) (ht : As C n Γ target asg) (hi : Ifs C n Γ ifs t) (he : Ev C n Γ elt f) :
    Lp C n Γ elt gens scope pos depth fun d p => forL p.2 asg (K.bind t fun ok => if ok then K.bind f fun v => appD d v else K.ret .next) (K.ret .next) p.1 := by
  refine Lp.loop hcalm hg (fun g e => nomatch hn.symm.trans e) ht (b := fun d => K.bind t fun ok => if ok then K.bind f fun v => appD d v else K.ret .next) fun A env W st s d D ok J hd fl st' e => Lp.tests hi ok J e fun st₁ e => ?_
  refine K.bindE e fun x st₂ e3 e4 => bindE (P := fun r => r.1 = Fl.next ∧ ∀ (W1 : Wd) (s₁ : Shared), W.Le W1 → Inv C Γ env W1 st₁ s₁.heap → ∀ (Q : Shared → Prop) E, PostC C Γ env W1 s₁ r.2 Q → Ins C.prog C.w A elt gens scope pos depth (.ref D) env Q E s₁) e4 fun xs hx e5 => ite_some e5 fun hlt => ⟨rfl, fun W1 s₁ le J1 Q E hq => ?_⟩
  unfold Ins
  rw [hn]
  exact he.run A env W1 st₁ s₁ ok J1 _ _ e3 _ _ fun vx W2 h2 tk2 J2 k2 v2 => lstE J2.rel (k2.le.at (le.at hd)) hx fun items m hgt hr hlen =>
    append_at (s := { s₁ with heap := h2, toks := tk2 }) hgt (fun h' hs ho' => by
      have y := J2.rel.upd (o := .list (xs ++ [x])) (k2.le.at (le.at hd)) hs ⟨_, _, ho', by rw [Array.toList_push]; exact hr.append (.one v2)⟩
      exact hq _ _ _ (J2.keep y.1 y.2) (k2.trans y.2.wide)) (by unfold sizeLine; omega)

theorem Lp.more {elt : Expr} {gens : List Comprehension} {scope : Scope} {pos : Pos} {depth : Nat} {target iter t' i' : Expr} {ifs ifs' : List Expr} {asg : AV → K Unit} {t : K Bool} {f : K (List AV × Option (Nat × AO))} {F : Nat → List AV × Option (Nat × AO) → K Fl}
    (hcalm : C.calm = true) (hg : gens[depth]? = some ⟨target, iter, ifs, 0⟩) (hn : gens[depth + 1]? = some ⟨t', i', ifs', 0⟩) (ht : As C n Γ target asg) (hi : Ifs C n Γ ifs t) (hit : Itb C n Γ i' f) (hs : ∀ env x, foldedSetIterable i' env x = pure x) (hF : Lp C n Γ elt gens scope pos (depth + 1) F) :
    Lp C n Γ elt gens scope pos depth fun d p => forL p.2 asg (K.bind t fun ok => if ok then K.bind f fun p => K.bind (F d p) fun fl => match fl with | .next => K.ret .next | _ => K.fail else K.ret .next) (K.ret .next) p.1 := by
  refine Lp.loop hcalm hg (fun g e => by rw [hn] at e; cases e; rfl) ht (b := fun d => K.bind t fun ok => if ok then K.bind f fun p => K.bind (F d p) fun fl => match fl with | .next => K.ret .next | _ => K.fail else K.ret .next) fun A env W st s d D ok J hd fl st' e => Lp.tests hi ok J e fun st₁ e => ?_
  refine K.bindE e fun p st₂ e3 e4 => K.bindE e4 fun fl' st₃ e5 e6 => ?_
  cases fl' with
  | next =>
    cases e6
    refine ⟨rfl, fun W1 s₁ le J1 Q E hq => ?_⟩
    unfold Ins
    rw [hn]
    refine ⟨hs env, hit.run A env W1 st₁ s₁ ok J1 p.1 p.2 st₂ e3 _ _ fun I W2 h2 tk2 J2 k2 x2 i2 u1 => ?_⟩
    exact hF.run A env (fun W' h' => Keep W1 W' (priv Γ env) s₁.heap h') s₁.heap W2 st₂ { s₁ with heap := h2, toks := tk2 } d D I p.1 p.2 (fun u1 u2 u3 u4 a b => a.trans b) (fun u1 u2 u3 a b => a.ext x2.none b) ok J2 k2 x2 i2 (k2.le.at (le.at hd)) _ e5 _ fun W3 h3 tk3 J3 k3 u1 => hq W3 h3 tk3 J3 k3
  | brk => cases e6
  | cont => cases e6
  | ret v => cases e6
end
end Mine
set_option Elab.async false
namespace Mine
open PySem PyProof.Rows PySem.W

noncomputable def relK (Γ : SCx) (n : Str) (k : NameKind) : NameKind := if (k == .free && (Γ.tab.lookup n).map (fun x => x.1) == some .cell) = true then .cell else k
noncomputable def relN (Γ : SCx) (l : List (Str × NameKind)) : List (Str × NameKind) := l.map fun x => (x.1, relK Γ x.1 x.2)
noncomputable def scxC (Γ : SCx) (sc : Scope) : SCx := { tab := numb 0 (relN Γ sc.names), own := (sc.names.filter (·.2 == .cell)).map (fun x => x.1), comp := true }
noncomputable def capOf (Γ : SCx) (sc : Scope) : List (Nat × Nat) := (numb 0 sc.names).filterMap fun x => if x.2.1 = .free then (Γ.tab.lookup x.1).map fun p => (x.2.2, p.2) else none
noncomputable def θcap (cap : List (Nat × Nat)) (θ : Nat → Option AV) : Nat → Option AV := fun j => (cap.lookup j).bind θ

theorem numb_uniq {x y : Str} {k k' : NameKind} {j : Nat} : ∀ {l : List (Str × NameKind)} {i : Nat}, (x, k, j) ∈ numb i l → (y, k', j) ∈ numb i l → x = y ∧ k = k'
  | (z, kz) :: r, i, h, h' => by
    have ge : ∀ {l : List (Str × NameKind)} {i : Nat} {x : Str} {k : NameKind} {j : Nat}, (x, k, j) ∈ numb i l → i ≤ j := by
      intro l
      induction l with
      | nil => intro i x k j h; cases h
      | cons a r ih =>
        intro i x k j h
        rcases List.mem_cons.mp h with e | h
        · cases e; exact Nat.le_refl _
        · exact Nat.le_of_succ_le (ih h)
    rcases List.mem_cons.mp h with e | q <;> rcases List.mem_cons.mp h' with e' | q'
    · cases e; cases e'; exact ⟨rfl, rfl⟩
    · cases e; exact absurd (ge q') (Nat.not_succ_le_self _)
    · cases e'; exact absurd (ge q) (Nat.not_succ_le_self _)
    · exact numb_uniq q q'
theorem numb_rel {Γ : SCx} {x : Str} {k : NameKind} {j : Nat} : ∀ {l : List (Str × NameKind)} {i : Nat}, (x, k, j) ∈ numb i (relN Γ l) → ∃ k0, (x, k0, j) ∈ numb i l ∧ k = relK Γ x k0
  | (z, kz) :: r, i, h => by
    rcases List.mem_cons.mp h with e | h
    · cases e; exact ⟨kz, List.mem_cons_self, rfl⟩
    · obtain ⟨k0, h1, h2⟩ := numb_rel (l := r) h
      exact ⟨k0, List.mem_cons_of_mem _ h1, h2⟩
theorem numb_mem {x : Str} {k : NameKind} {j : Nat} : ∀ {l : List (Str × NameKind)} {i : Nat}, (x, k, j) ∈ numb i l → (x, k) ∈ l
  | (z, kz) :: r, i, h => by
    rcases List.mem_cons.mp h with e | h
    · cases e; exact List.mem_cons_self
    · exact List.mem_cons_of_mem _ (numb_mem h)
theorem cap_inv {Γ : SCx} {sc : Scope} {j i : Nat} (h : (capOf Γ sc).lookup j = some i) : ∃ y k', (y, NameKind.free, j) ∈ numb 0 sc.names ∧ Γ.tab.lookup y = some (k', i) := by
  have := lookup_mem h
  obtain ⟨⟨y, k, j'⟩, h1, h2⟩ := List.mem_filterMap.mp this
  dsimp only at h2
  split at h2
  · rename_i hk
    obtain ⟨⟨k', i'⟩, h3, h4⟩ := Option.map_eq_some_iff.mp h2
    cases h4
    subst hk
    exact ⟨y, k', h1, h3⟩
  · cases h2

noncomputable def clOf (cells : List (Str × Addr)) : List (Str × NameKind) → List (Str × Addr) → List (Str × Addr)
  | [], acc => acc
  | (n, k) :: r, acc => if k = .free then clOf cells r ((n, (cells.lookup n).getD 0) :: acc) else clOf cells r acc
theorem closureFor_clOf {env : Env} : ∀ (l : List (Str × NameKind)) (acc : List (Str × Addr)), (∀ x ∈ l, x.2 = .free → (env.cells.lookup x.1).isSome = true) →
    (forIn l acc fun x r => (match x with | (name, kind) => if (kind == .free) = true then do let a ← cellOf env name; pure (ForInStep.yield ((name, a) :: r)) else pure (ForInStep.yield r)) : Sem (List (Str × Addr))) = pure (clOf env.cells l acc)
  | [], acc, _ => rfl
  | (n, k) :: r, acc, h => by
    rw [List.forIn_cons]
    dsimp only
    unfold clOf
    by_cases hk : k = .free
    · subst hk
      obtain ⟨c, hc⟩ := Option.isSome_iff_exists.mp (h _ List.mem_cons_self rfl)
      have e : cellOf env n = pure c := by unfold cellOf; rw [hc]
      rw [if_pos (show (NameKind.free == NameKind.free) = true from rfl), if_pos rfl, e, hc]
      exact closureFor_clOf r _ fun x hx => h x (List.mem_cons_of_mem _ hx)
    · rw [if_neg hk, if_neg (by simpa using hk)]
      exact closureFor_clOf r _ fun x hx => h x (List.mem_cons_of_mem _ hx)
theorem clOf_mem {cells : List (Str × Addr)} {y : Str} {c : Addr} : ∀ {l : List (Str × NameKind)} {acc : List (Str × Addr)}, (∀ x ∈ l, x.2 = .free → (cells.lookup x.1).isSome = true) → (y, c) ∈ clOf cells l acc → (y, c) ∈ acc ∨ cells.lookup y = some c
  | [], acc, _, h => .inl h
  | (n, k) :: r, acc, hs, h => by
    unfold clOf at h
    split at h
    · rename_i hk
      rcases clOf_mem (fun x hx => hs x (List.mem_cons_of_mem _ hx)) h with h | h
      · rcases List.mem_cons.mp h with e | h
        · obtain ⟨d, hd⟩ := Option.isSome_iff_exists.mp (hs _ List.mem_cons_self hk)
          rw [hd] at e
          cases e
          exact .inr hd
        · exact .inl h
      · exact .inr h
    · exact clOf_mem (fun x hx => hs x (List.mem_cons_of_mem _ hx)) h
theorem clOf_there {cells : List (Str × Addr)} {y : Str} : ∀ {l : List (Str × NameKind)} {acc : List (Str × Addr)}, (y, NameKind.free) ∈ l ∨ (acc.lookup y).isSome = true → ((clOf cells l acc).lookup y).isSome = true
  | [], acc, h => h.elim (fun q => nomatch q) id
  | (n, k) :: r, acc, h => by
    unfold clOf
    split
    · rename_i hk
      refine clOf_there ?_
      rcases h with h | h
      · rcases List.mem_cons.mp h with e | h
        · cases e; right; simp [List.lookup_cons]
        · exact .inl h
      · right
        rw [List.lookup_cons]
        cases y == n
        · exact h
        · rfl
    · rename_i hk
      refine clOf_there ?_
      rcases h with h | h
      · rcases List.mem_cons.mp h with e | h
        · cases e; exact absurd rfl hk
        · exact .inl h
      · exact .inr h
theorem cellsFrom_append : ∀ (l : List (Str × NameKind)) (n : Nat) (acc : List (Str × Addr)), cellsFrom n l acc = cellsFrom n l [] ++ acc
  | [], _, _ => rfl
  | (x, k) :: r, n, acc => by
    unfold cellsFrom
    split
    · rw [cellsFrom_append r (n + 1) ((x, n) :: acc), cellsFrom_append r (n + 1) [(x, n)], List.append_assoc]; rfl
    · exact cellsFrom_append r n acc
theorem cellsFrom_own {y : Str} {c : Addr} : ∀ {l : List (Str × NameKind)} {n : Nat}, (y, c) ∈ cellsFrom n l [] → (y, NameKind.cell) ∈ l
  | (x, k) :: r, n, h => by
    unfold cellsFrom at h
    split at h
    · rename_i hk
      rw [cellsFrom_append] at h
      rcases List.mem_append.mp h with h | h
      · exact List.mem_cons_of_mem _ (cellsFrom_own h)
      · rw [List.mem_singleton] at h; cases h
        have : k = .cell := by simpa using hk
        rw [this]; exact List.mem_cons_self
    · exact List.mem_cons_of_mem _ (cellsFrom_own h)
theorem lookup_append {α : Type} {y : Str} : ∀ (l m : List (Str × α)), (l ++ m).lookup y = (l.lookup y).or (m.lookup y)
  | [], m => by simp
  | (x, v) :: r, m => by
    rw [List.cons_append, List.lookup_cons, List.lookup_cons]
    cases y == x
    · exact lookup_append r m
    · simp

noncomputable def scOk (Γ : SCx) (sc : Scope) : Bool :=
  (sc.kind == .function) && (sc.names.all fun x => (x.2 != .free) || (match Γ.tab.lookup x.1 with | some (.cell, _) => true | some (.free, _) => true | _ => false)) && decide ((sc.names.map (fun x => x.1)).Nodup)

theorem nodup_kind {l : List (Str × NameKind)} (h : (l.map (fun x => x.1)).Nodup) {x : Str} {k k' : NameKind} (h1 : (x, k) ∈ l) (h2 : (x, k') ∈ l) : k = k' := by
  induction l with
  | nil => cases h1
  | cons a r ih =>
    rw [List.map_cons, List.nodup_cons] at h
    rcases List.mem_cons.mp h1 with e | h1 <;> rcases List.mem_cons.mp h2 with e' | h2
    · rw [← e'] at e; cases e; rfl
    · subst e; exact absurd (List.mem_map_of_mem (f := (fun x => x.1)) (show (x, k') ∈ r from by assumption)) h.1
    · subst e'; exact absurd (List.mem_map_of_mem (f := (fun x => x.1)) (show (x, k) ∈ r from by assumption)) h.1
    · exact ih h.2 h1 h2
theorem nodup_lookup {l : List (Str × NameKind)} (h : (l.map (fun x => x.1)).Nodup) {x : Str} {k : NameKind} (h1 : (x, k) ∈ l) : l.lookup x = some k := by
  induction l with
  | nil => cases h1
  | cons a r ih =>
    rw [List.map_cons, List.nodup_cons] at h
    obtain ⟨y, ky⟩ := a
    rw [List.lookup_cons]
    rcases List.mem_cons.mp h1 with e | h1
    · cases e; simp
    · cases hb : x == y with
      | true => rw [beq_iff_eq.mp hb] at h1; exact absurd (List.mem_map_of_mem h1) h.1
      | false => exact ih h.2 h1
end Mine
set_option Elab.async false
namespace Mine
open PySem PyProof.Rows PySem.W

theorem closureFor_eq {env : Env} {sc : Scope} (h : ∀ x ∈ sc.names, x.2 = .free → (env.cells.lookup x.1).isSome = true) : closureFor sc env = pure (clOf env.cells sc.names []) := by
  unfold closureFor
  have := closureFor_clOf (env := env) sc.names [] h
  show (forIn sc.names [] _ >>= fun r => pure r) = _
  refine Eq.trans (congrArg (· >>= fun r => pure r) this) ?_
  rfl

noncomputable def cenvOf (sc : Scope) (env : Env) (L : Addr) : Env :=
  { scope := relabel sc env, locals := L, globals := env.globals, cells := cellsFrom (L + 1) sc.names (clOf env.cells sc.names []), qual := env.qual, func := none, code := env.code, frame := env.frame, builtins := env.builtins }
noncomputable def compHeap (sc : Scope) (h : Heap) : Heap := pushCells (h.push { cls := .type "dict", data := .dict #[] }) sc.names

theorem wp_compEnv {M : Model} {A : Around} {E : Value → Shared → Prop} {s : Shared} {sc : Scope} {env : Env} {cl : List (Str × Addr)} {Q : Env → Shared → Prop}
    (hQ : Q (newEnv sc s.heap.objs.size env.globals (cellsFrom (s.heap.objs.size + 1) sc.names cl) env.qual none .none (some env) builtinsNs) { s with heap := compHeap sc s.heap }) :
    wpAny M A (newFunctionEnv sc env.globals cl [] env.qual none .none (some env)) Q E s := by
  simp only [newFunctionEnv, Option.isSome_some, if_true]
  refine wpAny_bind (wpAny_alloc ?_)
  refine wpAny_bind (wpAny_layCells _ (fun name kind cells => by cases hkc : kind == NameKind.cell <;> simp [hkc]) _ _ _ _ ?_)
  rw [show ({ s with heap := s.heap.push { cls := .type "dict", data := .dict #[] } } : Shared).heap.objs.size = s.heap.objs.size + 1 from Heap.size_push ..]
  exact wpAny_bind (wpAny_pure (wpAny_pure hQ))

section
variable {C : Cx} {n : Nat} {Γ : SCx} {env : Env} {W W' : Wd} {A : Around} {s : Shared} {st : St} {h h' : Heap} {sc : Scope}

theorem scOk_kind (ok : scOk Γ sc = true) : sc.kind = .function := by
  simp only [scOk, Bool.and_eq_true] at ok
  exact beq_iff_eq.mp ok.1.1
theorem scOk_nodup (ok : scOk Γ sc = true) : (sc.names.map (fun x => x.1)).Nodup := by
  simp only [scOk, Bool.and_eq_true] at ok
  exact of_decide_eq_true ok.2
theorem scOk_free (ok : scOk Γ sc = true) {x : Str} (hx : (x, NameKind.free) ∈ sc.names) : ∃ k i, Γ.tab.lookup x = some (k, i) ∧ (k = .cell ∨ k = .free) := by
  simp only [scOk, Bool.and_eq_true] at ok
  have := List.all_eq_true.mp ok.1.2 _ hx
  simp only [bne_self_eq_false, Bool.false_or] at this
  split at this
  · rename_i e; exact ⟨_, _, e, .inl rfl⟩
  · rename_i e; exact ⟨_, _, e, .inr rfl⟩
  · cases this

theorem relabel_eq (L : LR C Γ env W st.θ h) : relabel sc env = { sc with names := relN Γ sc.names } := by
  unfold relabel relN
  congr 1
  refine List.map_congr_left fun x u1 => ?_
  obtain ⟨m, k⟩ := x
  dsimp only
  unfold relK
  rw [L.kind, L.names]
  show (if (k == .free && ScopeKind.function == .function && ((Γ.tab.lookup m).map (fun x => x.1)) == some .cell) = true then (m, NameKind.cell) else (m, k)) = (m, if (k == .free && ((Γ.tab.lookup m).map (fun x => x.1)) == some .cell) = true then .cell else k)
  have e : (k == NameKind.free && ScopeKind.function == ScopeKind.function && ((Γ.tab.lookup m).map (fun x => x.1)) == some NameKind.cell) = (k == NameKind.free && ((Γ.tab.lookup m).map (fun x => x.1)) == some NameKind.cell) := by
    rw [show (ScopeKind.function == ScopeKind.function) = true from rfl, Bool.and_true]
  rw [e]
  split <;> rfl

theorem compHeap_keep {b : Addr} {o : Obj} (e : h.get? b = some o) : (compHeap sc h).get? b = some o := pushCells_keeps _ _ b o (Heap.get?_push_of_some _ e)

theorem comp_free (ok : scOk Γ sc = true) (L : LR C Γ env W st.θ h) : ∀ x ∈ sc.names, x.2 = .free → (env.cells.lookup x.1).isSome = true := by
  rintro ⟨x, k⟩ hx rfl
  obtain ⟨k, i, h1, h2⟩ := scOk_free ok hx
  obtain ⟨c, _, hc, _⟩ := L.cel x k i h1 h2
  rw [hc]; rfl

theorem comp_cells (ok : scOk Γ sc = true) (L : LR C Γ env W st.θ h) {y : Str} {c : Addr} (hy : (cenvOf sc env h.objs.size).cells.lookup y = some c) :
    ((y, c) ∈ cellsFrom (h.objs.size + 1) sc.names []) ∨ ((y, NameKind.free) ∈ sc.names ∧ env.cells.lookup y = some c) := by
  unfold cenvOf at hy
  dsimp only at hy
  rw [cellsFrom_append, lookup_append] at hy
  cases e : (cellsFrom (h.objs.size + 1) sc.names []).lookup y with
  | some d => rw [e] at hy; cases hy; exact .inl (lookup_mem e)
  | none =>
    rw [e] at hy
    have hy := lookup_mem (show (clOf env.cells sc.names []).lookup y = some c from hy)
    rcases clOf_mem (comp_free ok L) hy with q | q
    · cases q
    · refine .inr ⟨?_, q⟩
      have : ∀ {l : List (Str × NameKind)} {acc : List (Str × Addr)}, (y, c) ∈ clOf env.cells l acc → (y, NameKind.free) ∈ l ∨ (y, c) ∈ acc := by
        intro l
        induction l with
        | nil => intro acc h; exact .inr h
        | cons a r ih =>
          intro acc h
          obtain ⟨z, k⟩ := a
          unfold clOf at h
          split at h
          · rename_i hk
            rcases ih h with q | q
            · exact .inl (List.mem_cons_of_mem _ q)
            · rcases List.mem_cons.mp q with e | q
              · cases e; subst hk; exact .inl List.mem_cons_self
              · exact .inr q
          · rcases ih h with q | q
            · exact .inl (List.mem_cons_of_mem _ q)
            · exact .inr q
      rcases this hy with q | q
      · exact q
      · cases q

theorem comp_frame (ok : scOk Γ sc = true) (J : Inv C Γ env W st h) :
    Inv C (scxC Γ sc) (cenvOf sc env h.objs.size) W ⟨θcap (capOf Γ sc) st.θ, st.σ⟩ (compHeap sc h) ∧ ∀ p ∈ priv (scxC Γ sc) (cenvOf sc env h.objs.size), h.get? p = none := by
  have L := J.loc
  have hsz : (h.push { cls := .type "dict", data := .dict #[] }).objs.size = h.objs.size + 1 := Heap.size_push ..
  have cok := cellsFrom_ok sc.names (h.push { cls := .type "dict", data := .dict #[] }) (h.objs.size + 1) [] ⟨fun u1 u2 hm => (nomatch hm), List.Pairwise.nil⟩ (by rw [hsz]; exact Nat.le_refl _)
  rw [hsz] at cok
  have fresh : ∀ p, h.objs.size ≤ p → h.get? p = none := fun p hp => by
    cases e : h.get? p with
    | none => rfl
    | some o => exact absurd (Heap.lt_size e) (Nat.not_lt.mpr hp)
  have hfresh : ∀ p, h.objs.size ≤ p → p ∉ W.φ ∧ C.h₀.get? p = none ∧ (∀ q ∈ W.ι, q.1 ≠ p) := fun p hp => J.rel.above hp
  have ownge : ∀ {y c}, (y, c) ∈ cellsFrom (h.objs.size + 1) sc.names [] → h.objs.size < c ∧ (compHeap sc h).IsCell c none := fun hm => ⟨(cok.empty _ _ hm).2, (cok.empty _ _ hm).1⟩
  have cellObj : ∀ {c}, (compHeap sc h).IsCell c none → ∃ o, (compHeap sc h).get? c = some o := fun x => let ⟨o, h1, _⟩ := x; ⟨o, h1⟩
  have hns : (compHeap sc h).Ns h.objs.size (fun u1 => none) := (Heap.Ns.new h (.type "dict")).keeps (pushCells_keeps _ _)
  have notOwn : ∀ {y : Str} {c}, (y, NameKind.free) ∈ sc.names → (y, c) ∉ cellsFrom (h.objs.size + 1) sc.names [] := fun h1 h2 => by
    have := nodup_kind (scOk_nodup ok) h1 (cellsFrom_own h2); cases this
  refine ⟨⟨?_, ⟨?_, L.glob, L.blt, ?_, fun x y k k' i h1 h2 => numb_inj h1 h2, ⟨_, hns, ?_⟩, ?_, ?_, ?_, fun q => nomatch q⟩⟩, ?_⟩
  · exact J.rel.ext (π := []) (fun u1 u2 e u3 => compHeap_keep e) (by simp) (by simp)
  · exact (show sc.kind = .function from scOk_kind ok)
  · intro x
    show (relabel sc env).names.lookup x = _
    rw [relabel_eq L]
    exact (numb_names x (relN Γ sc.names) 0).symm
  · intro x i a hx ha
    exfalso
    obtain ⟨k0, hm, hk⟩ := numb_rel (lookup_mem hx)
    unfold θcap at ha
    obtain ⟨j, hj, _⟩ := Option.bind_eq_some_iff.mp ha
    obtain ⟨y, k', hy, _⟩ := cap_inv hj
    obtain ⟨rfl, rfl⟩ := numb_uniq hm hy
    unfold relK at hk
    split at hk <;> cases hk
  · intro x k i hx hk
    obtain ⟨k0, hm, hkk⟩ := numb_rel (lookup_mem hx)
    have hin := numb_mem hm
    have : k0 = .cell ∨ k0 = .free := by
      rcases hk with rfl | rfl
      · unfold relK at hkk
        split at hkk
        · rename_i q
          simp only [Bool.and_eq_true, beq_iff_eq] at q
          exact .inr q.1
        · exact .inl hkk.symm
      · unfold relK at hkk
        split at hkk
        · cases hkk
        · exact .inr hkk.symm
    rcases this with rfl | rfl
    · have := cells_there sc.names (h.objs.size + 1) [] (.inr hin)
      obtain ⟨c, hc⟩ := Option.isSome_iff_exists.mp this
      have hm' := lookup_mem hc
      refine ⟨c, none, ?_, Nat.ne_of_gt (ownge hm').1, (ownge hm').2, fun a ha => ?_⟩
      · show (cellsFrom _ _ _).lookup x = _
        rw [cellsFrom_append, lookup_append, hc]; rfl
      · exfalso
        unfold θcap at ha
        obtain ⟨j, hj, _⟩ := Option.bind_eq_some_iff.mp ha
        obtain ⟨y, k', hy, _⟩ := cap_inv hj
        obtain ⟨_, e⟩ := numb_uniq hm hy
        cases e
    · obtain ⟨k1, i1, hg, hk1⟩ := scOk_free ok hin
      obtain ⟨c, ov, hc, hne, hcell, hv⟩ := L.cel x k1 i1 hg hk1
      have hlt : c < h.objs.size := by obtain ⟨o, ho, _⟩ := hcell; exact Heap.lt_size ho
      refine ⟨c, ov, ?_, Nat.ne_of_lt hlt, ?_, fun a ha => hv a ?_⟩
      · show (cellsFrom _ _ _).lookup x = _
        rw [cellsFrom_append, lookup_append]
        have e1 : (cellsFrom (h.objs.size + 1) sc.names []).lookup x = none := by
          cases e : (cellsFrom (h.objs.size + 1) sc.names []).lookup x with
          | none => rfl
          | some d => exact absurd (lookup_mem e) (notOwn hin)
        rw [e1]
        obtain ⟨d, hd⟩ := Option.isSome_iff_exists.mp (clOf_there (cells := env.cells) (l := sc.names) (acc := []) (y := x) (.inl hin))
        rcases clOf_mem (comp_free ok L) (lookup_mem hd) with q | q
        · cases q
        · rw [q] at hc; cases hc
          exact hd
      · obtain ⟨o, ho, r⟩ := hcell; exact ⟨o, compHeap_keep ho, r⟩
      · unfold θcap at ha
        obtain ⟨j, hj, hj2⟩ := Option.bind_eq_some_iff.mp ha
        obtain ⟨y, k', hy, hy2⟩ := cap_inv hj
        obtain ⟨rfl, _⟩ := numb_uniq hm hy
        rw [hg] at hy2; cases hy2
        exact hj2
  · intro x y c hx hy
    rcases comp_cells ok L hx with q | ⟨_, q⟩ <;> rcases comp_cells ok L hy with q' | ⟨_, q'⟩
    · exact name_of_addr cok.apart q q'
    · exfalso
      obtain ⟨_, _, _, o, ho⟩ := L.out c (.inr ⟨y, q'⟩)
      exact absurd (Heap.lt_size ho) (Nat.not_lt.mpr (Nat.le_of_lt (ownge q).1))
    · exfalso
      obtain ⟨_, _, _, o, ho⟩ := L.out c (.inr ⟨x, q⟩)
      exact absurd (Heap.lt_size ho) (Nat.not_lt.mpr (Nat.le_of_lt (ownge q').1))
    · exact L.cinj _ _ _ q q'
  · intro p hp
    rcases hp with rfl | ⟨y, hy⟩
    · obtain ⟨a1, a2, a3⟩ := hfresh h.objs.size (Nat.le_refl _)
      exact ⟨a1, a2, a3, Ns.lt' hns⟩
    · rcases comp_cells ok L hy with q | ⟨_, q⟩
      · obtain ⟨a1, a2, a3⟩ := hfresh p (Nat.le_of_lt (ownge q).1)
        exact ⟨a1, a2, a3, cellObj (ownge q).2⟩
      · obtain ⟨a1, a2, a3, o, ho⟩ := L.out p (.inr ⟨y, q⟩)
        exact ⟨a1, a2, a3, o, compHeap_keep ho⟩
  · intro p hp
    rcases List.mem_cons.mp hp with rfl | hp
    · exact fresh _ (Nat.le_refl _)
    · obtain ⟨y, hy, hc⟩ := List.mem_filterMap.mp hp
      rcases comp_cells ok L hc with q | ⟨q, _⟩
      · exact fresh _ (Nat.le_of_lt (ownge q).1)
      · exfalso
        obtain ⟨⟨z, k⟩, hz, rfl⟩ := List.mem_map.mp hy
        obtain ⟨hz1, hz2⟩ := List.mem_filter.mp hz
        have e : k = .cell := by simpa using hz2
        have := nodup_kind (scOk_nodup ok) q hz1
        rw [e] at this; cases this
end
end Mine
set_option Elab.async false
namespace Mine
open PySem PyProof.Rows PySem.W

theorem Keep.sub {W W' : Wd} {π π' : List Addr} {h h' : Heap} (x : Keep W W' π h h') (hs : ∀ p ∈ π, p ∈ π') : Keep W W' π' h h' :=
  ⟨x.le, fun b o e n1 n2 => x.keep b o e n1 fun q => n2 (hs b q), x.stay, x.new, x.imm⟩

section
variable {C : Cx} {n : Nat} {Γ : SCx} {env : Env} {W W' : Wd} {A : Around} {s : Shared} {st : St} {h h' : Heap} {sc : Scope}

noncomputable def compK (Γ : SCx) (sc : Scope) (f : K (List AV × Option (Nat × AO))) (F : Nat → List AV × Option (Nat × AO) → K Fl) : K Nat := K.bind f fun p st =>
  (F st.σ.length p ⟨θcap (capOf Γ sc) st.θ, st.σ ++ [.list []]⟩).bind fun r => match r.1 with
  | .next => some (st.σ.length, ⟨st.θ, r.2.σ⟩)
  | _ => none
noncomputable def PostL (C : Cx) (Γ : SCx) (env : Env) (W : Wd) (s : Shared) (d : Nat) (st' : St) (Q : Addr → Addr → Shared → Prop) : Prop :=
  ∀ W' h' tk D L, Inv C Γ env W' st' h' → Keep W W' (priv Γ env) s.heap h' → W'.φ[d]? = some D → ItOk C env W' s.heap L → (∃ m, h'.Ns L m) → Q D L { s with heap := h', toks := tk }

theorem comp_core {elt target iter : Expr} {ifs : List Expr} {rest : List Comprehension} {pos : Pos} {f : K (List AV × Option (Nat × AO))} {F : Nat → List AV × Option (Nat × AO) → K Fl}
    (hit : Itb C n Γ iter f) (hF : Lp C n (scxC Γ sc) elt (⟨target, iter, ifs, 0⟩ :: rest) sc pos 0 F) (hok : scOk Γ sc = true) (hs : ∀ env x, foldedSetIterable iter env x = pure x) (ok : AOk C n A) (J : Inv C Γ env W st s.heap) {d : Nat} {st' : St} (e : compK Γ sc f F st = some (d, st'))
    {ps : Pos} {use : Option (Value → Sem Unit)} {Q : Value → Shared → Prop} {E : Value → Shared → Prop}
    (hq : PostL C Γ env W s d st' fun D L s' => compPost (model C.prog C.w) A E use Q (.ref D) L (.ok .next) s') :
    wpAny (model C.prog C.w) A (comprehension (.ListComp elt (⟨target, iter, ifs, 0⟩ :: rest) sc pos) sc env ps (newList []) false (eval iter env) use) Q E s := by
  refine K.bindE e fun p st₁ e1 e2 => Exists.elim (Option.bind_eq_some_iff.mp e2) fun r q => ?_
  clear e e2
  obtain ⟨fl, st₂⟩ := r
  cases fl with
  | brk => exact nomatch q.2
  | cont => exact nomatch q.2
  | ret v => exact nomatch q.2
  | next =>
  have e3 := q.1
  cases q.2
  clear q
  refine wpAny_comprehension_free rfl (hs env) (closureFor_eq (comp_free hok J.loc)) (scOk_kind hok) (fun x hx hl => nodup_lookup (scOk_nodup hok) (by rw [← hl]; exact hx)) ?_
  refine hit.run A env W st s ok J p.1 p.2 st₁ e1 _ _ fun I W1 h1 tk1 J1 k1 x1 i1 u1 => ?_
  have hor : OR ⟨W1.φ ++ [h1.objs.size], W1.ι⟩ (h1.push { cls := .type "list", data := .seq ([] : List Value).toArray }) (.list []) h1.objs.size := ⟨_, _, Heap.get?_push_size _ rfl, .nil⟩
  obtain ⟨R2, k2⟩ := J1.rel.pushObj { cls := .type "list", data := .seq ([] : List Value).toArray } (.list []) hor
  have J2 := J1.keep R2 k2
  refine wpAny_newList ?_
  dsimp only
  obtain ⟨J3, hfr⟩ := comp_frame (sc := sc) hok J2
  refine wp_compEnv ?_
  generalize hh2 : h1.push { cls := .type "list", data := .seq ([] : List Value).toArray } = h2 at *
  cases i1.obj' with
  | @mk oI _ _ hI _ _ _ =>
  have hI2 : h2.get? I = some oI := by rw [← hh2]; exact Heap.get?_push_of_some _ hI
  have x2 := x1.keep k2 ⟨oI, hI⟩
  have ILt : I < h2.objs.size := Heap.lt_size hI2
  have x3 : ItOk C (cenvOf sc env h2.objs.size) ⟨W1.φ ++ [h1.objs.size], W1.ι⟩ s.heap I := by
    refine ⟨x2.none, x2.φ, x2.old, x2.ι, fun p hp => ?_, x2.frm⟩
    rcases hp with rfl | ⟨y, hy⟩
    · exact Nat.ne_of_gt ILt
    · rcases comp_cells hok J2.loc hy with q | ⟨_, q⟩
      · have : h2.get? p = none := hfr p (List.mem_cons_of_mem _ (List.mem_filterMap.mpr ⟨y, ?_, hy⟩))
        · intro e; rw [e, hI2] at this; cases this
        · have := cellsFrom_own q
          exact List.mem_map.mpr ⟨(y, .cell), List.mem_filter.mpr ⟨this, rfl⟩, rfl⟩
      · exact x2.priv p (.inr ⟨y, q⟩)
  have i3 : ItAt ⟨W1.φ ++ [h1.objs.size], W1.ι⟩ (compHeap sc h2) I p.1 p.2 0 := i1.mono k2.le fun o e => compHeap_keep (by rw [← hh2]; exact Heap.get?_push_of_some _ e)
  have hdD : (W1.φ ++ [h1.objs.size])[st₁.σ.length]? = some h1.objs.size := by rw [← J1.rel.len]; simp
  have hout : ∀ p, (p = env.locals ∨ ∃ x, env.cells.lookup x = some p) → p ∉ priv (scxC Γ sc) (cenvOf sc env h2.objs.size) := fun p hp q => by
    obtain ⟨_, _, _, o, ho⟩ := J2.loc.out p hp
    rw [hfr p q] at ho; cases ho
  have hback : ∀ p, h2.get? p = none → s.heap.get? p = none := fun p q => k1.back (k2.back q)
  let B : Wd → Heap → Prop := fun W' h' => Keep W W' (priv Γ env ++ priv (scxC Γ sc) (cenvOf sc env h2.objs.size)) s.heap h' ∧ LR C Γ env W' st₁.θ h'
  have hB : B ⟨W1.φ ++ [h1.objs.size], W1.ι⟩ (compHeap sc h2) := by
    have kk : Keep W ⟨W1.φ ++ [h1.objs.size], W1.ι⟩ (priv Γ env ++ priv (scxC Γ sc) (cenvOf sc env h2.objs.size)) s.heap h2 := (k1.trans k2.wide).sub fun p hp => List.mem_append_left _ hp
    have k3 : Keep (⟨W1.φ ++ [h1.objs.size], W1.ι⟩ : Wd) ⟨W1.φ ++ [h1.objs.size], W1.ι⟩ [] h2 (compHeap sc h2) := .of (.refl _) (fun u1 u2 e u3 u4 => compHeap_keep e) (fun u1 o e => ⟨o, compHeap_keep e⟩) (fun u1 h1 h2 => absurd h1 h2) (fun u1 h => .inl h)
    exact ⟨kk.trans k3.wide, J2.loc.keep k3⟩
  refine hF.run A (cenvOf sc env h2.objs.size) B s.heap ⟨W1.φ ++ [h1.objs.size], W1.ι⟩ ⟨θcap (capOf Γ sc) st₁.θ, st₁.σ ++ [.list []]⟩ { s with heap := compHeap sc h2, toks := tk1 } st₁.σ.length h1.objs.size I p.1 p.2 ?_ ?_ ok J3 hB x3 i3 hdD st₂ e3 _ fun W' h' tk J' b' le' => ?_
  · exact fun W h W' h' b k => ⟨b.1.trans (k.sub fun p hp => List.mem_append_right _ hp), b.2.keep' k hout⟩
  · exact fun W h h' b k => ⟨b.1.ext x1.none k, b.2.but x1.priv k⟩
  · refine hq W' h' tk h1.objs.size h2.objs.size ⟨J'.rel, b'.2⟩ ?_ (le'.at hdD) ?_ (let ⟨m, hm, _⟩ := J'.loc.loc; ⟨m, hm⟩)
    · refine ⟨b'.1.le, fun b o e n1 n2 => b'.1.keep b o e n1 fun q => ?_, b'.1.stay, b'.1.new, b'.1.imm⟩
      rcases List.mem_append.mp q with q | q
      · exact n2 q
      · rw [hback b (hfr b q)] at e; cases e
    · have hL := J'.loc.out h2.objs.size (.inl rfl)
      refine ⟨hback _ (get?_size h2), hL.1, hL.2.1, hL.2.2.1, fun p hp e => ?_, (ItOk.new J2).frm⟩
      obtain ⟨_, _, _, o, ho⟩ := J2.loc.out p hp
      rw [e, get?_size] at ho; cases ho

theorem Ev.comp {elt target iter : Expr} {ifs : List Expr} {rest : List Comprehension} {pos : Pos} {f : K (List AV × Option (Nat × AO))} {F : Nat → List AV × Option (Nat × AO) → K Fl}
    (hit : Itb C n Γ iter f) (hF : Lp C n (scxC Γ sc) elt (⟨target, iter, ifs, 0⟩ :: rest) sc pos 0 F) (hok : scOk Γ sc = true) (hs : ∀ env x, foldedSetIterable iter env x = pure x) :
    Ev C n Γ (.ListComp elt (⟨target, iter, ifs, 0⟩ :: rest) sc pos) (K.bind (compK Γ sc f F) fun d => K.ret (.obj d)) := by
  refine ⟨fun A env W st s ok J v st' e Q E hq => K.bindE e fun d st₁ e1 e2 => ?_⟩
  cases e2
  rw [eval_ListComp]
  refine comp_core hit hF hok hs ok J e1 (use := none) fun W' h' tk D L J' k' hd x' hn => Exists.elim hn fun m hm => ⟨m, hm, fun h'' hs'' => ?_⟩
  have hk : ∀ b o, b ≠ L → h'.get? b = some o → h''.get? b = some o := fun b o nb e => (hs''.2 b nb).trans e
  exact hq _ W' h'' tk (J'.but x' hk) (k'.ext x'.none hk) (.obj hd)

theorem Ex.assignComp {elt target iter : Expr} {ifs : List Expr} {rest : List Comprehension} {pos spos px : Pos} {x : Str} {i : Nat} {f : K (List AV × Option (Nat × AO))} {F : Nat → List AV × Option (Nat × AO) → K Fl}
    (hit : Itb C n Γ iter f) (hF : Lp C n (scxC Γ sc) elt (⟨target, iter, ifs, 0⟩ :: rest) sc pos 0 F) (hok : scOk Γ sc = true) (hs : ∀ env x, foldedSetIterable iter env x = pure x)
    (hx : Γ.tab.lookup x = some (.local, i)) (hline : (px.line == (Expr.ListComp elt (⟨target, iter, ifs, 0⟩ :: rest) sc pos).pos.line) = true) (hno : (sc.names.any fun y => y.1 == x && (y.2 == .local || y.2 == .cell)) = false) :
    Ex C n Γ (.Assign [.Name x px] (.ListComp elt (⟨target, iter, ifs, 0⟩ :: rest) sc pos) spos) (K.bind (compK Γ sc f F) fun d => K.bind (setv i (.obj d)) fun u1 => K.ret .next) := by
  refine ⟨fun A env W st s ok J v st' e Q E hq => K.bindE e fun d st₁ e1 e2 => K.bindE e2 fun u1 st₂ e3 e4 => ?_⟩
  cases e4
  clear e e2
  have hsw : swapsWith (.ListComp elt (⟨target, iter, ifs, 0⟩ :: rest) sc pos) (some (.Name x px)) spos.line env = pure true := by
    unfold swapsWith Env.blockKind
    rw [J.loc.kind]
    show (pure _ : Sem Bool) = pure true
    rw [J.loc.names, hx, hline, hno]
    rfl
  rw [exec_Assign_Name_used _ _ _ _ hsw]
  refine wpAny_bind (wpAny_standAt (wpAny_bind ?_))
  refine wpAny_bind (wpAny_mono (comp_core hit hF hok hs ok J e1 (use := some (PySem.assign (.Name x px) env)) (Q := fun u1 s' => Q .next s') (E := E) fun W' h' tk D L J' k' hd x' hn => Exists.elim hn fun m hm => ?_) (fun u1 s' hq => wpAny_pure (wpAny_pure hq)) fun u1 u2 e => e)
  show wpAny _ A (PySem.assign (.Name x px) env (.ref D)) _ _ _
  refine wpAny_assign_Name (store_loc (s := { s with heap := h', toks := tk }) hx J' (.obj hd) _ _ e3 _ _ fun u1 W2 h2 tk2 J2 k2 u2 => ?_)
  have hm2 : ∃ o, h'.get? L = some o ∧ h2.Ns L m := by
    obtain ⟨o, es, ep, ho, r⟩ := id hm
    obtain ⟨sl, ho', _⟩ := k2.keep L o ho x'.φ x'.notPriv
    exact ⟨o, ho, _, es, ep, ho', r⟩
  refine Exists.elim hm2 fun oL hm2 => ⟨m, hm2.2, fun h'' hs'' => ?_⟩
  have hk : ∀ b o, b ≠ L → h2.get? b = some o → h''.get? b = some o := fun b o nb e => (hs''.2 b nb).trans e
  have x2 := x'.keep k2 ⟨oL, hm2.1⟩
  exact hq _ W2 h'' tk2 (J2.but x2 hk) ((k'.trans k2).ext x2.none hk) .next
end
end Mine
set_option Elab.async false
namespace Mine
open PySem PyProof.Rows PySem.W PySem.SeqAt

noncomputable def dataAll (f : AV → Option PyData) : List AV → Option (List PyData)
  | [] => some []
  | a :: r => (f a).bind fun d => (dataAll f r).map fun ds => d :: ds
noncomputable def datStep (σ : List AO) (f : AV → Option PyData) : AV → Option PyData
  | .none => some .none
  | .bool b => some (.bool b)
  | .int i => some (.int i)
  | .str x => some (.str x)
  | .tup vs => (dataAll f vs).map .tuple
  | .lst vs => (dataAll f vs).map .list
  | .obj i => (lstAt σ i).bind fun vs => (dataAll f vs).map .list
  | _ => none
noncomputable def dataF (σ : List AO) : Nat → AV → Option PyData
  | 0 => datStep σ fun u1 => none
  | k + 1 => datStep σ (dataF σ k)
noncomputable def dat (σ : List AO) (a : AV) : Option PyData := (dataF σ 4 a).bind fun d => if shaped d = true then some d else none
noncomputable def datAll (σ : List AO) (l : List AV) : Option (List PyData) := dataAll (dat σ) l

noncomputable def Dat (h : Heap) (v : Value) (d : PyData) : Prop := ∃ as, Reads h v d as
theorem dataAll_sound {W : Wd} {h : Heap} {f : AV → Option PyData} (hf : ∀ a v d, f a = some d → VR W a v → Dat h v d) {l : List AV} : ∀ {vs : List Value} {ds : List PyData}, dataAll f l = some ds → VRs W l vs → ∃ as, ReadsAll h vs ds as := by
  induction l with
  | nil => exact fun {vs ds} e hv => hv.nilE (some_of e ⟨_, .nil⟩)
  | cons a r ih => exact fun {vs ds} e hv => hv.consE fun v vs h hr => bindE e fun d e1 e => mapE e fun ds e2 => Exists.elim (hf a v d e1 h) fun as h1 => Exists.elim (ih e2 hr) fun bs h2 => ⟨_, .cons h1 h2⟩
theorem datStep_sound {C : Cx} {W : Wd} {σ : List AO} {h : Heap} (R : Rel C W σ h) {f : AV → Option PyData} (hf : ∀ a v d, f a = some d → VR W a v → Dat h v d) {a : AV} {v : Value} {d : PyData} (e : datStep σ f a = some d) (hv : VR W a v) : Dat h v d := by
  cases a with
  | none => exact some_of e (hv.noneE rfl ⟨_, .none⟩)
  | bool b => cases hv; exact some_of e ⟨_, .bool b⟩
  | int i => exact some_of e (hv.intE rfl fun t => ⟨_, .int i t⟩)
  | str x => exact some_of e (hv.strE rfl fun t => ⟨_, .str x t⟩)
  | tup vs => exact hv.tupE rfl fun l items n h1 h2 => mapE e fun ds e1 => Exists.elim (dataAll_sound hf e1 h2) fun as h3 => ⟨_, .tuple (R.imm _ h1) rfl rfl h3⟩
  | lst vs => exact hv.lstE rfl fun l items n h1 h2 => mapE e fun ds e1 => Exists.elim (dataAll_sound hf e1 h2) fun as h3 => ⟨_, .list (R.imm _ h1) rfl rfl h3⟩
  | obj i => exact hv.objE rfl fun l hl => bindE e fun vs e0 e => lstE R hl e0 fun items n h1 h2 u1 => mapE e fun ds e1 => Exists.elim (dataAll_sound hf e1 h2) fun as h3 => ⟨_, .list h1 rfl rfl h3⟩
  | _ => exact nomatch e
theorem dataF_sound {C : Cx} {W : Wd} {σ : List AO} {h : Heap} (R : Rel C W σ h) (k : Nat) : ∀ (a : AV) (v : Value) (d : PyData), dataF σ k a = some d → VR W a v → Dat h v d := by
  induction k with
  | zero => exact fun a v d e hv => datStep_sound R (fun a v d (e : none = some d) => nomatch e) e hv
  | succ k ih => exact fun a v d e hv => datStep_sound R ih e hv
noncomputable def DatS (h : Heap) (v : Value) (d : PyData) : Prop := ∃ as, Reads h v d as ∧ shaped d = true
theorem dat_sound {C : Cx} {W : Wd} {σ : List AO} {h : Heap} (R : Rel C W σ h) {a : AV} {v : Value} {d : PyData} (e : dat σ a = some d) (hv : VR W a v) : DatS h v d :=
  bindE e fun d' e1 e => ite_some e fun hs => Exists.elim (dataF_sound R 4 a v _ e1 hv) fun as r => ⟨as, r, hs⟩

section
variable {C : Cx} {n : Nat} {Γ : SCx} {env : Env} {W : Wd} {A : Around} {s : Shared} {st : St}

theorem eqAt_of {v u : Value} {d e : PyData} (h1 : DatS s.heap v d) (h2 : DatS s.heap u e) (hu : A.units + 64 < cLine) : EqAt A s v u (PyData.eqv d e) :=
  Exists.elim h1 fun as p => Exists.elim h2 fun bs q => eqAt_reads d e A s v u as bs p.1 q.1 (canLay_of_shaped p.2) (canLay_of_shaped q.2) (room_of_shaped p.2 hu)

open Classical in
noncomputable def isEq (h : Heap) (dx : PyData) (y : Value) : Bool := decide (∃ d as, Reads h y d as ∧ shaped d = true ∧ PyData.eqv d dx = true)
open Classical in
theorem isEq_of {h : Heap} {dx d : PyData} {y : Value} (r : DatS h y d) : isEq h dx y = PyData.eqv d dx := by
  obtain ⟨as, r, s1⟩ := r
  unfold isEq
  cases e : PyData.eqv d dx with
  | true => exact decide_eq_true ⟨d, as, r, s1, e⟩
  | false =>
    refine decide_eq_false ?_
    rintro ⟨d', as', r', _, e'⟩
    have := Reads.unique d d' y as as' (canLay_of_shaped s1) r r'
    subst this
    rw [e] at e'; cases e'
inductive DatsS (h : Heap) : List Value → List PyData → Prop
  | nil : DatsS h [] []
  | cons {v d vs ds} : DatS h v d → DatsS h vs ds → DatsS h (v :: vs) (d :: ds)
theorem datsOf {σ : List AO} {h : Heap} (R : Rel C W σ h) {l : List AV} : ∀ {vs : List Value} {ds : List PyData}, datAll σ l = some ds → VRs W l vs → DatsS h vs ds := by
  induction l with
  | nil => exact fun {vs ds} e hv => hv.nilE (some_of e .nil)
  | cons a r ih => exact fun {vs ds} e hv => hv.consE fun v vs h hr => bindE e fun d e1 e => mapE e fun ds e2 => .cons (dat_sound R e1 h) (ih e2 hr)
theorem DatsS.map {h : Heap} {dx : PyData} {vs : List Value} {ds : List PyData} (x : DatsS h vs ds) : vs.map (isEq h dx) = ds.map (PyData.eqv · dx) := by
  induction x with
  | nil => rfl
  | cons p _ ih => rw [List.map_cons, List.map_cons, ih, isEq_of p]
theorem DatsS.any {h : Heap} {dx : PyData} {vs : List Value} {ds : List PyData} (x : DatsS h vs ds) : vs.any (isEq h dx) = ds.any (PyData.eqv · dx) := by
  induction x with
  | nil => rfl
  | cons p _ ih => rw [List.any_cons, List.any_cons, ih, isEq_of p]
theorem DatsS.eqAt {dx : PyData} {va : Value} {vs : List Value} {ds : List PyData} (x : DatsS s.heap vs ds) (hd : DatS s.heap va dx) (hu : A.units + 64 < cLine) : ∀ y ∈ vs, EqAt A s y va (isEq s.heap dx y) := by
  induction x with
  | nil => exact fun u1 h => nomatch h
  | cons p _ ih => exact fun y hy => (List.mem_cons.mp hy).elim (fun e => by rw [e, isEq_of p]; exact eqAt_of p hd hu) (ih y)

noncomputable def eqD (σ : List AO) (a b : AV) : Option Bool := (dat σ a).bind fun da => (dat σ b).map fun db => PyData.eqv da db
noncomputable def seqOf (st : St) : AV → Option (List AV)
  | .tup vs => some vs
  | b => litems b st
noncomputable def inD (st : St) (a b : AV) : Option Bool := (dat st.σ a).bind fun da => (seqOf st b).bind fun vs => (datAll st.σ vs).map fun ds => ds.any (PyData.eqv · da)
noncomputable def cmpD (op : CmpOp) (a b : AV) : K AV := fun st => match op with
  | .Eq => (eqD st.σ a b).map fun c => (.bool c, st)
  | .NotEq => (eqD st.σ a b).map fun c => (.bool (!c), st)
  | .In => (inD st a b).map fun c => (.bool c, st)
  | .NotIn => (inD st a b).map fun c => (.bool (!c), st)
  | _ => none

theorem eqD_sound {a b : AV} {va vb : Value} (hu : A.units + 64 < cLine) (I : Inv C Γ env W st s.heap) (ha : VR W a va) (hb : VR W b vb) {c : Bool} (e : eqD st.σ a b = some c) {Q E : Value → Shared → Prop} :
    (Q (.bool c) s → wpAny (model C.prog C.w) A (compareOp .Eq va vb) Q E s) ∧ (Q (.bool (!c)) s → wpAny (model C.prog C.w) A (compareOp .NotEq va vb) Q E s) :=
  bindE e fun da e1 e => mapE e fun db e2 => Exists.elim (dat_sound I.rel e1 ha) fun as p => Exists.elim (dat_sound I.rel e2 hb) fun bs q =>
    ⟨fun h => compareEq_shaped p.1 q.1 p.2 q.2 hu h, fun h => compareNe_shaped p.1 q.1 p.2 q.2 hu h⟩
theorem inD_sound {a b : AV} {va vb : Value} (hu : A.in1.units + 64 < cLine) (I : Inv C Γ env W st s.heap) (ha : VR W a va) (hb : VR W b vb) {c : Bool} (e : inD st a b = some c) {Q E : Value → Shared → Prop} :
    (Q (.bool c) s → wpAny (model C.prog C.w) A (compareOp .In va vb) Q E s) ∧ (Q (.bool (!c)) s → wpAny (model C.prog C.w) A (compareOp .NotIn va vb) Q E s) := by
  refine bindE e fun da e1 e => bindE e fun vs e2 e => mapE e fun ds e3 => ?_
  have hd := dat_sound I.rel e1 ha
  have key : ∀ items : Array Value, VRs W vs items.toList → (items.any (isEq s.heap da) = ds.any (PyData.eqv · da)) ∧ ∀ y, y ∈ items → EqAt A.in1 s y va (isEq s.heap da y) := fun items h =>
    have x := datsOf I.rel e3 h
    ⟨Array.any_toList.symm.trans x.any, fun y hy => x.eqAt hd hu y (Array.mem_toList_iff.mpr hy)⟩
  have lst : litems b st = some vs → (Q (.bool (ds.any (PyData.eqv · da))) s → wpAny (model C.prog C.w) A (compareOp .In va vb) Q E s) ∧ (Q (.bool (!ds.any (PyData.eqv · da))) s → wpAny (model C.prog C.w) A (compareOp .NotIn va vb) Q E s) := fun e =>
    litemsE I.rel hb e fun l items m hl hv u1 => have k := key items hv; ⟨fun h => in_listAt _ (isList_of hl) k.2 (k.1 ▸ h), fun h => notIn_listAt _ (isList_of hl) k.2 (k.1 ▸ h)⟩
  clear e
  revert hb lst
  cases b with
  | tup ws =>
      intro hb _
      cases e2
      exact tupE I.rel hb rfl fun l items m hl hv u1 => have k := key items hv; ⟨fun h => in_tupleAt _ (isTup_of hl) k.2 (k.1 ▸ h), fun h => notIn_tupleAt _ (isTup_of hl) k.2 (k.1 ▸ h)⟩
  | _ => exact fun u1 lst => lst e2
theorem cmpD_sound {op : CmpOp} {a b : AV} {va vb : Value} (hu : A.units + 64 < cLine) (hu1 : A.in1.units + 64 < cLine) (I : Inv C Γ env W st s.heap) (ha : VR W a va) (hb : VR W b vb) : Run C Γ env W A s (compareOp op va vb) (cmpD op a b st) VR := by
  cases op with
  | Eq => exact .omap fun c e => .mk1 fun Q E hq => (eqD_sound hu I ha hb e).1 (hq.at I s.toks (.bool _))
  | NotEq => exact .omap fun c e => .mk1 fun Q E hq => (eqD_sound hu I ha hb e).2 (hq.at I s.toks (.bool _))
  | In => exact .omap fun c e => .mk1 fun Q E hq => (inD_sound hu1 I ha hb e).1 (hq.at I s.toks (.bool _))
  | NotIn => exact .omap fun c e => .mk1 fun Q E hq => (inD_sound hu1 I ha hb e).2 (hq.at I s.toks (.bool _))
  | _ => exact .stuck
end
end Mine
set_option Elab.async false
namespace Mine
open PySem PyProof.Rows PySem.W PySem.SeqAt

section
variable {C : Cx} {n : Nat} {Γ : SCx} {env : Env} {W : Wd} {A : Around} {s : Shared} {st : St}

noncomputable def newO (o : AO) : K AV := fun st => some (.obj st.σ.length, ⟨st.θ, st.σ ++ [o]⟩)
noncomputable def newL (vs : List AV) : K AV := fun st => if vs.length < 2 ^ 20 then newO (.list vs) st else none
theorem newLE {vs : List AV} {items : Array Value} {tk : Nat} {Q : Value → Shared → Prop} {r : AV} {st' : St} (I : Inv C Γ env W st s.heap) (e : newL vs st = some (r, st')) (hq : Post C Γ env W s VR r st' Q) (hv : VRs W vs items.toList) :
    items.size ≤ sizeLine ∧ Q (.ref s.heap.objs.size) { s with heap := s.heap.push { cls := .type "list", data := .seq items }, toks := tk } := by
  by_cases hlt : vs.length < 2 ^ 20
  · unfold newL at e
    rw [if_pos hlt] at e
    cases e
    exact ⟨lt_line hlt hv.length, hq.new I { cls := .type "list", data := .seq items } ⟨_, _, Heap.get?_push_size _ rfl, hv.mono (.app _)⟩ tk⟩
  · unfold newL at e
    rw [if_neg hlt] at e
    cases e

theorem Ev.list {elts : List Expr} {pos : Pos} {g : K (List AV)} (h : Eas C n Γ elts g) : Ev C n Γ (.List elts pos) (K.bind g newL) :=
  ⟨fun A env W st s ok I v st' e Q E hq => K.bindE e fun vs st₁ e1 e2 => wpAny_List (h.run pos A env W st s ok I _ _ e1 _ _ fun xs W1 h1 tk1 I1 k1 v1 =>
    newLE (s := { s with heap := h1, toks := tk1 }) (items := xs.toArray) I1 e2 (fun a W2 h2 tk2 I2 k2 v2 => hq a W2 h2 tk2 I2 (k1.trans k2) v2) v1)⟩
noncomputable def tupL (vs : List AV) : K AV := fun st => if vs.length < 2 ^ 20 then some (.tup vs, st) else none
theorem tupLE {vs : List AV} {items : Array Value} {tk : Nat} {Q : Value → Shared → Prop} {r : AV} {st' : St} (I : Inv C Γ env W st s.heap) (e : tupL vs st = some (r, st')) (hq : Post C Γ env W s VR r st' Q) (hv : VRs W vs items.toList) :
    items.size ≤ sizeLine ∧ Q (.ref s.heap.objs.size) { s with heap := s.heap.push { cls := .type "tuple", data := .seq items }, toks := tk } := by
  by_cases hlt : vs.length < 2 ^ 20
  · unfold tupL at e
    rw [if_pos hlt] at e
    cases e
    exact ⟨lt_line hlt hv.length, hq.imm I { cls := .type "tuple", data := .seq items } rfl (fun W' le hm => .tup hm (hv.mono le)) tk⟩
  · unfold tupL at e
    rw [if_neg hlt] at e
    cases e
theorem Ev.tuple {elts : List Expr} {k : Nat} {pos : Pos} {g : K (List AV)} (h : Eas C n Γ elts g) : Ev C n Γ (.Tuple elts k pos) (K.bind g tupL) :=
  ⟨fun A env W st s ok I v st' e Q E hq => K.bindE e fun vs st₁ e1 e2 => wpAny_Tuple (h.run pos A env W st s ok I _ _ e1 _ _ fun xs W1 h1 tk1 I1 k1 v1 =>
    tupLE (s := { s with heap := h1, toks := tk1 }) (items := xs.toArray) I1 e2 (fun a W2 h2 tk2 I2 k2 v2 => hq a W2 h2 tk2 I2 (k1.trans k2) v2) v1)⟩

noncomputable def orK {α : Type} (f g : K α) : K α := fun st => match f st with
  | some r => some r
  | none => g st
theorem Run.orK {α β : Type} {f g : K β} {t : Sem α} {R : Wd → β → α → Prop} (h1 : Run C Γ env W A s t (f st) R) (h2 : Run C Γ env W A s t (g st) R) : Run C Γ env W A s t (orK f g st) R := by
  unfold Mine.orK
  revert h1
  cases f st with
  | none => exact fun u1 => h2
  | some x => exact id
noncomputable def cmpA (op : CmpOp) (a b : AV) : K AV := orK (cmpK op a b) (cmpD op a b)
theorem AOk.room {n : Nat} {A : Around} (ok : AOk C n A) : A.units + 64 < cLine ∧ A.in1.units + 64 < cLine := by
  have := ok.units
  refine ⟨by omega, ?_⟩
  simp; omega
theorem cmpA_sound {op : CmpOp} {a b : AV} {va vb : Value} (ok : AOk C n A) (I : Inv C Γ env W st s.heap) (ha : VR W a va) (hb : VR W b vb) : Run C Γ env W A s (compareOp op va vb) (cmpA op a b st) VR :=
  .orK (cmpK_sound I ha hb) (cmpD_sound ok.room.1 ok.room.2 I ha hb)

noncomputable def addL (a b : AV) : K AV := fun st => (litems a st).bind fun xs => (litems b st).bind fun ys => newL (xs ++ ys) st
noncomputable def mulL (a b : AV) : K AV := fun st => b.int?.bind fun k => (litems a st).bind fun xs => if -(2 ^ 62) ≤ k ∧ k < 2 ^ 62 then newL (List.replicate k.toNat xs).flatten st else none
noncomputable def binL (op : Operator) (a b : AV) : K AV := fun st => match op with
  | .Add => addL a b st
  | .Mult => mulL a b st
  | _ => none
theorem VRs.rep {vs : List AV} {ws : List Value} (h : VRs W vs ws) (k : Nat) : VRs W (List.replicate k vs).flatten (List.replicate k ws).flatten := by
  induction k with
  | zero => exact .nil
  | succ k ih => exact h.append ih
theorem foldl_rep (items : Array Value) (k : Nat) : ∀ acc : Array Value, (List.foldl (fun x1 x2 => x1 ++ x2) acc (List.replicate k items)).toList = acc.toList ++ (List.replicate k items.toList).flatten := by
  induction k with
  | zero => exact fun acc => (List.append_nil _).symm
  | succ k ih => exact fun acc => by rw [List.replicate_succ, List.foldl_cons, ih, List.replicate_succ, List.flatten_cons, Array.toList_append, List.append_assoc]
theorem rep_items {vs : List AV} {items : Array Value} (hv : VRs W vs items.toList) (k : Nat) : VRs W (List.replicate k vs).flatten (List.foldl (fun x1 x2 => x1 ++ x2) #[] (List.replicate (if items.isEmpty = true then 0 else k) items)).toList := by
  rw [foldl_rep]
  by_cases hem : items.isEmpty = true
  · have hi : items.toList = [] := by simpa using hem
    have hx := hv.rep k
    rw [if_pos hem]
    rw [hi] at hx
    have : (List.replicate k ([] : List Value)).flatten = [] := by simp
    rw [this] at hx
    exact hx
  · rw [if_neg hem]
    exact hv.rep k
theorem rep_len {α : Type} (l : List α) (k : Nat) : (List.replicate k l).flatten.length = l.length * k := by
  induction k with
  | zero => rfl
  | succ k ih => rw [List.replicate_succ, List.flatten_cons, List.length_append, ih, Nat.mul_succ, Nat.add_comm]
theorem rep_size {vs : List AV} {items : Array Value} (hv : VRs W vs items.toList) (k : Nat) (hs : (List.foldl (fun x1 x2 => x1 ++ x2) #[] (List.replicate (if items.isEmpty = true then 0 else k) items)).size ≤ sizeLine) : items.size * k ≤ sizeLine :=
  Nat.le_trans (Nat.le_of_eq ((congrArg (· * k) hv.length).symm.trans ((rep_len vs k).symm.trans (rep_items hv k).length))) hs
theorem mul_fits {k : Int} (h : -(2 ^ 62) ≤ k ∧ k < 2 ^ 62) : ¬(!Builtin.List.listFitsIndex k) = true := by simp [Builtin.List.listFitsIndex]; omega
theorem mul_size {m : Nat} (h : m ≤ sizeLine) : ¬ m > (2 ^ 63 - 1) / 8 := by unfold sizeLine at h; omega
theorem mul_long {m : Nat} (h : m ≤ sizeLine) : ¬ Builtin.List.listTooLong m = true := by unfold sizeLine at h; simp [Builtin.List.listTooLong, sizeLine]; omega
theorem binL_sound {op : Operator} {a b : AV} {va vb : Value} (I : Inv C Γ env W st s.heap) (ha : VR W a va) (hb : VR W b vb) : Run C Γ env W A s (binaryOp op va vb) (binL op a b st) VR := by
  cases op with
  | Add =>
    exact .obind fun xs e1 => .obind fun ys e2 => litemsE (P := fun va => Run C Γ env W A s (binaryOp .Add va vb) (newL (xs ++ ys) st) VR) I.rel ha e1 fun l items m hl hv u1 => litemsE (P := fun vb => Run C Γ env W A s (binaryOp .Add (.ref l) vb) (newL (xs ++ ys) st) VR) I.rel hb e2 fun l2 items2 m2 hl2 hv2 u1 r st' e Q E hq =>
      have x := newLE (tk := s.toks) (items := items ++ items2) I e hq (by rw [Array.toList_append]; exact hv.append hv2)
      P.add_list hl hl2 x.2 (by rw [← Array.size_append]; exact x.1)
  | Mult =>
    exact .obind fun k hk => .obind fun xs e1 => .ite fun hb' => litemsE (P := fun va => Run C Γ env W A s (binaryOp .Mult va vb) (newL (List.replicate k.toNat xs).flatten st) VR) I.rel ha e1 fun l items m hl hv u1 => hb.intE (P := fun vb => Run C Γ env W A s (binaryOp .Mult (.ref l) vb) (newL (List.replicate k.toNat xs).flatten st) VR) hk fun u r st' e Q E hq =>
      have x := newLE (tk := s.toks) I e hq (rep_items hv k.toNat)
      wpAny_binaryOp_repeat_ref (T := "list") (U := "int") (by decide) ⟨_, hl, rfl⟩ (fun s' => typeIs_int s' k u) noFill_list_mul F.fills_int_mul F.slot_int_rmul repeat_list F.slot_int_index.lookup
          (call_meets F.slot_int_rmul (typeIs_int s k u) F.entry_int_rmul (F.args_int_rmul_2 _ _) (int___rmul___int_list k u l items m)
            ⟨hl, rfl, ⟨_, hl, rfl⟩, call_meets F.slot_list_mul ⟨_, hl, rfl⟩ F.entry_list_mul (F.args_list_mul_2 _ _)
              (AutoListH.list___mul___list_int_3 l items m k u (mul_fits hb') (mul_size (rep_size hv _ x.1)) (mul_long (rep_size hv _ x.1)))
              ⟨hl, x.2⟩⟩)
  | _ => exact .stuck
noncomputable def binA (op : Operator) (a b : AV) : K AV := orK (binK op a b) (binL op a b)
theorem binA_sound {op : Operator} {a b : AV} {va vb : Value} (I : Inv C Γ env W st s.heap) (ha : VR W a va) (hb : VR W b vb) : Run C Γ env W A s (binaryOp op va vb) (binA op a b st) VR :=
  .orK (binK_sound I ha hb) (binL_sound I ha hb)
theorem Ev.bina {l r : Expr} {op : Operator} {pos : Pos} {f g : K AV} (hl : Ev C n Γ l f) (hr : Ev C n Γ r g) : Ev C n Γ (.BinOp l op r pos) (K.bind f fun a => K.bind g fun b => binA op a b) :=
  ⟨fun A env W st s ok I => .stepE (S := fun va Q E s₁ => wpAny (model C.prog C.w) A (eval r env) (fun vb s₂ => wpAny (model C.prog C.w) A (binaryOp op va vb) Q E s₂) E s₁) (fun Q E h => wpAny_BinOp h) (hl.run A env W st s ok I) fun a st₁ va W1 h1 tk1 I1 v1 =>
    Run.step2 (hr.run A env W1 st₁ _ ok I1) fun b st₂ vb W2 h2 tk2 I2 k2 v2 => binA_sound I2 (v1.mono k2.le) v2⟩
end
end Mine
set_option Elab.async false
namespace Mine
open PySem PyProof.Rows PySem.W PySem.SeqAt

section
variable {C : Cx} {n : Nat} {Γ : SCx} {env : Env} {W : Wd} {A : Around} {s : Shared} {st : St}

structure Pt (C : Cx) (n : Nat) (Γ : SCx) (x : Option Expr) (f : K (Option Int)) : Prop where
  run : ∀ A env W st s, AOk C n A → Inv C Γ env W st s.heap → Run C Γ env W A s (evalPart x env) (f st) fun u1 p v => IsPart v p
theorem Pt.none : Pt C n Γ none (K.ret none) := ⟨fun A env W st s ok J => .now J s.toks .none fun Q E h => wpAny_pure h⟩
noncomputable def partK (a : AV) : K (Option Int) := fun st => match a with
  | .int i => some (some i, st)
  | .none => some (Option.none, st)
  | _ => Option.none
theorem Pt.some {e : Expr} {f : K AV} (h : Ev C n Γ e f) : Pt C n Γ (some e) (K.bind f partK) :=
  ⟨fun A env W st s ok J v st' e Q E hq => K.bindE e fun a st₁ e1 e2 => h.run A env W st s ok J _ _ e1 _ _ fun va W1 h1 tk1 J1 k1 v1 => by
    clear e e1
    cases a with
    | int i => cases e2; exact v1.intE rfl fun t => hq _ W1 h1 tk1 J1 k1 (.int i t)
    | none => cases e2; exact v1.noneE rfl (hq _ W1 h1 tk1 J1 k1 .none)
    | _ => exact nomatch e2⟩

noncomputable def pickL {α : Type} (vs : List α) (lo hi stp : Option Int) : List α :=
  (sliceRange (sliceBounds lo hi stp vs.length).1 (sliceBounds lo hi stp vs.length).2.1 (sliceBounds lo hi stp vs.length).2.2).filterMap (vs[·]?)
noncomputable def pickS (x : Str) (lo hi stp : Option Int) : Str := ⟨((Builtin.Str.strSliceIndices lo hi (stp.getD 1) x.length).filterMap (x.cps[·]?)).toArray⟩
noncomputable def sliceS (x : Str) (lo hi stp : Option Int) : Str := if (stp.getD 1 == 1 && (Builtin.Str.strSliceIndices lo hi (stp.getD 1) x.length).length == x.length) = true then x else pickS x lo hi stp
noncomputable def sliceV (a : AV) (lo hi stp : Option Int) : K AV := fun st => match a with
  | .str x => if (pickS x lo hi stp).length < 2 ^ 20 then some (.str (sliceS x lo hi stp), st) else none
  | a => (litems a st).bind fun vs => if vs.length < 2 ^ 20 then newL (pickL vs lo hi stp) st else none
noncomputable def sliceK (a : AV) (lo hi stp : Option Int) : K AV := fun st => if stp = some 0 then none else sliceV a lo hi stp st

theorem VRs.pick {vs : List AV} {ws : List Value} (h : VRs W vs ws) (l : List Nat) : VRs W (l.filterMap (vs[·]?)) (l.filterMap (ws[·]?)) := by
  induction l with
  | nil => exact .nil
  | cons i l ih =>
    rw [List.filterMap_cons, List.filterMap_cons]
    cases e : vs[i]? with
    | none =>
      have : ws[i]? = none := List.getElem?_eq_none_iff.mpr (h.length ▸ List.getElem?_eq_none_iff.mp e)
      rw [this]
      exact ih
    | some a => exact Exists.elim (h.get e) fun v q => by rw [q.1]; exact .cons q.2 ih
theorem IsPart.val {v : Value} {q : Option Int} (h : IsPart v q) : ∃ r : Option (Int × Tok), v = partValue r ∧ r.map (fun x => x.1) = q := by
  cases h with
  | none => exact ⟨none, rfl, rfl⟩
  | int i t => exact ⟨some (i, t), rfl, rfl⟩
theorem subscripted_slice {lower upper step : Option Expr} {p : Pos} {va vi : Value} : ∃ ops, subscripted (.Slice lower upper step p) false va vi = operate ops (getItem va vi) := by
  cases step with
  | none => exact ⟨_, rfl⟩
  | some _ => exact ⟨_, rfl⟩
theorem zero_of {stp : Option Int} (h : ¬ stp = some 0) : (stp.getD 1 == 0) = false := by
  cases stp with
  | none => rfl
  | some i => exact beq_eq_false_iff_ne.mpr fun e => h (congrArg some e)
theorem sliceV_sound {value : Expr} {lower upper step : Option Expr} {p : Pos} {a : AV} {lo hi stp : Option Int} {va vl vu vs : Value} {h : Heap} (J : Inv C Γ env W st h) (ha : VR W a va) (hl : IsPart vl lo) (hu : IsPart vu hi) (hs : IsPart vs stp) (h0 : ¬ stp = some 0) {tk : Nat} :
    Run C Γ env W A { s with heap := h.push { cls := .type "slice", data := .fields #[vl, vu, vs] }, toks := tk } (subscriptTail value (.Slice lower upper step p) va (.ref h.objs.size)) (sliceV a lo hi stp st) VR := by
  have J := J.pushed { cls := .type "slice", data := .fields #[vl, vu, vs] }
  have key : Run C Γ env W A { s with heap := h.push { cls := .type "slice", data := .fields #[vl, vu, vs] }, toks := tk } (subscriptTail value (.Slice lower upper step p) va (.ref h.objs.size)) ((litems a st).bind fun vs => if vs.length < 2 ^ 20 then newL (pickL vs lo hi stp) st else none) VR :=
    .obind fun xs e => .ite fun hlt => litemsE (P := fun va => Run C Γ env W A { s with heap := h.push { cls := .type "slice", data := .fields #[vl, vu, vs] }, toks := tk } (subscriptTail value (.Slice lower upper step p) va (.ref h.objs.size)) (newL (pickL xs lo hi stp) st) VR) J.rel ha e fun l items m hg hv hlen r st' e Q E hq => by
      have hp : VRs W (pickL xs lo hi stp) (slicePick items lo hi stp).toList := by
        unfold pickL slicePick
        rw [hlen]
        simpa using hv.pick _
      exact Exists.elim subscripted_slice fun ops hsub => tail_any (T := "list") (ops := ops) ⟨_, hg, rfl⟩ slot_list_getitem.lookup (wpAny_getItem_list_slice (isList_of hg) (Heap.IsSliceOf.new ..) hl hu hs h0 (newLE J e hq hp).2 (lt_line hlt hlen)) hsub
  revert ha key
  cases a with
  | str x =>
    exact fun ha u1 => .ite fun hlt => ha.strE (P := fun va => Run C Γ env W A { s with heap := h.push { cls := .type "slice", data := .fields #[vl, vu, vs] }, toks := tk } (subscriptTail value (.Slice lower upper step p) va (.ref h.objs.size)) (some (.str (sliceS x lo hi stp), st)) VR) rfl fun t => .mk1 fun Q E hq =>
      Exists.elim (subscripted_slice (lower := lower) (upper := upper) (step := step) (p := p) (va := .str x t) (vi := .ref h.objs.size)) fun ops hsub => Exists.elim (IsPart.val hl) fun r1 p1 => Exists.elim (IsPart.val hu) fun r2 p2 => Exists.elim (IsPart.val hs) fun r3 p3 => by
        obtain ⟨rfl, rfl⟩ := p1
        obtain ⟨rfl, rfl⟩ := p2
        obtain ⟨rfl, rfl⟩ := p3
        refine tail_any (T := "str") (ops := ops) rfl slot_str_getitem.lookup (wpAny_getItem_str_slice (l := r1) (u := r2) (st := r3) ⟨_, Heap.get?_push_size _ rfl, rfl, rfl⟩ (zero_of h0) ?_) hsub
        unfold sliceMade slicePicked
        split
        · rename_i hc
          exact hq _ W _ tk J (.refl ..) (by unfold sliceS; rw [if_pos hc]; exact .str _ _)
        · rename_i hc
          exact ⟨lt_line hlt rfl, hq _ W _ (tk + 1) J (.refl ..) (by unfold sliceS; rw [if_neg hc]; exact .str _ _)⟩
  | _ => exact fun u1 key => key
theorem Ev.slice {value : Expr} {lower upper step : Option Expr} {p pos : Pos} {f : K AV} {g k m : K (Option Int)} (hv : Ev C n Γ value f) (hl : Pt C n Γ lower g) (hu : Pt C n Γ upper k) (hm : Pt C n Γ step m) :
    Ev C n Γ (.Subscript value (.Slice lower upper step p) pos) (K.bind f fun a => K.bind g fun lo => K.bind k fun hi => K.bind m fun stp => sliceK a lo hi stp) := by
  refine ⟨fun A env W st s ok J v st' e Q E hq => ?_⟩
  refine K.bindE e fun a st₁ e1 e => Subscript_ (hv.run A env W st s ok J _ _ e1 _ _ fun va W1 h1 tk1 J1 k1 v1 => ?_)
  refine K.bindE e fun lo st₂ e2 e => wpAny_Slice (hl.run A env W1 st₁ { s with heap := h1, toks := tk1 } ok J1 _ _ e2 _ _ fun vl W2 h2 tk2 J2 k2 v2 => ?_)
  refine K.bindE e fun hi st₃ e3 e => hu.run A env W2 st₂ { s with heap := h2, toks := tk2 } ok J2 _ _ e3 _ _ fun vu W3 h3 tk3 J3 k3 v3 => ?_
  refine K.bindE e fun stp st₄ e4 e => hm.run A env W3 st₃ { s with heap := h3, toks := tk3 } ok J3 _ _ e4 _ _ fun vs W4 h4 tk4 J4 k4 v4 => ?_
  have kk := k1.trans (k2.trans (k3.trans (k4.trans (.pushed { cls := .type "slice", data := .fields #[vl, vu, vs] }))))
  have v1 := v1.mono (k2.le.trans (k3.le.trans k4.le))
  clear k1 k2 k3 k4 J J1 J2 J3 e1 e2 e3 e4
  unfold sliceK at e
  by_cases h0 : stp = some 0
  · rw [if_pos h0] at e; cases e
  · rw [if_neg h0] at e
    exact sliceV_sound (s := s) J4 v1 v2 v3 v4 h0 v st' e Q E fun x W5 h5 tk5 J5 k5 v5 => hq x W5 h5 tk5 J5 (kk.trans k5) v5
end
end Mine
set_option Elab.async false
set_option maxRecDepth 100000
namespace Mine
open PySem PyProof.Rows PySem.W PySem.SeqAt

section
variable {C : Cx} {n : Nat} {Γ : SCx} {env : Env} {W : Wd} {A : Around} {s : Shared} {st : St}

noncomputable def rangeOf (a b c : Int) : K AV := fun st => if Builtin.Range.small a b c = true ∧ 0 ≤ Builtin.Range.rangeSize a b c then some (.rng a c (Builtin.Range.rangeSize a b c).toNat, st) else none
noncomputable def range3 (a b c : Int) : K AV := fun st => if c ≠ 0 ∧ c.natAbs < 2 ^ 64 then rangeOf a b c st else none
noncomputable def rangeK : List AV → K AV
  | [] => K.fail
  | x :: r => fun st => x.int?.bind fun a => match r with
    | [] => rangeOf 0 a 1 st
    | y :: r => y.int?.bind fun b => match r with
      | [] => rangeOf a b 1 st
      | z :: r => z.int?.bind fun c => match r with
        | [] => range3 a b c st
        | _ :: _ => none
theorem rangeOfE {a b c : Int} {t u v : Tok} {tk : Nat} {r : AV} {st' : St} {Q : Value → Shared → Prop} (I : Inv C Γ env W st s.heap) (e : rangeOf a b c st = some (r, st')) (hq : Post C Γ env W s VR r st' Q) :
    Q (.ref s.heap.objs.size) { s with heap := s.heap.push { cls := .type "range", data := .fields #[.int a t, .int b u, .int c v] }, toks := tk } := by
  by_cases h : Builtin.Range.small a b c = true ∧ 0 ≤ Builtin.Range.rangeSize a b c
  · unfold rangeOf at e
    rw [if_pos h] at e
    cases e
    exact hq.imm I { cls := .type "range", data := .fields #[.int a t, .int b u, .int c v] } rfl (fun W' le hm => .rng hm h.1 (Int.toNat_of_nonneg h.2).symm) tk
  · unfold rangeOf at e
    rw [if_neg h] at e
    cases e
theorem Cal.range : Cal C n Γ (.type "range") rangeK := by
  intro A env W st s args vs ok I hv
  cases args with
  | nil => exact .stuck
  | cons x r =>
    refine hv.consE fun v vs h hr => .obind fun a ha => h.intE ha fun t => ?_
    cases r with
    | nil => exact hr.nilE fun r st' e Q E hq => call_range_1 (rangeOfE I e hq)
    | cons y r =>
      refine hr.consE fun v vs h hr => .obind fun b hb => h.intE hb fun u => ?_
      cases r with
      | nil => exact hr.nilE fun r st' e Q E hq => call_range_2 (rangeOfE I e hq)
      | cons z r =>
        refine hr.consE fun v vs h hr => .obind fun c hc => h.intE hc fun w => ?_
        cases r with
        | nil => exact hr.nilE (.ite fun hc => fun r st' e Q E hq => call_range_3 hc.1 (rangeOfE I e hq) (.inl (noPylong hc.2)))
        | cons _ _ => exact .stuck

theorem Inv.kept {h' : Heap} (I : Inv C Γ env W st s.heap) (hk : ∀ b o, s.heap.get? b = some o → h'.get? b = some o) : Inv C Γ env W st h' ∧ Keep W W [] s.heap h' :=
  have k : Keep W W [] s.heap h' := .of (.refl W) (fun b o e u1 u2 => hk b o e) (fun b o e => ⟨o, hk b o e⟩) (fun u1 h1 h2 => absurd h1 h2) (fun u1 h => .inl h)
  ⟨I.keep (I.rel.ext (π := []) (fun a o e u1 => hk a o e) (fun u1 h => nomatch h) (fun u1 h => nomatch h)) k, k⟩
noncomputable def tuple1 (a : AV) : K AV := fun st => match a with
  | .tup vs => some (.tup vs, st)
  | a => (litems a st).bind fun vs => if vs.length < 2 ^ 20 then some (.tup vs, st) else none
noncomputable def tupleK : List AV → K AV := fun args st => (one? args).bind fun a => tuple1 a st
theorem Cal.tuple : Cal C n Γ (.type "tuple") tupleK := .one fun A env W st s a v ok I h => by
  have key : Run C Γ env W A s (call (.type "tuple") [v]) ((litems a st).bind fun vs => if vs.length < 2 ^ 20 then some (.tup vs, st) else none) VR :=
    .obind fun xs e => .ite fun hlt => litemsE I.rel h e fun l items m hl hv hlen => .mk1 fun Q E hq => call_tuple_list (isList_of hl) (fun h' hk =>
      have x := I.kept hk
      Post.imm (s := { s with heap := h' }) (fun a W2 h2 tk2 I2 k2 v2 => hq a W2 h2 tk2 I2 (x.2.wide.trans k2) v2) x.1 { cls := .type "tuple", data := .seq items } rfl (fun W' le hm => .tup hm (hv.mono le)) _) (lt_line hlt hlen)
  revert h key
  cases a with
  | tup vs => exact fun h u1 => .mk1 fun Q E hq => tupE (P := fun v => Q v { s with toks := s.toks } → wpAny (model C.prog C.w) A (call (.type "tuple") [v]) Q E s) I.rel h rfl (fun l items m hl u1 u2 hq => call_tuple_tup (isTup_of hl) hq) (hq.at I s.toks h)
  | _ => exact fun u1 key => key

noncomputable def str1 (a : AV) : K AV := fun st => match a with
  | .int i => if i.natAbs.log2 < 1920 then some (.str (Str.ofString (toString i)), st) else none
  | .str x => some (.str x, st)
  | _ => none
noncomputable def strK : List AV → K AV := fun args st => (one? args).bind fun a => str1 a st
theorem Cal.str : Cal C n Γ (.type "str") strK := .one fun A env W st s a v ok I h => by
  cases a with
  | int i => exact h.intE rfl fun t => .ite fun hi => .mk1 fun Q E hq => P.str_of_int hi (hq.at I _ (.str _ _))
  | str x => exact h.strE rfl fun t => .mk1 fun Q E hq => P.str_of_str (hq.at I _ (.str _ _))
  | _ => exact .stuck

noncomputable def int1 (a : AV) : K AV := fun st => a.str?.bind fun x => if x.length ≤ 640 then (PySem.intText? x).map fun i => (.int i, st) else none
noncomputable def intK : List AV → K AV := fun args st => (one? args).bind fun a => int1 a st
theorem Cal.int : Cal C n Γ (.type "int") intK := .one fun A env W st s a v ok I h => .obind fun x hx => .ite fun hl => .omap fun i hi => h.strE hx fun t => .mk1 fun Q E hq => KIN.call_text hi hl (hq.at I _ (.int _ _))

noncomputable def type1 (a : AV) : K AV := fun st => match a with
  | .str _ => some (.val (.type "str"), st)
  | .int _ => some (.val (.type "int"), st)
  | .tup _ => some (.val (.type "tuple"), st)
  | a => (litems a st).map fun u1 => (.val (.type "list"), st)
noncomputable def typeK : List AV → K AV := fun args st => (one? args).bind fun a => type1 a st
theorem Cal.typ : Cal C n Γ (.type "type") typeK := .one fun A env W st s a v ok I h => by
  have key : Run C Γ env W A s (call (.type "type") [v]) ((litems a st).map fun u1 => (.val (.type "list"), st)) VR :=
    .omap fun xs e => litemsE I.rel h e fun l items m hl u1 u2 => .mk1 fun Q E hq => call_type_of (Tx := "list") ⟨_, hl, rfl⟩ (by decide) (hq.at I _ (.val _))
  revert h key
  cases a with
  | str x => exact fun h u1 => h.strE rfl fun t => .mk1 fun Q E hq => call_type_of (typeIs_str _ _ _) (by decide) (hq.at I _ (.val _))
  | int x => exact fun h u1 => h.intE rfl fun t => .mk1 fun Q E hq => call_type_of (typeIs_int _ _ _) (by decide) (hq.at I _ (.val _))
  | tup vs => exact fun h u1 => tupE I.rel h rfl fun l items m hl u1 u2 => .mk1 fun Q E hq => call_type_of (Tx := "tuple") ⟨_, hl, rfl⟩ (by decide) (hq.at I _ (.val _))
  | _ => exact fun u1 key => key

noncomputable def isStrV (a : AV) (_ : St) : Prop := ∃ x, a.str? = some x
theorem Res.str {name : Str} {id : String} (slot : Slot "str" name id) (hty : typeOf (.builtin id) = pure (.type "method_descriptor")) : Res C name (.builtin id) isStrV := fun A W st s a v R hv hP Q E pl =>
  Exists.elim hP fun x e => hv.strE e fun t hq => getMethod_builtin (typeIs_str _ _ _) F.plainAttrs_str slot hty (fun a e => nomatch e) hq
noncomputable def upper1 (a : AV) : K AV := fun st => a.str?.bind fun x => if x.length ≤ 2 ^ 20 then some (.str (Txt.upper x), st) else none
noncomputable def upperK : List AV → K AV := fun args st => (one? args).bind fun a => upper1 a st
theorem Cal.upper : Cal C n Γ (.builtin "str.upper") upperK := .one fun A env W st s a v ok I h => .obind fun x hx => .ite fun hl => h.strE hx fun t => .mk1 fun Q E hq => SC.upper (fit_upper (by omega)) (hq.at I _ (.str _ _))
noncomputable def lower1 (a : AV) : K AV := fun st => a.str?.bind fun x => if x.length ≤ 2 ^ 20 then some (.str (Txt.lower x), st) else none
noncomputable def lowerK : List AV → K AV := fun args st => (one? args).bind fun a => lower1 a st
theorem Cal.lower : Cal C n Γ (.builtin "str.lower") lowerK := .one fun A env W st s a v ok I h => .obind fun x hx => .ite fun hl => h.strE hx fun t => .mk1 fun Q E hq => SC.lower (fit_lower (by omega)) (hq.at I _ (.str _ _))
noncomputable def strsOf : List AV → Option (List Str)
  | [] => some []
  | a :: r => a.str?.bind fun x => (strsOf r).map fun l => x :: l
theorem strsOf_sound {l : List AV} : ∀ {vs : List Value} {xs : List Str}, strsOf l = some xs → VRs W l vs → ∃ ps : List (Str × Tok), vs = strValues ps ∧ ps.map (fun x => x.1) = xs := by
  induction l with
  | nil => exact fun {vs xs} e hv => hv.nilE (some_of e ⟨[], rfl, rfl⟩)
  | cons a r ih => exact fun {vs xs} e hv => hv.consE fun v vs h hr => bindE e fun x hx e => mapE e fun l e1 => Exists.elim (ih e1 hr) fun ps p => h.strE hx fun t => ⟨(x, t) :: ps, by rw [p.1]; rfl, by rw [← p.2]; rfl⟩
noncomputable def join2 (a b : AV) : K AV := fun st => a.str?.bind fun x => (litems b st).bind fun vs => (strsOf vs).bind fun xs => if JoinOk x xs = true then some (.str (Txt.join x xs), st) else none
noncomputable def joinK : List AV → K AV := fun args st => (two? args).bind fun p => join2 p.1 p.2 st
theorem Cal.join : Cal C n Γ (.builtin "str.join") joinK := .two (F := join2) fun A env W st s a b v w ok I hv hw =>
  .obind fun x hx => .obind fun ys e1 => .obind fun xs e2 => .ite fun hj => hv.strE hx fun t => litemsE I.rel hw e1 fun l items m hl hr u1 => .mk1 fun Q E hq => Exists.elim (strsOf_sound e2 hr) fun ps p => by
    have hitems : items = (strValues ps).toArray := by rw [← p.1]
    subst hitems
    exact SC.join (isList_of hl) p.2 hj fun t' k => hq.at I k (.str _ _)

noncomputable def index2 (a x : AV) : K AV := fun st => (litems a st).bind fun vs => (datAll st.σ vs).bind fun ds => (dat st.σ x).bind fun dx => if vs.length < 2 ^ 20 then (ds.findIdx? (PyData.eqv · dx)).map fun j : Nat => (.int (j : Int), st) else none
noncomputable def indexK : List AV → K AV := fun args st => (two? args).bind fun p => index2 p.1 p.2 st
theorem find_at {α β : Type} {p : α → Bool} {q : β → Bool} {l : List α} {m : List β} {j : Nat} (e : l.map p = m.map q) (h : m.findIdx? q = some j) : ∃ hj : j < l.length, p l[j] = true ∧ ∀ k (hk : k < l.length), k < j → p l[k] = false := by
  obtain ⟨hj, h1, h2⟩ := List.findIdx?_eq_some_iff_getElem.mp h
  have hl : l.length = m.length := by rw [← List.length_map (f := p), e, List.length_map]
  have at' : ∀ k (hk : k < l.length), p l[k] = q (m[k]'(hl ▸ hk)) := fun k hk => by
    have := congrArg (·[k]?) e
    simpa [hk, hl ▸ hk] using this
  exact ⟨hl ▸ hj, (at' j (hl ▸ hj)).trans h1, fun k hk hlt => (at' k hk).trans (Bool.eq_false_iff.mpr (h2 k hlt))⟩
theorem lt_word {j k m : Nat} (h : k < 2 ^ 20) (e : k = m) (hj : j < m) : (j : Int) < 2 ^ 63 - 1 := by omega
theorem Cal.index : Cal C n Γ (.builtin "list.index") indexK := .two (F := index2) fun A env W st s a x v w ok I hv hw =>
  .obind fun ys e1 => .obind fun ds e2 => .obind fun dx e3 => .ite fun hlt => .omap fun j e4 => litemsE I.rel hv e1 fun l items m hl hr hlen => .mk1 fun Q E hq =>
    have X := datsOf I.rel e2 hr
    Exists.elim (find_at (X.map (dx := dx)) e4) fun hj p =>
      call_meets F.slot_list_index ⟨_, hl, rfl⟩ F.entry_list_index (F.args_list_index_2 _ _) (list_indexAt l items m none #[] _ (isEq s.heap dx) j hj (lt_word hlt hlen hj) p.1 fun k hk hlt => p.2 k hk hlt)
        ⟨hl, fun y hy => X.eqAt (dat_sound I.rel e3 hw) (by have := ok.units; simp; omega) y (Array.mem_toList_iff.mpr hy), hq.at I _ (.int _ _)⟩
end
end Mine
set_option Elab.async false
set_option maxRecDepth 100000
namespace Mine
open PySem PyProof.Rows PySem.W PySem.SeqAt

noncomputable def dictAttr (K : Frag) (Cl : Addr) (name : Str) : Bool := plainGet K Cl name && hasDictIn K Cl && (match findIn K (.ref Cl) name with | some attr => noGet K attr | none => false)
noncomputable def slotAttr (K : Frag) (Cl : Addr) (name : Str) : Option Nat :=
  if plainGet K Cl name && isClsIn K Cl then (match findIn K (.ref Cl) name with
    | some (some (.ref p)) => if specialIn K (.ref p) "__get__" == some (some (.builtin "member_descriptor.__get__")) && takesIn K (.ref p) == some true then slotIn K p Cl else none
    | _ => none) else none

theorem isStr_key {e : DictEntry} {x name : Str} {t : Tok} (h : e.key = .str x t) : e.key.isStr name = (x == name) := by rw [h]; rfl
theorem AttrsR.get {W : Wd} {fs : List (Str × AV)} {es : List DictEntry} (h : AttrsR W fs es) {name : Str} {a : AV} (e : fs.lookup name = some a) : ∃ v, getL name es = some (some v) ∧ VR W a v := by
  have : ∃ en, es.find? (·.key.isStr name) = some en ∧ VR W a en.val := by
    induction h with
    | nil => cases e
    | @cons f en fs' es' h _ ih =>
      obtain ⟨y, b⟩ := f
      obtain ⟨⟨t, ht⟩, hv⟩ := h
      have hs := isStr_key (name := name) ht
      rw [List.lookup_cons] at e
      rw [List.find?_cons, hs]
      by_cases hb : y = name
      · rw [beq_iff_eq.mpr hb.symm] at e
        rw [beq_iff_eq.mpr hb]
        cases e
        exact ⟨en, rfl, hv⟩
      · rw [beq_eq_false_iff_ne.mpr (Ne.symm hb)] at e
        rw [beq_eq_false_iff_ne.mpr hb]
        exact ih e
  exact Exists.elim this fun en q => ⟨en.val, by unfold getL; rw [q.1], q.2⟩

theorem handed_of {W : Wd} {a : AV} {v : Value} (h : VR W a v) (hn : ∀ x, a ≠ .val x) : handedIn v = true := by
  cases h <;> first | rfl | exact absurd rfl (hn _)

noncomputable def noVal : AV → Bool
  | .val _ => false
  | _ => true
theorem noVal_of {a : AV} (h : noVal a = true) : ∀ x, a ≠ .val x := by rintro x rfl; cases h

theorem SlotsR.get {W : Wd} {as : List (Option AV)} {vs : List (Option Value)} (h : SlotsR W as vs) {a : AV} : ∀ {j : Nat}, as[j]? = some (some a) → ∃ v, vs[j]? = some (some v) ∧ VR W a v := by
  induction h with
  | nil => exact fun e => nomatch e
  | @cons x y xs ys h _ ih =>
    intro j e
    cases j with
    | zero =>
      cases e
      cases y with
      | none => exact h.elim
      | some v => exact ⟨v, rfl, h⟩
    | succ j => exact ih e
end Mine
set_option Elab.async false
set_option maxRecDepth 100000
namespace Mine
open PySem PyProof.Rows PySem.W PySem.SeqAt
open PySem.Calls Builtin Builtin.ObjectAttr Builtin.Getset_descriptor

section
variable {prog : Program} {w : World} {A : Around} {E : Value → Shared → Prop} {s : Shared} {K : Frag} {x C dx : Addr} {name : Str} {v : Value} {es : List DictEntry} {n : Nat}

theorem putL_len (name : Str) (hsh : Int) (key v : Value) : ∀ es : List DictEntry, (putL name hsh key v es).length ≤ es.length + 1
  | [] => by simp [putL]
  | e :: r => by
    unfold putL
    have := putL_len name hsh key v r
    split <;> simp <;> omega

theorem set_in_dict {Q : Unit → Shared → Prop} (X : K.In s.heap) (I : InstAt s.heap x ⟨.ref C, some dx, .plain, #[]⟩ C (some (dictOf es n)))
    (hs : findIn K (.ref C) "__setattr__" = some (some (.builtin "object.__setattr__"))) (hp : plainOver K C = true) (ht : takerIn K C name = some none) (hh : hasDictIn K C = true) (hl : (getL name es).isSome = true) (hz : es.length < 900)
    (h : ∀ h', h'.get? dx = some (dictOf (putL name (PyData.keyHash w.params name) (.str name (s.toks + 1)) v es) (putN name es n)) → Heap.SameBut dx s.heap h' → Q () { s with heap := h', toks := s.toks + 2 }) :
    wpAny (model prog w) A (setAttr (.ref x) name v) Q E s := by
  refine set_plain X I hs (osa_open (s := { s with toks := s.toks + 1 }) X I hp ht fun b => ?_)
  obtain ⟨cd, hc, hd'⟩ := any_some hh
  have D : s.heap.get? dx = some (dictOf es n) := I.dict
  have hx := I.at_
  have e := putName_dict name (PyData.keyHash w.params name) (.str name (s.toks + 1)) v es n
  have D' : (s.heap.update dx (Obj.putName name (PyData.keyHash w.params name) (.str name (s.toks + 1)) v)).get? dx = some (dictOf (putL name (PyData.keyHash w.params name) (.str name (s.toks + 1)) v es) (putN name es n)) := by
    have := Heap.get?_update_self (Obj.putName name (PyData.keyHash w.params name) (.str name (s.toks + 1)) v) D (by rw [e]; rfl)
    rw [e] at this; exact this
  refine wpAny_bind (wpAny_pure (wpAny_bind (wpAny_bind (wpAny_loadPart hx (wpAny_bind (looks_clsIn X hc _ _ _ _ (fun u1 u2 e => e) ?_))))))
  rw [hd']
  refine wpAny_pure (a := some dx) (wpAny_bind (wpAny_pure (wpAny_bind ?_)))
  unfold nsSet
  refine wpAny_bind (wpAny_bind (wpAny_askSetting (wpAny_pure (wpAny_bind (wpAny_mkText (wpAny_bind (wpAny_loadPart D ?_)))))))
  dsimp only [dictOf]
  have c : (!es.toArray.any (·.key.isStr name) && es.toArray.any (fun x => x.refKey)) = false := by
    unfold getL at hl
    rw [← Array.any_toList, ← Array.any_toList]
    split at hl
    · rename_i en he
      rw [List.any_eq_true.mpr ⟨en, List.mem_of_find?_eq_some he, List.find?_some he⟩]; rfl
    · split at hl
      · cases hl
      · rename_i z; rw [Bool.not_eq_true] at z; simp at z; simp; intro _ ; exact z
  rw [aRefKeyMayBeTheName_at, c]
  refine wpAny_updatePart D ?_
  have hlen : (putL name (PyData.keyHash w.params name) (.str name (s.toks + 1)) v es).length ≤ es.length + 1 := putL_len ..
  refine wpAny_bind (wpAny_lookBehind D' (pastItsLine_dict (by rw [List.size_toArray, sizeLine_eq]; omega)) ?_)
  exact wpAny_pure (h _ D' (Heap.SameBut.update ..))

theorem set_in_slot {Q : Unit → Shared → Prop} {sl : Array (Option Value)} {p : Addr} {i : Nat} {od : Obj} (X : K.In s.heap) (I : InstAt s.heap x ⟨.ref C, some dx, .plain, sl⟩ C (some od))
    (hs : findIn K (.ref C) "__setattr__" = some (some (.builtin "object.__setattr__"))) (hp : plainOver K C = true) (ht : takerIn K C name = some (some (.ref p))) (hT : typeIn K (.ref p) = some (.type "member_descriptor")) (hi : slotIn K p C = some i) (hz : i < 900)
    (h : ∀ h', h'.get? x = some ⟨.ref C, some dx, .plain, (sl ++ Array.replicate (i + 1 - sl.size) none).setIfInBounds i (some v)⟩ → Heap.SameBut x s.heap h' → Q () { s with heap := h', toks := s.toks + 1 }) :
    wpAny (model prog w) A (setAttr (.ref x) name v) Q E s := by
  refine set_plain X I hs (osa_descr (s := { s with toks := s.toks + 1 }) KF.slot_mset X I hp ht hT ?_)
  obtain ⟨n, tn, owner, behind, tb, d, sl', cd, ho, hc, hm, hb, rfl⟩ := slot_of X hi
  have hx := I.at_
  have D' := Heap.get?_update_self (fun o => { o with slots := (o.slots ++ Array.replicate (cd.slotNames.length - 1 - behind.toNat + 1 - o.slots.size) none).setIfInBounds (cd.slotNames.length - 1 - behind.toNat) (some v) }) hx rfl
  have h := h _ D' (Heap.SameBut.update ..)
  obtain ⟨hh, g, dr, t, os⟩ := s
  have L0 := I.type (M := model prog w)
  have L1 := looks_mroIn (M := model prog w) X hm
  have L2 : Looks (model prog w) hh (Slots.slotNamesOf (.ref C)) cd.slotNames := (looks_clsIn X hc).andThen .now
  dsimp only at ho hx L0 L1 h
  have f0 := looks_field (M := model prog w) ho 0 (v := .str n tn) rfl
  have f1 := looks_field (M := model prog w) ho 1 (v := owner) rfl
  have f3 := looks_field (M := model prog w) ho 3 (v := .builtin "proto.slot#set") rfl
  have f4 := looks_field (M := model prog w) ho 4 (v := .int behind tb) rfl
  refine codeAny_call_builtin KF.slot_mset.plain KF.entry_mset (KF.slot_mset.check _ _ _ _ _ _ _ _ ⟨_, ho, rfl⟩ (KF.args_mset _ _ _) ?_)
  unfold Builtin.«member_descriptor.__set__» descrSet descrStoreThrough descrCheckInstance descrNameAndClass isInstance
  have f5 : Looks (model prog w) hh (descrItself (.ref p)) [.ref p] := ((Looks.ld (part := none) ho).andThen .now).andThen (Looks.of_pure (by kernel_rfl))
  repeat lk
  refine ⟨Code.quiet_builtin _ (by decide +kernel), codeAny_builtin KF.entry_slotset ?_⟩
  unfold Builtin.«proto.slot#set» Slots.target
  repeat lk
  rw [if_neg hb]
  refine wpAny_pure (wpAny_bind ?_)
  unfold setSlotAt
  dsimp only
  rw [if_neg (by rw [sizeLine_eq]; omega)]
  exact wpAny_updatePart hx (wpAny_pure h)
end

noncomputable def dictStore (K : Frag) (Cl : Addr) (name : Str) : Bool := findIn K (.ref Cl) "__setattr__" == some (some (.builtin "object.__setattr__")) && plainOver K Cl && takerIn K Cl name == some none && hasDictIn K Cl
noncomputable def slotStore (K : Frag) (Cl : Addr) (name : Str) : Option Nat :=
  if findIn K (.ref Cl) "__setattr__" == some (some (.builtin "object.__setattr__")) && plainOver K Cl then (match takerIn K Cl name with
    | some (some (.ref p)) => if typeIn K (.ref p) == some (.type "member_descriptor") then slotIn K p Cl else none
    | _ => none) else none

noncomputable def putA (name : Str) (v : AV) : List (Str × AV) → List (Str × AV)
  | [] => [(name, v)]
  | (x, a) :: r => if x == name then (x, v) :: r else (x, a) :: putA name v r
noncomputable def putS (i : Nat) (v : AV) (vs : List (Option AV)) : List (Option AV) := (vs ++ List.replicate (i + 1 - vs.length) none).set i (some v)
theorem AttrsR.length {W : Wd} {fs : List (Str × AV)} {es : List DictEntry} (h : AttrsR W fs es) : fs.length = es.length := by
  induction h with
  | nil => rfl
  | cons _ _ ih => simp [ih]
theorem AttrsR.noRef {W : Wd} {fs : List (Str × AV)} {es : List DictEntry} (h : AttrsR W fs es) : es.any (fun x => x.refKey) = false := by
  induction h with
  | nil => rfl
  | cons h _ ih =>
    obtain ⟨⟨t, ht⟩, _⟩ := h
    rw [List.any_cons, ih, Bool.or_false]
    unfold DictEntry.refKey
    rw [ht]
theorem AttrsR.put {W : Wd} {fs : List (Str × AV)} {es : List DictEntry} (h : AttrsR W fs es) {name : Str} {hsh : Int} {t : Tok} {a : AV} {v : Value} (hv : VR W a v) : AttrsR W (putA name a fs) (putL name hsh (.str name t) v es) := by
  induction h with
  | nil => exact .cons ⟨⟨t, rfl⟩, hv⟩ .nil
  | cons h hr ih =>
    rename_i f en fs' es'
    obtain ⟨y, b⟩ := f
    obtain ⟨⟨u, hu⟩, hb⟩ := h
    unfold putA putL
    have e : en.key.isStr name = (y == name) := by rw [hu]; rfl
    rw [e]
    cases y == name with
    | true => exact .cons ⟨⟨u, hu⟩, hv⟩ hr
    | false => exact .cons ⟨⟨u, hu⟩, hb⟩ ih
theorem SlotsR.length {W : Wd} {as : List (Option AV)} {vs : List (Option Value)} (h : SlotsR W as vs) : as.length = vs.length := by
  induction h with
  | nil => rfl
  | cons _ _ ih => simp [ih]
theorem SlotsR.grow {W : Wd} {as : List (Option AV)} {vs : List (Option Value)} (h : SlotsR W as vs) (k : Nat) : SlotsR W (as ++ List.replicate k none) (vs ++ List.replicate k none) := by
  induction h with
  | nil =>
    induction k with
    | zero => exact .nil
    | succ k ih => exact .cons trivial ih
  | cons h _ ih => exact .cons h ih
theorem SlotsR.set {W : Wd} {as : List (Option AV)} {vs : List (Option Value)} (h : SlotsR W as vs) (i : Nat) {a : AV} {v : Value} (hv : VR W a v) : SlotsR W (as.set i (some a)) (vs.set i (some v)) := by
  induction h generalizing i with
  | nil => exact .nil
  | cons h hr ih =>
    cases i with
    | zero => exact .cons hv hr
    | succ i => exact .cons h (ih i)
end Mine
set_option Elab.async false
set_option maxRecDepth 100000
namespace Mine
open PySem PyProof.Rows PySem.W PySem.SeqAt

section
variable {C : Cx} {n : Nat} {Γ : SCx} {env : Env} {W : Wd} {A : Around} {s : Shared} {st : St}

noncomputable abbrev Tab := List ((Addr × Str) × Option Nat)
noncomputable def entryOk (K : Frag) (Cl : Addr) (name : Str) : Option Nat → Bool
  | none => dictAttr K Cl name && dictStore K Cl name
  | some j => slotAttr K Cl name == some j && slotStore K Cl name == some j
noncomputable def tabOk (K : Frag) (T : Tab) : Bool := T.all fun e => entryOk K e.1.1 e.1.2 e.2
theorem tab_at {K : Frag} {T : Tab} (h : tabOk K T = true) {Cl : Addr} {name : Str} {o : Option Nat} (e : T.lookup (Cl, name) = some o) : entryOk K Cl name o = true := List.all_eq_true.mp h _ (lookup_mem e)
noncomputable def attrsAt (σ : List AO) (d : Nat) : Option (List (Str × AV)) := match σ[d]? with
  | some (.attrs fs) => some fs
  | _ => none
theorem attrsAt_of {σ : List AO} {d : Nat} {fs : List (Str × AV)} (h : σ[d]? = some (.attrs fs)) : attrsAt σ d = some fs := by unfold attrsAt; rw [h]
theorem attrsAt_iff {σ : List AO} {d : Nat} {fs : List (Str × AV)} (e : attrsAt σ d = some fs) : σ[d]? = some (.attrs fs) := by
  unfold attrsAt at e
  cases h : σ[d]? with
  | none => rw [h] at e; cases e
  | some o =>
    rw [h] at e
    cases o <;> cases e
    rfl
noncomputable def objAttr (σ : List AO) (T : Tab) (name : Str) : AO → Option AV
  | .inst Cl d => if T.lookup (Cl, name) = some none then (attrsAt σ d).bind fun fs => fs.lookup name else none
  | .slots Cl vs => (T.lookup (Cl, name)).join.bind fun j => (vs[j]?).join
  | _ => none
noncomputable def attrK (T : Tab) (name : Str) (a : AV) : K AV := fun st => a.oid.bind fun i => (st.σ[i]?).bind fun o => (objAttr st.σ T name o).bind fun v => if noVal v = true then some (v, st) else none
theorem join_some {α : Type} {x : Option (Option α)} {a : α} (h : x.join = some a) : x = some (some a) := by
  cases x with
  | none => cases h
  | some x => exact congrArg some h
theorem slotAttrE {KK : Frag} {Cl : Addr} {name : Str} {j : Nat} {G : Prop} (e : slotAttr KK Cl name = some j) (k : ∀ p, plainGet KK Cl name = true → isClsIn KK Cl = true → findIn KK (.ref Cl) name = some (some (.ref p)) → specialIn KK (.ref p) "__get__" = some (some (.builtin "member_descriptor.__get__")) → takesIn KK (.ref p) = some true → slotIn KK p Cl = some j → G) : G := by
  unfold slotAttr at e
  split at e
  · rename_i hg
    rw [Bool.and_eq_true] at hg
    split at e
    · rename_i p hp
      split at e
      · rename_i hs
        rw [Bool.and_eq_true, beq_iff_eq, beq_iff_eq] at hs
        exact k p hg.1 hg.2 hp hs.1 hs.2 e
      · cases e
    · cases e
  · cases e
theorem attrK_sound {T : Tab} {name : Str} {a : AV} {v : Value} {expr : Bool} (hT : tabOk C.K T = true) (I : Inv C Γ env W st s.heap) (ha : VR W a v) : Run C Γ env W A s (getAttr v name expr) (attrK T name a st) VR :=
  .obind fun i hi => .obind fun o ho => .obind fun u hu => .ite fun hn => VR.objE (P := fun v => Run C Γ env W A s (getAttr v name expr) (some (u, st)) VR) ha hi fun x hx => by
    have hob := I.rel.objs _ _ _ ho hx
    clear ho
    cases o with
    | inst Cl d =>
      refine ite_none hu fun hl hu => bindE hu fun fs hfs hu => ?_
      have h0 := tab_at hT hl
      obtain ⟨ad, hd, hx⟩ := hob
      obtain ⟨es, m, hdx, hr⟩ := I.rel.objs _ _ _ (attrsAt_iff hfs) hd
      have h0 := (Bool.and_eq_true _ _ ▸ h0).1
      unfold dictAttr at h0
      rw [Bool.and_eq_true, Bool.and_eq_true] at h0
      refine Exists.elim (hr.get hu) fun w hw => ?_
      have h3 := h0.2
      split at h3
      · rename_i attr hat
        have J : InstAt s.heap x ⟨.ref Cl, some ad, .plain, #[]⟩ Cl (some (dictOf es m)) := ⟨hx, rfl, rfl, hdx⟩
        exact .mk1 fun Q E hq => get_value I.rel.kin J (plainGet_of h0.1.1).1 (findObj_own h0.1.2 hat h3 hw.1) (handed_of hw.2 (noVal_of hn)) (hq.at I _ hw.2)
      · cases h3
    | slots Cl vs =>
      refine bindE hu fun j hj hu => ?_
      have h0 := tab_at hT (join_some hj)
      obtain ⟨sl, ad, hx, hsl, had⟩ := hob
      refine Exists.elim (hsl.get (join_some hu)) fun w hw => slotAttrE (beq_iff_eq.mp (Bool.and_eq_true _ _ ▸ h0).1) fun p h1 h2 h3 h4 h5 h6 => .mk1 fun Q E hq => ?_
      have J : InstAt s.heap x ⟨.ref Cl, some ad, .plain, sl⟩ Cl (some emptyDict) := ⟨hx, rfl, rfl, I.rel.imm _ had⟩
      have hf : findObj C.K Cl (some emptyDict) name = some (.bind (.builtin "member_descriptor.__get__") (.ref p)) := by
        refine Exists.elim (Option.isSome_iff_exists.mp (show (clsIn C.K Cl).isSome = true from h2)) fun cd hc => ?_
        unfold findObj
        rw [hc, Option.bind_some, h3, Option.bind_some]
        simp [h4, h5]
      refine get_bind I.rel.kin J (plainGet_of h1).1 hf (plainGet_of h1).2 (wpAny_call (slot_get (s := { s with toks := s.toks + 1 }) I.rel.kin J h6 (v := w) ?_ (handed_on (handed_of hw.2 (noVal_of hn)) (hq.at I _ hw.2))))
      have : sl[j]? = some (some w) := Array.getElem?_toList ▸ hw.1
      rw [this]; rfl
    | _ => exact nomatch hu

noncomputable def objStore (σ : List AO) (T : Tab) (name : Str) (v : AV) (i : Nat) : AO → Option (Nat × AO)
  | .inst Cl d => if T.lookup (Cl, name) = some none then (attrsAt σ d).bind fun fs => if fs.length < 900 then some (d, .attrs (putA name v fs)) else none else none
  | .slots Cl vs => (T.lookup (Cl, name)).join.bind fun j => if j < 900 then some (i, .slots Cl (putS j v vs)) else none
  | _ => none
noncomputable def setAttrK (T : Tab) (name : Str) (a v : AV) : K Unit := fun st => a.oid.bind fun i => (st.σ[i]?).bind fun o => (objStore st.σ T name v i o).map fun p => ((), ⟨st.θ, st.σ.set p.1 p.2⟩)
theorem slotStoreE {KK : Frag} {Cl : Addr} {name : Str} {j : Nat} {G : Prop} (e : slotStore KK Cl name = some j) (k : ∀ p, findIn KK (.ref Cl) "__setattr__" = some (some (.builtin "object.__setattr__")) → plainOver KK Cl = true → takerIn KK Cl name = some (some (.ref p)) → typeIn KK (.ref p) = some (.type "member_descriptor") → slotIn KK p Cl = some j → G) : G := by
  unfold slotStore at e
  split at e
  · rename_i hg
    rw [Bool.and_eq_true, beq_iff_eq] at hg
    split at e
    · rename_i p hp
      split at e
      · rename_i hT
        exact k p hg.1 hg.2 hp (beq_iff_eq.mp hT) e
      · cases e
    · cases e
  · cases e
theorem setAttrK_sound {T : Tab} {name : Str} {a b : AV} {v u : Value} (hT : tabOk C.K T = true) (I : Inv C Γ env W st s.heap) (ha : VR W a v) (hb : VR W b u) : Run C Γ env W A s (setAttr v name u) (setAttrK T name a b st) fun u1 u2 u3 => True :=
  .obind fun i hi => .obind fun o ho => .omap fun q hq0 => VR.objE (P := fun v => Run C Γ env W A s (setAttr v name u) (some ((), ⟨st.θ, st.σ.set q.1 q.2⟩)) fun u1 u2 u3 => True) ha hi fun x hx => by
    have hob := I.rel.objs _ _ _ ho hx
    clear ho
    cases o with
    | inst Cl d =>
      refine ite_none hq0 fun hl hq0 => bindE hq0 fun fs hfs hq0 => ite_some hq0 fun hlen => ?_
      have h0 := (Bool.and_eq_true _ _ ▸ tab_at hT hl).2
      unfold dictStore at h0
      rw [Bool.and_eq_true, Bool.and_eq_true, Bool.and_eq_true, beq_iff_eq, beq_iff_eq] at h0
      obtain ⟨ad, hd, hx⟩ := hob
      obtain ⟨es, m, hdx, hr⟩ := I.rel.objs _ _ _ (attrsAt_iff hfs) hd
      have J : InstAt s.heap x ⟨.ref Cl, some ad, .plain, #[]⟩ Cl (some (dictOf es m)) := ⟨hx, rfl, rfl, hdx⟩
      have hg : (getL name es).isSome = true := by
        unfold getL
        split
        · rfl
        · rw [hr.noRef]; rfl
      exact .mk1 fun Q E hq => set_in_dict I.rel.kin J h0.1.1.1 h0.1.1.2 h0.1.2 h0.2 hg (hr.length ▸ hlen) fun h' hd' hs' => hq.upd I hd hs' ⟨_, _, hd', hr.put hb⟩ _ trivial
    | slots Cl vs =>
      refine bindE hq0 fun j hj hq0 => ite_some hq0 fun hlt => ?_
      have h0 := tab_at hT (join_some hj)
      obtain ⟨sl, ad, hx', hsl, had⟩ := hob
      refine slotStoreE (beq_iff_eq.mp (Bool.and_eq_true _ _ ▸ h0).2) fun p h1 h2 h3 h4 h5 => .mk1 fun Q E hq => ?_
      have J : InstAt s.heap x ⟨.ref Cl, some ad, .plain, sl⟩ Cl (some emptyDict) := ⟨hx', rfl, rfl, I.rel.imm _ had⟩
      refine set_in_slot I.rel.kin J h1 h2 h3 h4 h5 hlt fun h' hx' hs' => hq.upd I hx hs' ⟨_, ad, hx', ?_, had⟩ _ trivial
      unfold putS
      rw [Array.toList_setIfInBounds, Array.toList_append, Array.toList_replicate, hsl.length]
      exact (hsl.grow _).set j hb
    | _ => exact nomatch hq0

theorem Ev.attr {T : Tab} {o : Expr} {name : Str} {pos : Pos} {f : K AV} (hT : tabOk C.K T = true) (h : Ev C n Γ o f) (hsup : isSuper o = false) : Ev C n Γ (.Attribute o name pos) (K.bind f fun a => attrK T name a) :=
  ⟨fun A env W st s ok I => .stepE (S := fun va Q E s₁ => wpAny (model C.prog C.w) A (getAttr va name true) Q E s₁) (fun Q E h => Attribute_any_ h (by rw [arm_eval_Attribute, attributeBase_plain hsup])) (h.run A env W st s ok I) fun a st₁ va W1 h1 tk1 I1 v1 => attrK_sound hT I1 v1⟩
theorem As.attr {T : Tab} {o : Expr} {name : Str} {pos : Pos} {f : K AV} (hT : tabOk C.K T = true) (h : Ev C n Γ o f) : As C n Γ (.Attribute o name pos) (fun x => K.bind f fun a => setAttrK T name a x) := by
  refine ⟨fun A env W st s x vx ok I hx r st' e Q E hq => K.bindE e fun a st₁ e1 e2 => ?_⟩
  rw [arm_assign_Attribute]
  refine wpAny_bind (wpAny_holding (h.run A env W st s ok I _ _ e1 _ _ fun va W1 h1 tk1 I1 k1 v1 => ?_))
  refine wpAny_bind (wpAny_standAt (wpAny_bind (wpAny_holding ?_)))
  exact setAttrK_sound (s := { s with heap := h1, toks := tk1 }) hT I1 v1 (hx.mono k1.le) _ _ e2 _ _ fun u W3 h3 tk3 I3 k3 u1 => wpAny_release (hq () W3 h3 tk3 I3 (k1.trans k3) trivial)
theorem Ex.assign1 {t value : Expr} {pos : Pos} {f : K AV} {g : AV → K Unit} (h : Ev C n Γ value f) (ht : As C n Γ t g) (hs : ∀ env, swapsWithSole [t] value pos.line env = pure false) (hw : ∀ env, swappedStores [t] value env = pure none) (he : ∀ env, (assignEach [t] env).map (fun x => x.2) = [PySem.assign t env]) :
    Ex C n Γ (.Assign [t] value pos) (K.bind f fun x => K.bind (g x) fun u1 => K.ret .next) :=
  ⟨fun A env W st s ok I => .stepE (S := fun vx Q E s₁ => wpAny (model C.prog C.w) A (PySem.assign t env vx) (fun u1 s₂ => Q .next s₂) E s₁) (fun Q E h => wpAny_Assign_stores (by rw [he env]; exact h) (hs env) (hw env)) (h.run A env W st s ok I) fun x st₁ vx W1 h1 tk1 I1 v1 =>
    Run.finE (k := fun u1 => Flow.next) (R' := FR) (ht.run A env W1 st₁ _ x vx ok I1 v1) fun u1 u2 u3 u4 => .next⟩
theorem Ex.assign2 {t t' value : Expr} {pos : Pos} {f : K AV} {g k : AV → K Unit} (h : Ev C n Γ value f) (ht : As C n Γ t g) (ht' : As C n Γ t' k) (hw : ∀ env, swappedStores [t, t'] value env = pure none) (he : ∀ env, (assignEach [t, t'] env).map (fun x => x.2) = [PySem.assign t env, PySem.assign t' env]) :
    Ex C n Γ (.Assign [t, t'] value pos) (K.bind f fun x => K.bind (g x) fun u1 => K.bind (k x) fun u1 => K.ret .next) := by
  refine ⟨fun A env W st s ok I v st' e Q E hq => K.bindE e fun x st₁ e1 e => K.bindE e fun u1 st₂ e2 e => ?_⟩
  refine wpAny_Assign_two (h.run A env W st s ok I _ _ e1 _ _ fun vx W1 h1 tk1 I1 k1 v1 => ?_) (he env) (hw env)
  refine ht.run A env W1 st₁ { s with heap := h1, toks := tk1 } x vx ok I1 v1 _ _ e2 _ _ fun u W2 h2 tk2 I2 k2 u1 => ?_
  exact Run.finE (k := fun u1 => Flow.next) (R' := FR) (s := { s with heap := h2, toks := tk2 }) (ht'.run A env W2 st₂ { s with heap := h2, toks := tk2 } x vx ok I2 (v1.mono k2.le)) (fun u1 u2 u3 u4 => .next) _ _ e Q E fun c W3 h3 tk3 I3 k3 r => hq c W3 h3 tk3 I3 (k1.trans (k2.trans k3)) r
theorem Ev.walrus {t value : Expr} {pos : Pos} {f : K AV} {g : AV → K Unit} (h : Ev C n Γ value f) (ht : As C n Γ t g) : Ev C n Γ (.NamedExpr t value pos) (K.bind f fun x => K.bind (g x) fun u1 => K.ret x) := by
  refine ⟨fun A env W st s ok I v st' e Q E hq => K.bindE e fun x st₁ e1 e => K.bindE e fun u1 st₂ e2 e => ?_⟩
  cases e
  refine wpAny_NamedExpr (h.run A env W st s ok I _ _ e1 _ _ fun vx W1 h1 tk1 I1 k1 v1 => ?_)
  exact ht.run A env W1 st₁ { s with heap := h1, toks := tk1 } _ vx ok I1 v1 _ _ e2 _ _ fun u W2 h2 tk2 I2 k2 u1 => hq _ W2 h2 tk2 I2 (k1.trans k2) (v1.mono k2.le)
end
end Mine
set_option Elab.async false
set_option maxRecDepth 100000
namespace Mine
open PySem PyProof.Rows PySem.W PySem.SeqAt

section
variable {C : Cx} {n : Nat} {Γ : SCx} {env : Env} {W : Wd} {A : Around} {s : Shared} {st : St}
noncomputable def augI (op : Operator) (x y : Int) : Option Int := match op with
  | .Add => some (x + y)
  | .Sub => some (x - y)
  | _ => none
noncomputable def augK (op : Operator) (a b : AV) : K AV := fun st => a.int?.bind fun x => b.int?.bind fun y => (augI op x y).map fun z => (.int z, st)
theorem augI_sound {op : Operator} {x y z : Int} {t u : Tok} {s : Shared} {Q E : Value → Shared → Prop} (e : augI op x y = some z) (hq : ∀ tk w, Q (.int z w) { s with toks := tk }) : wpAny (model C.prog C.w) A (inplaceOp op (.int x t) (.int y u)) Q E s := by
  revert hq
  cases op with
  | Add => exact some_of e fun hq => P.iadd_int (hq _ _)
  | Sub => exact some_of e fun hq => P.isub_int (hq _ _)
  | _ => exact nomatch e
theorem augK_sound {op : Operator} {a b : AV} {va vb : Value} (I : Inv C Γ env W st s.heap) (ha : VR W a va) (hb : VR W b vb) : Run C Γ env W A s (inplaceOp op va vb) (augK op a b st) VR :=
  .obind fun x hx => .obind fun y hy => .omap fun z hz => ha.intE (P := fun va => Run C Γ env W A s (inplaceOp op va vb) _ VR) hx fun t => hb.intE (P := fun vb => Run C Γ env W A s (inplaceOp op _ vb) _ VR) hy fun u =>
    .mk1 fun Q E hq => augI_sound hz fun tk w => hq.at I tk (.int z w)
theorem Ex.augName {x : Str} {i : Nat} {pos' pos : Pos} {op : Operator} {value : Expr} {f : K AV} (h : Ev C n Γ value f) (hx : Γ.tab.lookup x = some (.local, i)) :
    Ex C n Γ (.AugAssign (.Name x pos') op value pos) (K.bind (getv i) fun a => K.bind f fun b => K.bind (augK op a b) fun r => K.bind (setv i r) fun u1 => K.ret .next) := by
  refine ⟨fun A env W st s ok I v st' e Q E hq => K.bindE e fun a st₁ e1 f1 => K.bindE f1 fun b st₂ e2 f2 => K.bindE f2 fun r st₃ e3 f3 => ?_⟩
  clear e f1 f2
  obtain ⟨e1, rfl⟩ := getv_iff.mp e1
  refine Exists.elim I.loc.loc fun m hm => Exists.elim (hm.2 x i a hx e1) fun w hw => ?_
  refine wpAny_AugAssign_Name (wpAny_loadName_local I.loc.kind (by rw [I.loc.names, hx]; rfl) hm.1 hw.1 ?_)
  refine h.run A env W st₁ s ok I _ _ e2 _ _ fun vb W1 h1 tk1 I1 k1 v1 => ?_
  refine augK_sound (s := { s with heap := h1, toks := tk1 }) I1 (hw.2.mono k1.le) v1 _ _ e3 _ _ fun vr W2 h2 tk2 I2 k2 v2 => ?_
  exact Run.finE (k := fun u1 => Flow.next) (R' := FR) (s := { s with heap := h2, toks := tk2 }) (store_loc (s := { s with heap := h2, toks := tk2 }) hx I2 v2) (fun u1 u2 u3 u4 => .next) _ _ f3 Q E fun c W3 h3 tk3 I3 k3 r => hq c W3 h3 tk3 I3 (k1.trans (k2.trans k3)) r
theorem Ex.augAttr {T : Tab} {o : Expr} {name : Str} {pos' pos : Pos} {op : Operator} {value : Expr} {f g : K AV} (hT : tabOk C.K T = true) (ho : Ev C n Γ o f) (h : Ev C n Γ value g) :
    Ex C n Γ (.AugAssign (.Attribute o name pos') op value pos) (K.bind f fun a => K.bind (attrK T name a) fun old => K.bind g fun b => K.bind (augK op old b) fun r => K.bind (setAttrK T name a r) fun u1 => K.ret .next) := by
  refine ⟨fun A env W st s ok I v st' e Q E hq => K.bindE e fun a st₁ e1 e => K.bindE e fun old st₂ e2 e => K.bindE e fun b st₃ e3 e => K.bindE e fun r st₄ e4 e => ?_⟩
  refine wpAny_AugAssign_AttributeAny (ho.run A env W st s ok I _ _ e1 _ _ fun va W1 h1 tk1 I1 k1 v1 => ?_)
  refine attrK_sound (s := { s with heap := h1, toks := tk1 }) hT I1 v1 _ _ e2 _ _ fun vo W2 h2 tk2 I2 k2 v2 => ?_
  refine h.run A env W2 st₂ { s with heap := h2, toks := tk2 } ok I2 _ _ e3 _ _ fun vb W3 h3 tk3 I3 k3 v3 => ?_
  refine augK_sound (s := { s with heap := h3, toks := tk3 }) I3 (v2.mono k3.le) v3 _ _ e4 _ _ fun vr W4 h4 tk4 I4 k4 v4 => ?_
  have va := v1.mono (k2.le.trans (k3.le.trans k4.le))
  have kk := k1.trans (k2.trans (k3.trans k4))
  clear k1 k2 k3 k4 v1 v2 v3 I1 I2 I3 e1 e2 e3 e4
  exact Run.finE (k := fun u1 => Flow.next) (R' := FR) (s := { s with heap := h4, toks := tk4 }) (setAttrK_sound (s := { s with heap := h4, toks := tk4 }) hT I4 va v4) (fun u1 u2 u3 u4 => .next) _ _ e Q E fun c W3 h3 tk3 I3 k3 r => hq c W3 h3 tk3 I3 (kk.trans k3) r

structure Ass (C : Cx) (n : Nat) (Γ : SCx) (ts : List Expr) (f : List AV → K Unit) : Prop where
  len : ∀ env, (assignEach ts env).length = ts.length ∧ (assignEach ts env).findIdx? (fun x => x.1) = none
  fits : ∀ vs st r, f vs st = some r → vs.length = ts.length
  run : ∀ A env W st s as vs, AOk C n A → Inv C Γ env W st s.heap → VRs W as vs → Run C Γ env W A s (assignInOrder ((assignEach ts env).map (fun x => x.2)) vs) (f as st) fun u1 u2 u3 => True
noncomputable def ass0 : List AV → K Unit
  | [] => K.ret ()
  | _ :: _ => K.fail
noncomputable def ass1 (f : AV → K Unit) (g : List AV → K Unit) : List AV → K Unit
  | v :: r => K.bind (f v) fun u1 => g r
  | [] => K.fail
theorem Ass.nil : Ass C n Γ [] ass0 := by
  refine ⟨fun env => ⟨rfl, rfl⟩, fun vs st r e => ?_, fun A env W st s as vs ok I hv => ?_⟩
  · cases vs with
    | nil => rfl
    | cons _ _ => cases e
  · cases as with
    | nil => exact hv.nilE (.now I s.toks trivial fun Q E h => wpAny_pure h)
    | cons _ _ => exact .stuck
theorem Ass.cons {t : Expr} {ts : List Expr} {f : AV → K Unit} {g : List AV → K Unit} (h : As C n Γ t f) (hr : Ass C n Γ ts g) (he : ∀ env, assignEach (t :: ts) env = (false, PySem.assign t env) :: assignEach ts env) :
    Ass C n Γ (t :: ts) (ass1 f g) := by
  refine ⟨fun env => ?_, fun vs st r e => ?_, fun A env W st s as vs ok I hv => ?_⟩
  · rw [he env, List.length_cons, (hr.len env).1, List.findIdx?_cons, (hr.len env).2]
    exact ⟨rfl, rfl⟩
  · cases vs with
    | nil => cases e
    | cons v vs => exact K.bindE (b := r.1) (st' := r.2) e fun u1 st₁ u2 e2 => congrArg Nat.succ (hr.fits _ _ _ e2)
  · rw [he env]
    cases as with
    | nil => exact .stuck
    | cons a as => exact hv.consE fun v vs h1 h2 r st' e Q E hq => K.bindE e fun u1 st₁ e1 e2 => wpAny_assignInOrder_more (h.run A env W st s _ _ ok I h1 _ _ e1 _ _ fun u1 W1 h1' tk1 I1 k1 u2 =>
        hr.run A env W1 st₁ { s with heap := h1', toks := tk1 } _ _ ok I1 (h2.mono k1.le) _ _ e2 _ _ fun u1 W2 h2' tk2 I2 k2 u2 => hq r W2 h2' tk2 I2 (k1.trans k2) trivial)
noncomputable def untupK (f : List AV → K Unit) (a : AV) : K Unit := fun st => a.tup?.bind fun vs => f vs st
theorem As.tuple {ts : List Expr} {k : Nat} {pos : Pos} {f : List AV → K Unit} (h : Ass C n Γ ts f) (hcalm : C.calm = true) : As C n Γ (.Tuple ts k pos) (untupK f) := by
  refine ⟨fun A env W st s a v ok I hv => .obind fun vs hvs => tupE I.rel hv hvs fun l items m hl hr hlen r st' e Q E hq => ?_⟩
  refine wpAny_assign_Tuple (ok.handled hcalm) (isTup_of hl) (((h.len env).1.trans (h.fits _ _ _ e).symm).trans hlen) (h.len env).2 fun h' hx => ?_
  have x := ItOk.new I
  have hk : ∀ b o, b ≠ s.heap.objs.size → s.heap.get? b = some o → h'.get? b = some o := fun b o nb e => hx b o nb e
  exact h.run A env W st { s with heap := h' } _ _ ok (I.but x hk) hr _ _ e _ _ fun u1 W2 h2 tk2 I2 k2 u2 => hq () W2 h2 tk2 I2 (((Keep.refl W (priv Γ env) s.heap).ext x.none hk).trans k2) trivial
theorem Ex.fail {x : Stmt} : Ex C n Γ x K.fail := ⟨fun u1 u2 u3 u4 u5 u6 u7 u8 u9 e => nomatch e⟩
theorem Ev.fail {x : Expr} : Ev C n Γ x K.fail := ⟨fun u1 u2 u3 u4 u5 u6 u7 u8 u9 e => nomatch e⟩
end
end Mine
set_option Elab.async false
set_option maxRecDepth 100000
namespace Mine
open PySem PyProof.Rows PySem.W PySem.SeqAt

section
variable {C : Cx} {n : Nat}
theorem AOk.under {A : Around} (ok : AOk C (n + 1) A) (Cl : Addr) (vals : List Value) (kw : List (Str × Value)) : AOk C n (A.under (.builtin "type.__call__" ⟨.ref Cl :: vals, kw⟩)) :=
  ⟨ok.handled, ok.frames, by have := ok.depth; show A.depth + 1 + n < _; omega, by have := ok.units; show A.units + 1 + 32 * n + 96 < _; omega⟩

noncomputable def makeF (Cl : Addr) (F : List AV → List (Str × AV) → List AO → Option (AV × List AO)) (args : List AV) (kws : List (Str × AV)) (σ : List AO) : Option (AV × List AO) :=
  match F (.obj (σ.length + 1) :: args) kws (σ ++ [.attrs [], .inst Cl σ.length]) with
  | some (.none, σ') => some (.obj (σ.length + 1), σ')
  | _ => none
theorem FnK.cls {Cl fI : Addr} {F} (hm : makesIn C.K Cl = true) (hi : findIn C.K (.ref Cl) "__init__" = some (some (.ref fI))) (hf : typeIn C.K (.ref fI) = some (.type "function")) (hF : FnK C n (.ref fI) F) : FnK C (n + 1) (.ref Cl) (makeF Cl F) := by
  intro A W σ s args kws vs kvs ok R hv hkv r σ' e RR hq
  unfold makeF at e
  split at e
  · rename_i σ'' e1
    cases e
    obtain ⟨hh, g, d, t, os⟩ := s
    have X := R.kin
    refine make_core (makes_of X hm) (looks_findIn X hi) (fun self => bind_fn X self hf) (.inl rfl) ?_
    obtain ⟨R1, k1⟩ := R.pushObj emptyDict (.attrs []) ⟨[], 0, Heap.get?_push_size _ rfl, .nil⟩
    dsimp only at R1 k1
    obtain ⟨R2, k2⟩ := R1.pushObj (instObj Cl hh.objs.size) (.inst Cl σ.length) ⟨hh.objs.size, by
      dsimp only
      rw [← R.len]; simp, Heap.get?_push_size _ rfl⟩
    rw [Heap.size_push] at R2 k2
    dsimp only at R2 k2
    have hx : (W.φ ++ [hh.objs.size] ++ [hh.objs.size + 1])[σ.length + 1]? = some (hh.objs.size + 1) := by rw [← R.len]; simp
    refine hF _ _ _ ⟨_, g, d, t, os⟩ (.obj (σ.length + 1) :: args) kws _ kvs (ok.under Cl vs kvs) R2 (.cons (.obj hx) (hv.mono (k1.le.trans k2.le))) (hkv.mono (k1.le.trans k2.le)) .none _ (by simpa using e1) _ fun v W' h' tk R' k' v' => ?_
    cases v'
    exact ⟨rfl, hq _ W' h' tk R' (k1.trans (k2.trans k')) (.obj (k'.le.at hx))⟩
  · cases e
noncomputable def makeS (Cl : Addr) (F : List AV → List (Str × AV) → List AO → Option (AV × List AO)) (args : List AV) (kws : List (Str × AV)) (σ : List AO) : Option (AV × List AO) :=
  match F (.obj σ.length :: args) kws (σ ++ [.slots Cl []]) with
  | some (.none, σ') => some (.obj σ.length, σ')
  | _ => none
theorem FnK.clsS {Cl fI : Addr} {F} (hm : makesIn C.K Cl = true) (hi : findIn C.K (.ref Cl) "__init__" = some (some (.ref fI))) (hf : typeIn C.K (.ref fI) = some (.type "function")) (hF : FnK C n (.ref fI) F) : FnK C (n + 1) (.ref Cl) (makeS Cl F) := by
  intro A W σ s args kws vs kvs ok R hv hkv r σ' e RR hq
  unfold makeS at e
  split at e
  · rename_i σ'' e1
    cases e
    obtain ⟨hh, g, d, t, os⟩ := s
    have X := R.kin
    refine make_core (makes_of X hm) (looks_findIn X hi) (fun self => bind_fn X self hf) (.inl rfl) ?_
    obtain ⟨R1, k1⟩ := R.pushImm emptyDict rfl
    dsimp only at R1 k1
    obtain ⟨R2, k2⟩ := R1.pushObj (instObj Cl hh.objs.size) (.slots Cl []) ⟨#[], hh.objs.size, Heap.get?_push_size _ rfl, .nil, List.mem_cons_self⟩
    rw [Heap.size_push] at R2 k2
    dsimp only at R2 k2
    have hx : (W.φ ++ [hh.objs.size + 1])[σ.length]? = some (hh.objs.size + 1) := by rw [← R.len]; simp
    refine hF _ _ _ ⟨_, g, d, t, os⟩ (.obj σ.length :: args) kws _ kvs (ok.under Cl vs kvs) R2 (.cons (.obj hx) (hv.mono (k1.le.trans k2.le))) (hkv.mono (k1.le.trans k2.le)) .none _ e1 _ fun v W' h' tk R' k' v' => ?_
    cases v'
    exact ⟨rfl, hq _ W' h' tk R' (k1.trans (k2.trans k')) (.obj (k'.le.at hx))⟩
  · cases e
end
end Mine
set_option Elab.async false
set_option maxRecDepth 100000
namespace Mine
open PySem PyProof.Rows PySem.W PySem.SeqAt

section
variable {C : Cx} {n : Nat} {Γ : SCx} {env : Env} {W : Wd} {A : Around} {s : Shared} {st : St}

theorem AttrsR.getNone {W : Wd} {fs : List (Str × AV)} {es : List DictEntry} (h : AttrsR W fs es) {name : Str} (e : fs.lookup name = none) : getL name es = some none := by
  have : es.find? (·.key.isStr name) = none := by
    induction h with
    | nil => rfl
    | @cons f e' fs es h _ ih =>
      obtain ⟨x, a⟩ := f
      obtain ⟨⟨t, hk⟩, _⟩ := h
      rw [List.lookup_cons] at e
      rw [List.find?_cons, isStr_key (name := name) hk]
      by_cases hb : x = name
      · rw [beq_iff_eq.mpr hb.symm] at e; cases e
      · rw [beq_eq_false_iff_ne.mpr (Ne.symm hb)] at e
        rw [beq_eq_false_iff_ne.mpr hb]
        exact ih e
  unfold getL
  rw [this]; dsimp only
  rw [h.noRef]; rfl

noncomputable def isInst (Cl : Addr) (name : Str) (a : AV) (st : St) : Prop := ∃ i d fs, a = .obj i ∧ st.σ[i]? = some (.inst Cl d) ∧ st.σ[d]? = some (.attrs fs) ∧ fs.lookup name = none
noncomputable def methIn (K : Frag) (Cl : Addr) (name : Str) : Option Addr :=
  if findIn K (.ref Cl) "__getattribute__" == some (some (.builtin "object.__getattribute__")) && findIn K (.ref Cl) "__getattr__" == some none then (match findIn K (.ref Cl) name with
    | some (some (.ref f)) => if typeIn K (.ref f) == some (.type "function") then some f else none
    | _ => none) else none
theorem methInE {K : Frag} {Cl f : Addr} {name : Str} {G : Prop} (h : methIn K Cl name = some f) (k : findIn K (.ref Cl) "__getattribute__" = some (some (.builtin "object.__getattribute__")) → findIn K (.ref Cl) "__getattr__" = some none → findIn K (.ref Cl) name = some (some (.ref f)) → typeIn K (.ref f) = some (.type "function") → G) : G := by
  unfold methIn at h
  split at h
  · rename_i hg
    rw [Bool.and_eq_true, beq_iff_eq, beq_iff_eq] at hg
    split at h
    · rename_i f' hf
      split at h
      · rename_i ht
        cases h
        exact k hg.1 hg.2 hf (beq_iff_eq.mp ht)
      · cases h
    · cases h
  · cases h
theorem Res.inst {Cl f : Addr} {name : Str} (h : methIn C.K Cl name = some f) : Res C name (.ref f) (isInst Cl name) := by
  intro A W st s a v R hv ⟨i, d, fs, ha, e1, e2, e3⟩ Q E pl hq
  subst ha
  revert hq
  refine methInE h fun h1 h2 h3 h4 => hv.objE rfl fun x hi hq => ?_
  obtain ⟨ad, hd, hx⟩ := R.objs _ _ _ e1 hi
  obtain ⟨es, m, hdx, hfs⟩ := R.objs _ _ _ e2 hd
  exact method_fn (od := some (dictOf es m)) R.kin ⟨hx, rfl, rfl, hdx⟩ h1 h2 h3 h4 (by unfold shadowIn; dsimp only; rw [lookIn_dict, hfs.getNone e3]; rfl) hq

structure Kws (C : Cx) (n : Nat) (Γ : SCx) (kws : List Keyword) (f : K (List (Str × AV))) : Prop where
  all : ∀ pos env, (backToKw pos (keywordEach kws env)).all (fun x => x.1.isSome) = true
  names : ∀ pos env, ∃ l, (backToKw pos (keywordEach kws env)).filterMap (fun x => x.1) = l ∧ ∀ st ps st', f st = some (ps, st') → ps.map (fun x => x.1) = l
  run : ∀ pos A env W st s, AOk C n A → Inv C Γ env W st s.heap → Run C Γ env W A s (evalAll ((backToKw pos (keywordEach kws env)).map (fun x => x.2))) (f st) fun W ps vs => VRs W (ps.map (fun x => x.2)) vs
theorem Kws.nil : Kws C n Γ [] (K.ret []) :=
  ⟨fun u1 u2 => rfl, fun u1 u2 => ⟨[], rfl, fun st ps st' e => by cases e; rfl⟩, fun pos A env W st s ok I => .now I s.toks .nil fun Q E h => wpAny_pure h⟩
theorem Kws.cons {x : Str} {e : Expr} {p : Pos} {r : List Keyword} {f : K AV} {g : K (List (Str × AV))} (h : Ev C n Γ e f) (hr : Kws C n Γ r g) : Kws C n Γ (⟨some x, e, p⟩ :: r) (K.bind f fun a => K.bind g fun ps => K.ret ((x, a) :: ps)) := by
  refine ⟨fun pos env => hr.all pos env, fun pos env => Exists.elim (hr.names pos env) fun l q => ⟨x :: l, congrArg (x :: ·) q.1, fun st ps st' e => K.bindE e fun a st₁ e1 e => K.bindE e fun as st₂ e2 e => ?_⟩, fun pos A env W st s ok I v st' e Q E hq => K.bindE e fun a st₁ e1 e => K.bindE e fun as st₂ e2 e => ?_⟩
  · cases e
    exact congrArg (x :: ·) (q.2 _ _ _ e2)
  · cases e
    show wpAny _ _ (do let v ← (do let v ← eval _ env; standAt pos; pure v); return v :: (← holding [v] (evalAll ((backToKw pos (keywordEach r env)).map (fun x => x.2))))) Q E s
    refine wpAny_bind (wpAny_bind (h.run A env W st s ok I _ _ e1 _ _ fun va W1 h1 tk1 I1 k1 v1 => wpAny_bind (wpAny_standAt (wpAny_pure ?_))))
    exact wpAny_bind (wpAny_holding (hr.run pos A env W1 st₁ _ ok I1 _ _ e2 _ _ fun vs W2 h2 tk2 I2 k2 v2 => wpAny_pure (hq _ W2 h2 tk2 I2 (k1.trans k2) (.cons (v1.mono k2.le) v2))))

theorem Ear.kw {args : List Expr} {kws : List Keyword} {f : K (List AV)} {g : K (List (Str × AV))} (h : Eas C n Γ args f) (hk : Kws C n Γ kws g) (hl : lone args = false) : Ear C n Γ args kws (K.bind f fun as => K.bind g fun ps => K.ret (as, ps)) := by
  refine ⟨fun pos fv A env W st s ok I v st' e Q E hq => K.bindE e fun as st₁ e1 e => K.bindE e fun ps st₂ e2 e => ?_⟩
  cases e
  refine Exists.elim (hk.names pos env) fun l q => wpAny_evalArgs (lone1_of hl) (hk.all pos env) (h.run pos A env W st s ok I _ _ e1 _ _ fun vs W1 h1 tk1 I1 k1 v1 => hk.run pos A env W1 st₁ { s with heap := h1, toks := tk1 } ok I1 _ _ e2 _ _ fun ks W2 h2 tk2 I2 k2 v2 => ?_)
  have hn := q.2 _ _ _ e2
  have hlen : l.length = ks.length := by rw [← hn, List.length_map, ← v2.length, List.length_map]
  rw [q.1]
  exact hq ⟨vs, l.zip ks⟩ W2 h2 tk2 I2 (k1.trans k2) ⟨v1.mono k2.le, (List.map_fst_zip (Nat.le_of_eq hlen)).trans hn.symm, (List.map_snd_zip (Nat.le_of_eq hlen.symm)).symm ▸ v2⟩

noncomputable def CalK (C : Cx) (n : Nat) (Γ : SCx) (f : Value) (F : List AV → List (Str × AV) → K AV) : Prop :=
  ∀ A env Wd st (s : Shared) args kws vs kvs, AOk C n A → Inv C Γ env Wd st s.heap → VRs Wd args vs → BindsR Wd kws kvs → Run C Γ env Wd A s (call f vs kvs) (F args kws st) VR
noncomputable def liftK (F : List AV → List (Str × AV) → List AO → Option (AV × List AO)) (args : List AV) (kws : List (Str × AV)) : K AV := fun st => (F args kws st.σ).map fun p => (p.1, ⟨st.θ, p.2⟩)
theorem CalK.fn {f : Value} {F} (h : FnK C n f F) : CalK C n Γ f (liftK F) := fun A env W st s args kws vs kvs ok I hv hk => .omap fun p e => .mk1 fun Q E hq =>
  wpAny_call (h A W st.σ s args kws vs kvs ok I.rel hv hk p.1 p.2 e _ fun v W' h' tk R k hr => hq v W' h' tk (I.keep R k) k.wide hr)
theorem CalK.cal {f : Value} {F} (h : CalK C n Γ f F) : Cal C n Γ f fun args => F args [] := fun A env W st s args vs ok I hv => h A env W st s args [] vs [] ok I hv .nil

theorem bindsR_of {W : Wd} {ps : List (Str × AV)} : ∀ {kvs : List (Str × Value)}, kvs.map (fun x => x.1) = ps.map (fun x => x.1) → VRs W (ps.map (fun x => x.2)) (kvs.map (fun x => x.2)) → BindsR W ps kvs := by
  induction ps with
  | nil =>
    intro kvs h _
    cases kvs with
    | nil => exact .nil
    | cons _ _ => cases h
  | cons p ps ih =>
    intro kvs h h2
    cases kvs with
    | nil => cases h
    | cons q kvs =>
      have h := List.cons.inj h
      cases h2 with
      | cons hv hr =>
        have r := ih h.2 hr
        obtain ⟨x, a⟩ := p
        obtain ⟨y, v⟩ := q
        cases (show y = x from h.1)
        exact .cons hv r
theorem kws_some {env : Env} {pos : Pos} {l : List Keyword} (hl : l.all (fun k => k.arg.isSome) = true) : (backToKw pos (keywordEach l env)).all (fun x => x.1.isSome) = true := by
  induction l with
  | nil => rfl
  | cons k r ih =>
    rw [List.all_cons, Bool.and_eq_true] at hl
    obtain ⟨nm, vl, p⟩ := k
    exact Bool.and_eq_true _ _ ▸ ⟨hl.1, ih hl.2⟩
theorem form_ok {args : List Expr} {kws : List Keyword} {env : Env} {pos : Pos} (hst : args.all (fun e => !isStar e) = true) (hkw : kws.all (fun k => k.arg.isSome) = true) (hlen : decide (args.length + kws.length < 29) = true) : methodCallForm (args.length + kws.length) (backTo pos (starEach args env)) (backToKw pos (keywordEach kws env)) = true := by
  unfold methodCallForm
  rw [all_plain hst, kws_some hkw]
  have : args.length + kws.length < 29 := of_decide_eq_true hlen
  simp only [Bool.true_and, decide_eq_true_eq]
  split <;> omega
theorem Ev.methK {o : Expr} {name : Str} {apos pos : Pos} {args : List Expr} {kws : List Keyword} {fv : Value} {P : AV → St → Prop} {f : K AV} {g : K (List AV × List (Str × AV))} {F : List AV → List (Str × AV) → K AV} (ho : Ev C n Γ o f) (hr : Res C name fv P) (hc : Callee C fv) (ha : Ear C n Γ args kws g) (hF : CalK C n Γ fv F)
    (hst : args.all (fun e => !isStar e) = true) (hkw : kws.all (fun k => k.arg.isSome) = true) (hlen : decide (args.length + kws.length < 29) = true) (hsup : isSuper o = false) (hline : (apos.endLine == pos.line) = true) :
    Ev C n Γ (.Call (.Attribute o name apos) args kws pos) (K.bind f fun a => K.bind (guardK (P a)) fun u1 => K.bind g fun p => F (a :: p.1) p.2) := by
  refine ⟨fun A env W st s ok I v st' e Q E hq => K.bindE e fun a st₁ e1 e => guardE e fun hP e => K.bindE e fun as st₂ e2 e => ?_⟩
  rw [arm_eval_Call, attributeBase_plain hsup]
  refine wpAny_bind (ho.run A env W st s ok I _ _ e1 _ _ fun va W1 h1 tk1 I1 k1 v1 => wpAny_bind (wpAny_standAt ?_))
  have hpos : methodCallPos true o env apos pos = pure pos := by unfold methodCallPos; rw [hline]; rfl
  unfold methodCall
  rw [form_ok hst hkw hlen]
  refine wpAny_bind (wpAny_holding (hr A W1 st₁ { s with heap := h1, toks := tk1 } a va I1.rel v1 hP _ _ _ (wpAny_bind (wpAny_of_eq hpos ?_))))
  refine callWith_gen (P := fun h => ∀ b o, C.h₀.get? b = some o → h.get? b = some o) (hc _) (ha.run pos fv A env W1 st₁ { s with heap := h1, toks := tk1 } ok I1 as st₂ e2 _ _ fun ar W2 h2 tk2 I2 k2 v2 => ⟨I2.rel.old, ?_⟩)
  exact hF A env W2 st₂ { s with heap := h2, toks := tk2 } (a :: as.1) as.2 (va :: ar.pos) ar.kw ok I2 (.cons (v1.mono k2.le) v2.1) (bindsR_of v2.2.1 v2.2.2) v st' e _ _ fun r W3 h3 tk3 I3 k3 v3 => hq r W3 h3 tk3 I3 (k1.trans (k2.trans k3)) v3
noncomputable def noKw (F : List AV → K AV) (args : List AV) (kws : List (Str × AV)) : K AV := fun st => noK kws (F args st)
theorem CalK.of {f : Value} {F : List AV → K AV} (h : Cal C n Γ f F) : CalK C n Γ f (noKw F) := fun A env W st s args kws vs kvs ok I hv hk r st' e Q E hq =>
  noK_of (P := fun kvs => wpAny (model C.prog C.w) A (call f vs kvs) Q E s) e hk fun e => h A env W st s args vs ok I hv r st' e Q E hq
theorem lone_of {args : List Expr} (h : args.all (fun e => !isStar e) = true) : lone args = false := by
  cases args with
  | nil => rfl
  | cons e r => cases r with
    | nil => rw [List.all_cons, Bool.and_eq_true] at h; exact (Bool.not_eq_true' _).mp h.1
    | cons _ _ => rfl
theorem Ev.meth {o : Expr} {name : Str} {apos pos : Pos} {args : List Expr} {fv : Value} {P : AV → St → Prop} {f : K AV} {g : K (List AV)} {F : List AV → K AV} (ho : Ev C n Γ o f) (hr : Res C name fv P) (hc : Callee C fv) (ha : Eas C n Γ args g) (hF : Cal C n Γ fv F)
    (hst : args.all (fun e => !isStar e) = true) (hlen : decide (args.length < 29) = true) (hsup : isSuper o = false) (hline : (apos.endLine == pos.line) = true) :
    Ev C n Γ (.Call (.Attribute o name apos) args [] pos) (K.bind f fun a => K.bind (guardK (P a)) fun u1 => K.bind g fun as => F (a :: as)) := by
  have e := Ev.methK (kws := []) ho hr hc (Ear.plain ha (lone_of hst)) (.of hF) hst rfl hlen hsup hline
  have : (K.bind f fun a => K.bind (guardK (P a)) fun u1 => K.bind (K.bind g fun as => K.ret (as, [])) fun p => noKw F (a :: p.1) p.2) = K.bind f fun a => K.bind (guardK (P a)) fun u1 => K.bind g fun as => F (a :: as) :=
    congrArg (K.bind f) (funext fun a => congrArg (K.bind _) (funext fun u1 => funext fun st => by unfold K.bind; cases g st <;> rfl))
  exact this ▸ e
end
end Mine
set_option Elab.async false
set_option maxRecDepth 100000
namespace Mine
open PySem PyProof.Rows PySem.W PySem.SeqAt

noncomputable def three? : List AV → Option (AV × AV × AV)
  | [a, b, c] => some (a, b, c)
  | _ => none
noncomputable def uncons? : List AV → Option (AV × List AV)
  | a :: r => some (a, r)
  | [] => none
noncomputable def oneKw (z : Str) : List (Str × AV) → Option AV
  | [(z', c)] => if z' = z then some c else none
  | _ => none
noncomputable def bP2k1 (x y z : Str) : BindF := fun args kws σ => (oneKw z kws).bind fun c => (two? args).map fun p => ([(x, p.1), (y, p.2), (z, c)], σ)
noncomputable def bD1 (x y : Str) : BindF := fun args kws σ => noK kws ((one? args).map fun a => ([(x, a), (y, .none)], σ))
noncomputable def bD2 (x y z : Str) : BindF := fun args kws σ => noK kws ((two? args).map fun p => ([(x, p.1), (y, p.2), (z, .none)], σ))
noncomputable def bK3 (x y z p : Str) : BindF := fun args kws σ => noK kws ((three? args).map fun q => ([(x, q.1), (y, q.2.1), (z, q.2.2), (p, .obj σ.length)], σ ++ [.attrs []]))
noncomputable def bV1 (x z : Str) : BindF := fun args kws σ => noK kws ((uncons? args).bind fun p => if p.2.length < 2 ^ 20 then some ([(x, p.1), (z, .tup p.2)], σ) else none)
noncomputable def bV2 (x y z : Str) : BindF := fun args kws σ => noK kws ((uncons? args).bind fun p => (uncons? p.2).bind fun q => if q.2.length < 2 ^ 20 then some ([(x, p.1), (y, q.1), (z, .tup q.2)], σ) else none)
section
variable {C : Cx} {fd : FuncData} {W : Wd} {A : Around} {s : Shared} {σ : List AO}
@[elab_as_elim] theorem VRs.three?E {args : List AV} {p : AV × AV × AV} {vs : List Value} {P : List Value → Prop} (h : VRs W args vs) (e : three? args = some p) (k : ∀ v w u, VR W p.1 v → VR W p.2.1 w → VR W p.2.2 u → P [v, w, u]) : P vs := by
  cases args with
  | nil => cases e
  | cons a r => cases r with
    | nil => cases e
    | cons b r => cases r with
      | nil => cases e
      | cons c r => cases r with
        | nil => cases e; exact h.consE fun v vs hv hr => hr.twoE (P := fun vs => P (v :: vs)) fun w u hw hu => k v w u hv hw hu
        | cons _ _ => cases e
@[elab_as_elim] theorem VRs.unE {args : List AV} {p : AV × List AV} {vs : List Value} {P : List Value → Prop} (h : VRs W args vs) (e : uncons? args = some p) (k : ∀ v ws, VR W p.1 v → VRs W p.2 ws → P (v :: ws)) : P vs := by
  cases args with
  | nil => cases e
  | cons a r => cases e; exact h.consE k
@[elab_as_elim] theorem BindsR.oneE {z : Str} {kws : List (Str × AV)} {kvs : List (Str × Value)} {c : AV} {P : List (Str × Value) → Prop} (h : BindsR W kws kvs) (e : oneKw z kws = some c) (k : ∀ u, VR W c u → P [(z, u)]) : P kvs := by
  cases h with
  | nil => cases e
  | @cons x a v r r' hv hr =>
    cases hr with
    | cons _ _ => cases e
    | nil => exact ite_none e fun hz e => by rw [hz]; exact k _ (Option.some.inj e ▸ hv)
theorem Binds.p2k1 {x y z : Str} (h : ∀ v w u, bindArgs fd ⟨[v, w], [(z, u)]⟩ = pure [(x, v), (y, w), (z, u)]) : Binds C fd (bP2k1 x y z) := fun A W σ s args kws vs kvs R hv hkv p e Q E =>
  bindE e fun c hc e => mapE e fun p hp hq => hkv.oneE hc fun u hu => VRs.two?E (vs := vs) hv hp fun v w hv hw => wpAny_eq (h v w u) (wpAny_pure (hq.now R (.cons hv (.cons hw (.cons hu .nil)))))
theorem Binds.d1 {x y : Str} {T : Addr} {o : Obj} {m : Nat} {k : Value → Option (Array Value) → Sem (List (Str × Value))} (hd : fd.defaults = .ref T) (ho : C.K.lookup T = some o) (hs : o.data = .seq #[.none] m)
    (h₁ : ∀ v, bindArgs fd ⟨[v], []⟩ = seqItems? fd.defaults >>= k v) (h₂ : ∀ v, k v (some #[.none]) = pure [(x, v), (y, .none)]) :
    Binds C fd (bD1 x y) := fun A W σ s args kws vs kvs R hv hkv p e Q E =>
  noK_of (P := fun kvs => PostB C W s Q p → wpAny _ A (bindArgs fd ⟨vs, kvs⟩) Q E s) e hkv fun e => mapE e fun a ha hq => VRs.one?E (vs := vs) hv ha fun v hv => BindsTo.of_defaults hd (R.kin _ _ ho) hs (h₁ _) (h₂ _) _ _ _ _ (hq.now R (.cons hv (.cons .none .nil)))
theorem Binds.d2 {x y z : Str} {T : Addr} {o : Obj} {m : Nat} {k : Value → Value → Option (Array Value) → Sem (List (Str × Value))} (hd : fd.defaults = .ref T) (ho : C.K.lookup T = some o) (hs : o.data = .seq #[.none] m)
    (h₁ : ∀ v w, bindArgs fd ⟨[v, w], []⟩ = seqItems? fd.defaults >>= k v w) (h₂ : ∀ v w, k v w (some #[.none]) = pure [(x, v), (y, w), (z, .none)]) :
    Binds C fd (bD2 x y z) := fun A W σ s args kws vs kvs R hv hkv p e Q E =>
  noK_of (P := fun kvs => PostB C W s Q p → wpAny _ A (bindArgs fd ⟨vs, kvs⟩) Q E s) e hkv fun e => mapE e fun a ha hq => VRs.two?E (vs := vs) hv ha fun v w hv hw => BindsTo.of_defaults hd (R.kin _ _ ho) hs (h₁ _ _) (h₂ _ _) _ _ _ _ (hq.now R (.cons hv (.cons hw (.cons .none .nil))))
theorem Binds.k3 {x y z p : Str} (h : ∀ v w u, bindArgs fd ⟨[v, w, u], []⟩ = alloc { cls := .type "dict", data := .dict #[] } >>= fun d => pure [(x, v), (y, w), (z, u), (p, .ref d)]) :
    Binds C fd (bK3 x y z p) := fun A W σ s args kws vs kvs R hv hkv p e Q E =>
  noK_of (P := fun kvs => PostB C W s Q p → wpAny _ A (bindArgs fd ⟨vs, kvs⟩) Q E s) e hkv fun e => mapE e fun a ha hq => VRs.three?E (vs := vs) hv ha fun v w u hv hw hu =>
    have X := R.pushObj emptyDict (.attrs []) ⟨[], 0, Heap.get?_push_size _ rfl, .nil⟩
    wpAny_eq (h v w u) (wpAny_bind (wpAny_alloc (wpAny_pure (hq _ _ _ s.toks X.1 X.2 (.cons (hv.mono X.2.le) (.cons (hw.mono X.2.le) (.cons (hu.mono X.2.le) (.cons (.obj (by rw [← R.len]; exact List.getElem?_concat_length)) .nil))))))))

theorem PostB.tup {ab : List (Str × AV)} {as : List AV} {rest : List Value} {Q : List (Str × Value) → Shared → Prop} {f : Value → List (Str × Value)} (hq : PostB C W s Q (ab, σ)) (R : Rel C W σ s.heap) (hv : VRs W as rest) (hf : ∀ W' t, W.Le W' → VR W' (.tup as) t → BindsR W' ab (f t)) : Q (f (.ref s.heap.objs.size)) { s with heap := s.heap.push { cls := .type "tuple", data := .seq rest.toArray } } :=
  have X := R.pushImm { cls := .type "tuple", data := .seq rest.toArray } rfl
  hq _ _ _ s.toks X.1 X.2 (hf _ _ X.2.le (.tup List.mem_cons_self (hv.mono X.2.le)))
theorem Binds.v1 {x z : Str} (h : ∀ v rest, bindArgs fd ⟨v :: rest, []⟩ = newTuple rest >>= fun t => pure [(x, v), (z, t)]) :
    Binds C fd (bV1 x z) := fun A W σ s args kws vs kvs R hv hkv p e Q E =>
  noK_of (P := fun kvs => PostB C W s Q p → wpAny _ A (bindArgs fd ⟨vs, kvs⟩) Q E s) e hkv fun e => bindE e fun p hp' e => ite_some e fun hlt hq => VRs.unE (vs := vs) hv hp' fun v ws hv hr =>
    wpAny_eq (h v ws) (wpAny_bind (wpAny_newTuple (wpAny_pure (hq.tup (f := fun t => [(x, v), (z, t)]) R hr fun W' t le ht => .cons (hv.mono le) (.cons ht .nil))) (lt_line hlt hr.length)))
theorem Binds.v2 {x y z : Str} (h : ∀ v w rest, bindArgs fd ⟨v :: w :: rest, []⟩ = newTuple rest >>= fun t => pure [(x, v), (y, w), (z, t)]) :
    Binds C fd (bV2 x y z) := fun A W σ s args kws vs kvs R hv hkv p e Q E =>
  noK_of (P := fun kvs => PostB C W s Q p → wpAny _ A (bindArgs fd ⟨vs, kvs⟩) Q E s) e hkv fun e => bindE e fun p hp' e => bindE e fun q hq' e => ite_some e fun hlt hq => VRs.unE (vs := vs) hv hp' fun v ws hv hr => VRs.unE (vs := ws) hr hq' fun w ws hw hr =>
    wpAny_eq (h v w ws) (wpAny_bind (wpAny_newTuple (wpAny_pure (hq.tup (f := fun t => [(x, v), (y, w), (z, t)]) R hr fun W' t le ht => .cons (hv.mono le) (.cons (hw.mono le) (.cons ht .nil)))) (lt_line hlt hr.length)))
end
end Mine
set_option Elab.async false
set_option maxRecDepth 100000
namespace Mine
open PySem PyProof.Rows PySem.W PySem.SeqAt

section
variable {prog : Program} {w : World} {A : Around} {E : Value → Shared → Prop} {s : Shared} {knd : KeyKind prog w Int}

theorem dictSet_ep {d : Addr} {kvs : List (Int × Value)} {ep : Nat} {k : Int} {key v : Value} {Q : Unit → Shared → Prop} (hkey : knd.is k key = true) (hm : s.heap.DictAt knd d kvs ep)
    (hQ : ∀ h', h'.DictAt knd d (stored kvs k v) (if kvs.any (fun kv => kv.1 = k) then ep else ep + 1) → Heap.SameBut d s.heap h' → Q () { s with heap := h', toks := s.toks + 1 })
    (hsz : kvs.length ≤ sizeLine) : wpAny (model prog w) A (dictSet d key v) Q E s := by
  obtain ⟨o, es, ho, hc, hd, hk, hp, hn⟩ := hm
  have hes : es.size ≤ sizeLine := by
    have e1 := hp.length
    have e2 : es.toList.length = es.size := by simp
    omega
  have hidx : (es.findIdx? fun e => knd.is k e.key) = kvs.findIdx? fun kv => decide (kv.1 = k) := by
    rw [← hp.findIdx k]; obtain ⟨l⟩ := es; simp
  unfold dictSet
  refine wpAny_holding (wpAny_bind (knd.pyHash hkey ?_))
  unfold dictSetHashed
  refine wpAny_holding (wpAny_bind (wpAny_dictFind_of (s := { s with toks := s.toks + 1 }) hkey ho hd hk ?_))
  cases hi : es.findIdx? fun e => knd.is k e.key with
  | some i =>
    have hany := any_of_findIdx_some (hidx ▸ hi)
    refine wpAny_bind (wpAny_rule (wpAny_bind (wpAny_updateDict (s := { s with toks := s.toks + 1 }) ho hd (wpAny_point (hQ _ ?_ (Heap.SameBut.update ..))))))
    rw [if_pos hany]
    refine ⟨_, _, Heap.get?_update_self _ ho (Obj.isFreed_of_dict (Obj.data_mapDict hd _)), hc.mapDict _, Obj.data_mapDict hd _, hk.modify _ _, ?_, ?_⟩
    · rw [stored, if_pos hany]
      have hl : (es.toList.findIdx? fun e => knd.is k e.key) = some i := by rw [← hi]; obtain ⟨l⟩ := es; simp
      have := hp.modify hn hl v
      obtain ⟨l⟩ := es
      simpa using this
    · rw [stored, if_pos hany, keys_map_store]; exact hn
  | none =>
    have hnot : k ∉ kvs.map (fun x => x.1) := not_mem_of_findIdx_none (hidx ▸ hi)
    have hany : ¬ (kvs.any fun kv => decide (kv.1 = k)) = true := by
      rw [List.any_eq_true]; rintro ⟨kv, hkv, he⟩
      exact hnot (List.mem_map.mpr ⟨kv, hkv, of_decide_eq_true he⟩)
    refine wpAny_bind (wpAny_rule (wpAny_updateDictKeys (hz := hes) (s := { s with toks := s.toks + 1 }) ho hd (hQ _ ?_ (Heap.SameBut.update ..))))
    rw [if_neg hany]
    refine ⟨_, _, Heap.get?_update_self _ ho (Obj.isFreed_of_dict (Obj.data_mapDictKeys hd _)), hc.mapDictKeys _, Obj.data_mapDictKeys hd _, hk.push hkey _, ?_, ?_⟩
    · rw [stored, if_neg hany]
      have := hp.append hkey (knd.hash k) v
      obtain ⟨l⟩ := es
      simpa using this
    · rw [stored, if_neg hany, List.map_append, List.nodup_append]
      refine ⟨hn, by simp, ?_⟩
      intro a ha b hb
      simp only [List.map_cons, List.map_nil, List.mem_singleton] at hb
      subst hb
      exact fun e => hnot (e ▸ ha)
theorem setItem_ep {d : Addr} {kvs : List (Int × Value)} {ep : Nat} {k : Int} {key v : Value} {Q : Unit → Shared → Prop} (hkey : knd.is k key = true) (hm : s.heap.DictAt knd d kvs ep)
    (hQ : ∀ h', h'.DictAt knd d (stored kvs k v) (if kvs.any (fun kv => kv.1 = k) then ep else ep + 1) → Heap.SameBut d s.heap h' → Q () { s with heap := h', toks := s.toks + 1 })
    (hsz : kvs.length ≤ sizeLine) : wpAny (model prog w) A (setItem (.ref d) key v) Q E s := by
  have hT := hm.dictOf.typeIs
  unfold setItem
  refine wpAny_holding (wpAny_bind (wpAny_sequenceKey hT (by decide) ?_))
  refine wpAny_bind (wpAny_callSpecial?_slot (name := Str.ofString "__setitem__") hT slot_dict_setitem (wpAny_call_entry slot_dict_setitem hT entry_dict_setitem ?_ (args_dict_setitem _ _ _)))
  show wpAny _ _ (Builtin.Dict.notOrdered "__setitem__" ⟨[.ref d, key, v], []⟩ >>= _) _ _ s
  refine wpAny_bind (wpAny_notOrdered_dict hT ?_)
  show wpAny _ _ (dictSet d key v >>= _) _ _ s
  exact wpAny_bind (dictSet_ep hkey hm (fun h' hm' hs' => wpAny_pure ⟨.none, rfl, wpAny_pure (hQ h' hm' hs')⟩) hsz)
theorem takeOut_ep {d : Addr} {kvs : List (Int × Value)} {ep : Nat} {k : Int} {key : Value} {Q : Option DictEntry → Shared → Prop} (hkey : knd.is k key = true) (hm : s.heap.DictAt knd d kvs ep) (hthere : (valueAt kvs k).isSome = true)
    (hsome : ∀ e h', h'.DictAt knd d (without kvs k) (ep + 1) → Heap.SameBut d s.heap h' → Q (some e) { s with heap := h', toks := s.toks + 1 })
    (hsz : kvs.length ≤ sizeLine) : wpAny (model prog w) A (Builtin.Dict.takeOut d key) Q E s := by
  obtain ⟨o, es, ho, hc, hd, hk, hp, hn⟩ := hm
  have hes : es.size ≤ sizeLine := by
    have e1 := hp.length
    have e2 : es.toList.length = es.size := by simp
    omega
  unfold Builtin.Dict.takeOut
  refine wpAny_holding (wpAny_bind (knd.pyHash hkey (wpAny_bind (wpAny_dictFind_of (s := { s with toks := s.toks + 1 }) hkey ho hd hk ?_))))
  cases hi : es.findIdx? fun e => knd.is k e.key with
  | none =>
    exfalso
    rw [← hp.find k] at hthere
    have : (es.toList.find? fun e => knd.is k e.key) = none := by
      rw [List.find?_eq_none]
      intro e he
      have := Array.findIdx?_eq_none_iff.mp hi e (Array.mem_toList_iff.mp he)
      simpa using this
    rw [this] at hthere
    cases hthere
  | some i =>
    have hl : (es.toList.findIdx? fun e => knd.is k e.key) = some i := by rw [← hi]; obtain ⟨l⟩ := es; simp
    obtain ⟨e, he, hek, hev⟩ := hp.at hl
    refine wpAny_bind (wpAny_dictEntries (s := { s with toks := s.toks + 1 }) ho hd ?_)
    have he' : es[i]? = some e := by rw [← he]; obtain ⟨l⟩ := es; simp
    rw [he']
    refine wpAny_bind (wpAny_updateDictKeys (hz := hes) (s := { s with toks := s.toks + 1 }) ho hd (wpAny_pure (hsome e _ ⟨_, _, Heap.get?_update_self _ ho (Obj.isFreed_of_dict (Obj.data_mapDictKeys hd _)),
      hc.mapDictKeys _, Obj.data_mapDictKeys hd _, hk.erase _, ?_, nodup_without hn k⟩ (Heap.SameBut.update ..))))
    have := hp.erase hn hl
    obtain ⟨l⟩ := es
    simpa using this
theorem delItem_ep {d : Addr} {kvs : List (Int × Value)} {ep : Nat} {k : Int} {key : Value} {Q : Unit → Shared → Prop} (hkey : knd.is k key = true) (hm : s.heap.DictAt knd d kvs ep) (hthere : (valueAt kvs k).isSome = true)
    (hQ : ∀ h', h'.DictAt knd d (without kvs k) (ep + 1) → Heap.SameBut d s.heap h' → Q () { s with heap := h', toks := s.toks + 1 })
    (hsz : kvs.length ≤ sizeLine) : wpAny (model prog w) A (delItem (.ref d) key) Q E s := by
  have hT := hm.dictOf.typeIs
  refine wpAny_delItem_slot hT (by decide) F.slot_dict_delitem (wpAny_call_entry F.slot_dict_delitem hT F.entry_dict_delitem ?_ (F.args_dict_delitem_2 _ _))
  unfold Builtin.«dict.__delitem__»
  refine wpAny_bind ?_
  unfold Builtin.Dict.dictSlotArgs
  refine wpAny_bind (wpAny_notOrdered_dict hT ?_)
  show wpAny _ _ (pure (Value.ref d, key)) _ _ s
  refine wpAny_pure ?_
  show wpAny _ _ (Builtin.Dict.takeOut d key >>= _) _ _ s
  refine wpAny_bind (takeOut_ep hkey hm hthere (fun e h' hm' hs' => ?_) hsz)
  exact wpAny_bind (wpAny_letGo (wpAny_pure ⟨.none, rfl, hQ h' hm' hs'⟩))
end

noncomputable def getD (es : List (Int × AV)) (k : Int) : Option AV := (es.find? fun p => p.1 = k).map (fun x => x.2)
noncomputable def putD (es : List (Int × AV)) (k : Int) (v : AV) : List (Int × AV) := if es.any (fun p => p.1 = k) then es.map (fun p => if p.1 = k then (p.1, v) else p) else es ++ [(k, v)]
noncomputable def delD (es : List (Int × AV)) (k : Int) : List (Int × AV) := es.filter fun p => decide (p.1 ≠ k)

inductive KvR (W : Wd) : List (Int × AV) → List (Int × Value) → Prop
  | nil : KvR W [] []
  | cons {k a v es kvs} : VR W a v → KvR W es kvs → KvR W ((k, a) :: es) ((k, v) :: kvs)
section
variable {W : Wd} {es : List (Int × AV)} {kvs : List (Int × Value)}
theorem KvR.of {es : List (Int × AV)} : ∀ {kvs : List (Int × Value)}, kvs.map (fun x => x.1) = es.map (fun x => x.1) → VRs W (es.map (fun x => x.2)) (kvs.map (fun x => x.2)) → KvR W es kvs := by
  induction es with
  | nil =>
    intro kvs h _
    cases kvs with
    | nil => exact .nil
    | cons _ _ => cases h
  | cons p ps ih =>
    intro kvs h h2
    cases kvs with
    | nil => cases h
    | cons q kvs =>
      have h := List.cons.inj h
      cases h2 with
      | cons hv hr =>
        have r := ih h.2 hr
        obtain ⟨x, a⟩ := p
        obtain ⟨y, v⟩ := q
        cases (show y = x from h.1)
        exact .cons hv r
theorem KvR.keys (h : KvR W es kvs) : kvs.map (fun x => x.1) = es.map (fun x => x.1) := by
  induction h with
  | nil => rfl
  | cons _ _ ih => simp [ih]
theorem KvR.len (h : KvR W es kvs) : es.length = kvs.length := by
  induction h with
  | nil => rfl
  | cons _ _ ih => simp [ih]
theorem KvR.any (h : KvR W es kvs) (k : Int) : kvs.any (fun p => p.1 = k) = es.any (fun p => p.1 = k) := by
  induction h with
  | nil => rfl
  | cons _ _ ih => simp only [List.any_cons, ih]
theorem KvR.get (h : KvR W es kvs) (k : Int) : (getD es k = none ∧ valueAt kvs k = none) ∨ ∃ a v, getD es k = some a ∧ valueAt kvs k = some v ∧ VR W a v := by
  induction h with
  | nil => exact .inl ⟨rfl, rfl⟩
  | @cons x a v es kvs h1 _ ih =>
    by_cases e : x = k
    · right; exact ⟨a, v, by simp [getD, e], by simp [valueAt, e], h1⟩
    · simpa [getD, valueAt, e] using ih
theorem KvR.repl (h : KvR W es kvs) (k : Int) {a : AV} {v : Value} (hv : VR W a v) : KvR W (es.map (fun p => if p.1 = k then (p.1, a) else p)) (kvs.map (fun p => if p.1 = k then (p.1, v) else p)) := by
  induction h with
  | nil => exact .nil
  | @cons x b u es kvs h1 _ ih =>
    simp only [List.map_cons]
    by_cases e : x = k
    · rw [if_pos e, if_pos e]; exact .cons hv ih
    · rw [if_neg e, if_neg e]; exact .cons h1 ih
theorem KvR.app (h : KvR W es kvs) (k : Int) {a : AV} {v : Value} (hv : VR W a v) : KvR W (es ++ [(k, a)]) (kvs ++ [(k, v)]) := by
  induction h with
  | nil => exact .cons hv .nil
  | cons h1 _ ih => exact .cons h1 ih
theorem KvR.put (h : KvR W es kvs) (k : Int) {a : AV} {v : Value} (hv : VR W a v) : KvR W (putD es k a) (stored kvs k v) := by
  unfold putD stored
  rw [h.any k]
  split
  · exact h.repl k hv
  · exact h.app k hv
theorem KvR.del (h : KvR W es kvs) (k : Int) : KvR W (delD es k) (without kvs k) := by
  induction h with
  | nil => exact .nil
  | @cons x b u es kvs h1 _ ih =>
    unfold delD without at ih ⊢
    simp only [List.filter_cons]
    by_cases e : x = k
    · simpa [e] using ih
    · simp only [ne_eq, e, not_false_eq_true, decide_true, if_true]
      exact .cons h1 (by simpa using ih)
end

section
variable {C : Cx} {n : Nat} {Γ : SCx} {env : Env} {W : Wd} {A : Around} {s : Shared} {st : St}

theorem dictAt_kv {σ : List AO} {h : Heap} (R : Rel C W σ h) {o : Nat} {d : Addr} {es : List (Int × AV)} {ep : Nat} (hd : W.φ[o]? = some d) (e : σ[o]? = some (.dict es ep)) : ∃ kvs, h.DictAt (intKind C.prog C.w) d kvs ep ∧ KvR W es kvs := by
  exact Exists.elim (dictAt_of R hd e) fun kvs r => ⟨kvs, r.1, .of r.2.1.1 r.2.1.2⟩
theorem KvR.pairsR {prog : Program} {w : World} {es : List (Int × AV)} {kvs : List (Int × Value)} {en : List DictEntry} (hp : Pairs (intKind prog w) en kvs) (hk : ∀ e ∈ en, ∃ k, (intKind prog w).is k e.key = true ∧ e.hash = (intKind prog w).hash k) (h : KvR W es kvs) : PairsR W es en := by
  induction hp generalizing es with
  | nil => cases h; exact .nil
  | @cons e kv en kvs h1 h2 _ ih =>
    cases h with
    | cons hv hr =>
      refine .cons ⟨Value.isInt_shape h1, ?_, by rw [h2]; exact hv⟩ (ih (fun e he => hk e (List.mem_cons_of_mem _ he)) hr)
      obtain ⟨k, e1, e2⟩ := hk e List.mem_cons_self
      rw [e2, (intKind prog w).inj _ _ _ e1 h1]; rfl
theorem dict_back {h : Heap} {d : Addr} {es : List (Int × AV)} {kvs : List (Int × Value)} {ep : Nat} (hd : h.DictAt (intKind C.prog C.w) d kvs ep) (hv : KvR W es kvs) : OR W h (.dict es ep) d := by
  obtain ⟨⟨c, dd, dt, sl⟩, en, ho, ⟨hc1, hc2, hc3⟩, hdat, hk, hp, hn⟩ := hd
  dsimp only at hc1 hc2 hc3 hdat
  subst hc1 hc2 hc3 hdat
  exact ⟨en, ho, hv.pairsR hp (fun e he => hk e (Array.mem_toList_iff.mp he)), by rw [← hv.keys]; exact hn⟩

noncomputable def newD : K AV := newO (.dict [] 0)

noncomputable def objSub (k : Int) : AO → Option AV
  | .dict es _ => getD es k
  | .list vs => itemAt vs k
  | _ => none
noncomputable def subV (σ : List AO) (k : Int) : AV → Option AV
  | .obj o => (σ[o]?).bind (objSub k)
  | .tup vs => itemAt vs k
  | .lst vs => itemAt vs k
  | .str x => (strAt x k).map .str
  | _ => none
noncomputable def subA (a i : AV) : K AV := fun st => i.int?.bind fun k => (subV st.σ k a).map fun v => (v, st)
noncomputable def objSet (k : Int) (x : AV) : AO → Option AO
  | .dict es ep => if es.length < 2 ^ 20 then some (.dict (putD es k x) (if es.any (fun p => p.1 = k) then ep else ep + 1)) else none
  | .list vs => if 0 ≤ k ∧ k < vs.length ∧ k < 2 ^ 62 then some (.list (vs.set k.toNat x)) else none
  | _ => none
noncomputable def setItemA (a i x : AV) : K Unit := fun st => a.oid.bind fun o => i.int?.bind fun k => (st.σ[o]?).bind fun ob => (objSet k x ob).map fun ob' => ((), ⟨st.θ, st.σ.set o ob'⟩)
theorem isInt_self (k : Int) (t : Tok) : (intKind C.prog C.w).is k (.int k t) = true := by simp [intKind, Value.isInt]
theorem setItemA_sound {a i x : AV} {va vi vx : Value} (I : Inv C Γ env W st s.heap) (ha : VR W a va) (hi : VR W i vi) (hx : VR W x vx) : Run C Γ env W A s (setItem va vi vx) (setItemA a i x st) fun u1 u2 u3 => True :=
  .obind fun o ho => .obind fun k hk => .obind fun ob hob => .omap fun ob' hob' => VR.objE (P := fun va => Run C Γ env W A s (setItem va vi vx) _ fun u1 u2 u3 => True) ha ho fun l hl => hi.intE (P := fun vi => Run C Γ env W A s (setItem (.ref l) vi vx) _ fun u1 u2 u3 => True) hk fun t => .mk1 fun Q E hq => by
    revert hq
    cases ob with
    | dict es ep =>
      refine ite_some hob' fun hlt hq => Exists.elim (dictAt_kv I.rel hl hob) fun kvs r => setItem_ep (knd := intKind C.prog C.w) (k := k) (isInt_self k t) r.1 (fun h' hd' hs => ?_) (lt_line hlt r.2.len)
      rw [r.2.any] at hd'
      exact hq.upd I hl hs (dict_back hd' (r.2.put k hx)) _ trivial
    | list vs =>
      refine ite_some hob' fun hb hq => lstE I.rel hl (lstAt_of hob) fun items m hg hv hlen => ki_setAt hg hb.1 (Int.lt_trans hb.2.2 (by decide)) (hlen ▸ hb.2.1) ?_
      exact hq.upd I hl (Heap.SameBut.update s.heap _ (Obj.mapSeq (·.setIfInBounds k.toNat vx))) ⟨_, _, Heap.get?_update_self (Obj.mapSeq (·.setIfInBounds k.toNat vx)) hg rfl, by rw [Array.toList_setIfInBounds]; exact hv.set _ hx⟩ s.toks trivial
    | _ => exact nomatch hob'
theorem As.suba {o i : Expr} {pos : Pos} {f g : K AV} (ho : Ev C n Γ o f) (hi : Ev C n Γ i g) : As C n Γ (.Subscript o i pos) (fun x => K.bind f fun a => K.bind g fun i => setItemA a i x) := by
  refine ⟨fun A env W st s x vx ok I hx r st' e Q E hq => K.bindE e fun a st₁ e1 e => K.bindE e fun b st₂ e2 e => ?_⟩
  rw [assign_Subscript]
  refine wpAny_bind (wpAny_holding (ho.run A env W st s ok I _ _ e1 _ _ fun va W1 h1 tk1 I1 k1 v1 => ?_))
  refine wpAny_bind (wpAny_holding (hi.run A env W1 st₁ _ ok I1 _ _ e2 _ _ fun vi W2 h2 tk2 I2 k2 v2 => ?_))
  refine wpAny_bind (wpAny_standAt (wpAny_bind (wpAny_holding ?_)))
  exact setItemA_sound (s := { s with heap := h2, toks := tk2 }) I2 (v1.mono k2.le) v2 (hx.mono (k1.le.trans k2.le)) _ _ e _ _ fun u W3 h3 tk3 I3 k3 u1 => wpAny_release (hq r W3 h3 tk3 I3 (k1.trans (k2.trans k3)) trivial)
theorem Ex.assignSuba {o i : Expr} {pos' pos : Pos} {value : Expr} {f g k : K AV} (h : Ev C n Γ value f) (ho : Ev C n Γ o g) (hi : Ev C n Γ i k) (hs : ∀ env, swapsWith value (some (.Subscript o i pos')) pos.line env = pure false) :
    Ex C n Γ (.Assign [.Subscript o i pos'] value pos) (K.bind f fun x => K.bind g fun a => K.bind k fun i => K.bind (setItemA a i x) fun u1 => K.ret .next) := by
  refine ⟨fun A env W st s ok I v st' e Q E hq => K.bindE e fun x st₁ e1 e => K.bindE e fun a st₂ e2 e => K.bindE e fun b st₃ e3 e => ?_⟩
  refine wpAny_Assign_Subscript (h.run A env W st s ok I _ _ e1 _ _ fun vx W1 h1 tk1 I1 k1 v1 => ?_) (hs env)
  refine ho.run A env W1 st₁ _ ok I1 _ _ e2 _ _ fun va W2 h2 tk2 I2 k2 v2 => ?_
  refine hi.run A env W2 st₂ _ ok I2 _ _ e3 _ _ fun vi W3 h3 tk3 I3 k3 v3 => ?_
  exact Run.finE (k := fun u1 => Flow.next) (R' := FR) (s := { s with heap := h3, toks := tk3 }) (setItemA_sound (s := { s with heap := h3, toks := tk3 }) I3 (v2.mono k3.le) v3 (v1.mono (k2.le.trans k3.le))) (fun u1 u2 u3 u4 => .next) _ _ e Q E fun c W4 h4 tk4 I4 k4 r => hq c W4 h4 tk4 I4 (k1.trans (k2.trans (k3.trans k4))) r
theorem subA_sound {a i : AV} {va vi : Value} {value slice : Expr} (hs : plainSlice slice = true) (I : Inv C Γ env W st s.heap) (ha : VR W a va) (hi : VR W i vi) : Run C Γ env W A s (subscriptTail value slice va vi) (subA a i st) VR :=
  .obind fun k hk => .omap fun u hu => hi.intE (P := fun vi => Run C Γ env W A s (subscriptTail value slice va vi) _ VR) hk fun t => by
    have lst : ∀ l items m, s.heap.get? l = some { cls := .type "list", data := .seq items m } → ∀ vs, VRs W vs items.toList → itemAt vs k = some u → Run C Γ env W A s (subscriptTail value slice (.ref l) (.int k t)) (some (u, st)) VR := fun l items m hl vs hv e =>
      itemAtE hv e fun k1 k2 j x hj hx hr => .mk1 fun Q E hq => getItem_tail hs (T := "list") ⟨_, hl, rfl⟩ slot_list_getitem.lookup (getItem_list_any hl k1 k2 hj hx (hq.at I s.toks hr))
    cases a with
    | obj o =>
      refine ha.objE rfl fun l hl => bindE hu fun ob hob hu => ?_
      cases ob with
      | dict es ep =>
        refine Exists.elim (dictAt_kv I.rel hl hob) fun kvs r => (r.2.get k).elim (fun h => nomatch h.1.symm.trans hu) fun h => Exists.elim h fun a' h => Exists.elim h fun v' h => .mk1 fun Q E hq => ?_
        exact getItem_tail hs r.1.dictOf.typeIs slot_dict_getitem.lookup (wpAny_getItem_of (knd := intKind C.prog C.w) (k := k) (isInt_self k t) r.1.dictOf.mapOf h.2.1 (hq.at I _ (Option.some.inj (h.1.symm.trans hu) ▸ h.2.2)))
      | list vs => exact lstE I.rel hl (lstAt_of hob) fun items m hg hv u1 => lst l items m hg vs hv hu
      | _ => exact nomatch hu
    | tup vs => exact tupE I.rel ha rfl fun l items m hl hv u1 => itemAtE hv hu fun k1 k2 j x hj hx hr => .mk1 fun Q E hq => getItem_tail hs (T := "tuple") ⟨_, hl, rfl⟩ slot_tuple_getitem.lookup (getItem_tuple (isTup_of hl) (by omega) (by omega) hj hx (hq.at I s.toks hr))
    | lst vs => exact ha.lstE rfl fun l items m hl hv => lst l items m (I.rel.imm _ hl) vs hv hu
    | str x =>
      refine ha.strE rfl fun t' => mapE hu fun y hy => ite_none hy fun hb hy => mapE hy fun c hc => .mk1 fun Q E hq => getItem_tail hs (T := "str") rfl slot_str_getitem.lookup (PyProof.Rows.getItem_str ?_ hc (hq.at I _ (.str ..)))
      rw [Bool.or_eq_false_iff]
      exact ⟨decide_eq_false (by omega), decide_eq_false (by omega)⟩
    | _ => exact nomatch hu
theorem Ev.suba {value slice : Expr} {pos : Pos} {f g : K AV} (hv : Ev C n Γ value f) (hi : Ev C n Γ slice g) (hs : plainSlice slice = true) : Ev C n Γ (.Subscript value slice pos) (K.bind f fun a => K.bind g fun i => subA a i) :=
  ⟨fun A env W st s ok I => .stepE (S := fun va Q E s₁ => wpAny (model C.prog C.w) A (eval slice env) (fun vi s₂ => wpAny (model C.prog C.w) A (subscriptTail value slice va vi) Q E s₂) E s₁) (fun Q E h => Subscript_ h) (hv.run A env W st s ok I) fun a st₁ va W1 h1 tk1 I1 v1 =>
    Run.step2 (hi.run A env W1 st₁ _ ok I1) fun b st₂ vb W2 h2 tk2 I2 k2 v2 => subA_sound hs I2 (v1.mono k2.le) v2⟩
end
end Mine
set_option Elab.async false
set_option maxRecDepth 100000
namespace Mine
open PySem PyProof.Rows PySem.W PySem.SeqAt

section
variable {C : Cx} {n : Nat} {Γ : SCx} {env : Env} {W : Wd} {A : Around} {s : Shared} {st : St}

theorem Ev.dict0 {pos : Pos} : Ev C n Γ (.Dict [] [] pos) newD :=
  ⟨fun A env W st s ok I => .mk1 fun Q E hq => wpAny_Dict_empty (hq.new I emptyDict ⟨#[], Heap.get?_push_size _ rfl, .nil, List.nodup_nil⟩ s.toks)⟩

noncomputable def hasO (k : Int) : AO → Option Bool
  | .dict es _ => some (getD es k).isSome
  | .set S _ => some (S k)
  | _ => none
noncomputable def inB (a b : AV) : K Bool := fun st => a.int?.bind fun k => b.oid.bind fun o => (st.σ[o]?).bind fun ob => (hasO k ob).map fun c => (c, st)
noncomputable def AV.typ? : AV → Option String
  | .val (.type x) => some x
  | _ => Option.none
noncomputable def isB (a b : AV) : K Bool := fun st => a.typ?.bind fun x => b.typ?.map fun y => (x == y, st)
noncomputable def boolK (f : K Bool) : K AV := K.bind f fun c => K.ret (.bool c)
noncomputable def notK (f : K Bool) : K AV := K.bind f fun c => K.ret (.bool (!c))
noncomputable def cmpB (op : CmpOp) (a b : AV) : K AV := match op with
  | .In => orK (boolK (inB a b)) (cmpA .In a b)
  | .NotIn => orK (notK (inB a b)) (cmpA .NotIn a b)
  | .Is => orK (boolK (isB a b)) (cmpA .Is a b)
  | .IsNot => orK (notK (isB a b)) (cmpA .IsNot a b)
  | op => cmpA op a b
theorem KvR.isSome {W : Wd} {es : List (Int × AV)} {kvs : List (Int × Value)} (h : KvR W es kvs) (k : Int) : (valueAt kvs k).isSome = (getD es k).isSome :=
  (h.get k).elim (fun q => by rw [q.1, q.2]; rfl) fun q => Exists.elim q fun a q => Exists.elim q fun v q => by rw [q.1, q.2.1]; rfl
theorem beq_type (x y : String) : ((Value.type x == Value.type y) : Bool) = (x == y) := by
  by_cases h : x = y
  · subst h; simp
  · have : ¬ (Value.type x = Value.type y) := fun e => h (by cases e; rfl)
    rw [beq_eq_false_iff_ne.mpr this, beq_eq_false_iff_ne.mpr h]
noncomputable def Both (C : Cx) (Γ : SCx) (env : Env) (W : Wd) (A : Around) (s : Shared) (op op' : CmpOp) (va vb : Value) (out : Option (Bool × St)) : Prop :=
  ∀ c st', out = some (c, st') → ∀ Q E, (Post C Γ env W s VR (.bool c) st' Q → wpAny (model C.prog C.w) A (compareOp op va vb) Q E s) ∧ (Post C Γ env W s VR (.bool (!c)) st' Q → wpAny (model C.prog C.w) A (compareOp op' va vb) Q E s)
theorem Both.yes {op op' : CmpOp} {va vb : Value} {f : K Bool} (h : Both C Γ env W A s op op' va vb (f st)) : Run C Γ env W A s (compareOp op va vb) (boolK f st) VR := fun b st' e Q E hq => K.bindE e fun c st₁ e1 e2 => by
  cases e2
  exact (h c _ e1 Q E).1 hq
theorem Both.no {op op' : CmpOp} {va vb : Value} {f : K Bool} (h : Both C Γ env W A s op op' va vb (f st)) : Run C Γ env W A s (compareOp op' va vb) (notK f st) VR := fun b st' e Q E hq => K.bindE e fun c st₁ e1 e2 => by
  cases e2
  exact (h c _ e1 Q E).2 hq
theorem inB_sound {a b : AV} {va vb : Value} (I : Inv C Γ env W st s.heap) (ha : VR W a va) (hb : VR W b vb) : Both C Γ env W A s .In .NotIn va vb (inB a b st) := by
  intro c st' e Q E
  refine Exists.elim (Option.bind_eq_some_iff.mp e) fun k p => Exists.elim (Option.bind_eq_some_iff.mp p.2) fun o q => Exists.elim (Option.bind_eq_some_iff.mp q.2) fun ob r => Exists.elim (Option.map_eq_some_iff.mp r.2) fun c' h => ?_
  cases h.2
  refine ha.intE p.1 fun t => hb.objE q.1 fun l hl => ?_
  have h := h.1
  have r := r.1
  clear e p q
  cases ob with
  | dict es ep =>
    refine Exists.elim (dictAt_kv I.rel hl r) fun kvs x => ?_
    cases h
    rw [← x.2.isSome k]
    exact ⟨fun hq => wpAny_in_of (isInt_self k t) (notSys I.rel (mem_of_get hl)) x.1.dictOf.mapOf (hq.at I _ (.bool _)), fun hq => wpAny_notIn_of (isInt_self k t) (notSys I.rel (mem_of_get hl)) x.1.dictOf.mapOf (hq.at I _ (.bool _))⟩
  | set S m =>
    refine Exists.elim (I.rel.objs _ _ _ r hl) fun o x => ?_
    cases h
    exact ⟨fun hq => wpAny_inSet_of (isInt_self k t) rfl ((x.2.1.kind C.prog C.w).setOf x.1 x.2.2) (hq.at I _ (.bool _)), fun hq => wpAny_notInSet_of (isInt_self k t) rfl ((x.2.1.kind C.prog C.w).setOf x.1 x.2.2) (hq.at I _ (.bool _))⟩
  | _ => exact nomatch h
theorem VR.typE {a : AV} {v : Value} {x : String} (h : VR W a v) (e : a.typ? = some x) : v = .type x := by
  cases h with
  | val v => cases v <;> cases e; rfl
  | _ => cases e
theorem isB_sound {a b : AV} {va vb : Value} (I : Inv C Γ env W st s.heap) (ha : VR W a va) (hb : VR W b vb) : Both C Γ env W A s .Is .IsNot va vb (isB a b st) := by
  intro c st' e Q E
  refine Exists.elim (Option.bind_eq_some_iff.mp e) fun x p => Exists.elim (Option.map_eq_some_iff.mp p.2) fun y q => ?_
  cases q.2
  rw [ha.typE p.1, hb.typE q.1]
  exact ⟨fun hq => wpAny_is_plain rfl (beq_type x y ▸ hq.at I _ (.bool _)), fun hq => wpAny_isNot_plain rfl (beq_type x y ▸ hq.at I _ (.bool _))⟩
theorem cmpB_sound {op : CmpOp} {a b : AV} {va vb : Value} (ok : AOk C n A) (I : Inv C Γ env W st s.heap) (ha : VR W a va) (hb : VR W b vb) : Run C Γ env W A s (compareOp op va vb) (cmpB op a b st) VR := by
  cases op with
  | In => exact .orK (inB_sound I ha hb).yes (cmpA_sound ok I ha hb)
  | NotIn => exact .orK (inB_sound I ha hb).no (cmpA_sound ok I ha hb)
  | Is => exact .orK (isB_sound I ha hb).yes (cmpA_sound ok I ha hb)
  | IsNot => exact .orK (isB_sound I ha hb).no (cmpA_sound ok I ha hb)
  | _ => exact cmpA_sound ok I ha hb
theorem Ev.cmpb {l r : Expr} {op : CmpOp} {pos : Pos} {f g : K AV} (hl : Ev C n Γ l f) (hr : Ev C n Γ r g) (hm : behindInMarks op r = false) : Ev C n Γ (.Compare l [op] [r] pos) (K.bind f fun a => K.bind g fun b => cmpB op a b) :=
  ⟨fun A env W st s ok I => .stepE (S := fun va Q E s₁ => wpAny (model C.prog C.w) A (eval r env) (fun vb s₂ => wpAny (model C.prog C.w) A (compareOp op va vb) Q E s₂) E s₁) (fun Q E h => wpAny_Compare1 h hm) (hl.run A env W st s ok I) fun a st₁ va W1 h1 tk1 I1 v1 =>
    Run.step2 (hr.run A env W1 st₁ _ ok I1) fun b st₂ vb W2 h2 tk2 I2 k2 v2 => cmpB_sound ok I2 (v1.mono k2.le) v2⟩
theorem Te.cmpb {l r : Expr} {op : CmpOp} {pos : Pos} {f g : K AV} (hl : Ev C n Γ l f) (hr : Ev C n Γ r g) (hm : behindInMarks op r = false) : Te C n Γ (.Compare l [op] [r] pos) (K.bind f fun a => K.bind g fun b => K.bind (cmpB op a b) truthK) :=
  ⟨fun A env W st s ok I v st' e Q E hq => wpAny_isTrue_Compare1 (K.bindE e fun a st₁ e1 e => hl.run A env W st s ok I _ _ e1 _ _ fun va W1 h1 tk1 I1 k1 v1 => K.bindE e fun b st₂ e2 e => hr.run A env W1 st₁ _ ok I1 _ _ e2 _ _ fun vb W2 h2 tk2 I2 k2 v2 =>
    Run.step2 (R := VR) (R' := fun u1 a b => a = b) (s := { s with heap := h2, toks := tk2 }) (cmpB_sound ok I2 (v1.mono k2.le) v2) (fun c st₃ vc W3 h3 tk3 I3 k3 v3 => truthK_sound I3 v3) v st' e Q E fun d W4 h4 tk4 I4 k4 v4 => hq d W4 h4 tk4 I4 (k1.trans (k2.trans k4)) v4) hm⟩

noncomputable def isDct (a : AV) (st : St) : Prop := ∃ o es ep, a = .obj o ∧ st.σ[o]? = some (.dict es ep)
theorem Res.dict {name : Str} {id : String} (slot : Slot "dict" name id) (hty : typeOf (.builtin id) = pure (.type "method_descriptor")) : Res C name (.builtin id) isDct := by
  intro A W st s a v R hv ⟨o, es, ep, ha, e⟩ Q E pl hq
  subst ha
  revert hq
  exact hv.objE rfl fun l hl hq => Exists.elim (dictAt_kv R hl e) fun kvs x => getMethod_builtin x.1.dictOf.typeIs F.plainAttrs_dict slot hty x.1.dictOf.mapOf.noDict hq
noncomputable def dictAt (σ : List AO) (o : Nat) : Option (List (Int × AV) × Nat) := match σ[o]? with
  | some (.dict es ep) => some (es, ep)
  | _ => none
theorem dictAt_iff {σ : List AO} {d : Nat} {p : List (Int × AV) × Nat} (e : dictAt σ d = some p) : σ[d]? = some (.dict p.1 p.2) := by
  unfold dictAt at e
  cases h : σ[d]? with
  | none => rw [h] at e; cases e
  | some o =>
    rw [h] at e
    cases o <;> cases e
    rfl
theorem dictAt_at {σ : List AO} {o : Nat} {es : List (Int × AV)} {ep : Nat} (h : σ[o]? = some (.dict es ep)) : Mine.dictAt σ o = some (es, ep) := by unfold Mine.dictAt; rw [h]
noncomputable def dget2 (a i : AV) : K AV := fun st => a.oid.bind fun o => i.int?.bind fun k => (Mine.dictAt st.σ o).map fun p => ((getD p.1 k).getD .none, st)
noncomputable def dgetK : List AV → K AV := fun args st => (two? args).bind fun p => dget2 p.1 p.2 st
theorem Cal.dget : Cal C n Γ (.builtin "dict.get") dgetK := .two (F := dget2) fun A env W st s a i v w ok I hv hw =>
  .obind fun o ho => .obind fun k hk => .omap fun p hp => VR.objE (v := v) hv ho fun l hl => hw.intE hk fun t => .mk1 fun Q E hq => Exists.elim (dictAt_kv I.rel hl (dictAt_iff hp)) fun kvs x =>
    call_meetsIn F.slot_dict_get x.1.dictOf.typeIs F.entry_dict_get (F.args_dict_get_2 _ _) (meets_dict_get (intKind C.prog C.w) _ (isInt_self k t) (notSys I.rel (mem_of_get hl))) ⟨_, x.1.dictOf.mapOf, by
      show Q _ _
      rcases x.2.get k with ⟨h1, h2⟩ | ⟨a', v', h1, h2, h3⟩
      · rw [h2]; rw [h1] at hq; exact hq.at I _ .none
      · rw [h2]; rw [h1] at hq; exact hq.at I _ h3⟩

noncomputable def delItemK (a i : AV) : K Unit := fun st => a.oid.bind fun o => i.int?.bind fun k => (Mine.dictAt st.σ o).bind fun p => if p.1.length < 2 ^ 20 ∧ (getD p.1 k).isSome = true then some ((), ⟨st.θ, st.σ.set o (.dict (delD p.1 k) (p.2 + 1))⟩) else none
theorem delItemK_sound {a i : AV} {va vi : Value} (I : Inv C Γ env W st s.heap) (ha : VR W a va) (hi : VR W i vi) : Run C Γ env W A s (delItem va vi) (delItemK a i st) fun u1 u2 u3 => True :=
  .obind fun o ho => .obind fun k hk => .obind fun p hp => .ite fun hlt => VR.objE (P := fun va => Run C Γ env W A s (delItem va vi) _ fun u1 u2 u3 => True) ha ho fun l hl => hi.intE (P := fun vi => Run C Γ env W A s (delItem (.ref l) vi) _ fun u1 u2 u3 => True) hk fun t => .mk1 fun Q E hq => Exists.elim (dictAt_kv I.rel hl (dictAt_iff hp)) fun kvs x =>
    delItem_ep (isInt_self k t) x.1 (x.2.isSome k ▸ hlt.2) (fun h' hd' hs => hq.upd I hl hs (dict_back hd' (x.2.del k)) _ trivial) (lt_line hlt.1 x.2.len)
theorem Ex.delSub {o i : Expr} {pos' pos : Pos} {f g : K AV} (ho : Ev C n Γ o f) (hi : Ev C n Γ i g) : Ex C n Γ (.Delete [.Subscript o i pos'] pos) (K.bind f fun a => K.bind g fun i => K.bind (delItemK a i) fun u1 => K.ret .next) := by
  refine ⟨fun A env W st s ok I v st' e Q E hq => K.bindE e fun a st₁ e1 e => K.bindE e fun b st₂ e2 e => K.bindE e fun u st₃ e3 e => ?_⟩
  cases e
  refine wpAny_Delete (wpAny_deleteEach_cons (wpAny_delete_Subscript (ho.run A env W st s ok I _ _ e1 _ _ fun va W1 h1 tk1 I1 k1 v1 => ?_)))
  refine hi.run A env W1 st₁ _ ok I1 _ _ e2 _ _ fun vb W2 h2 tk2 I2 k2 v2 => ?_
  exact delItemK_sound (s := { s with heap := h2, toks := tk2 }) I2 (v1.mono k2.le) v2 _ _ e3 _ _ fun u W3 h3 tk3 I3 k3 u1 => wpAny_deleteEach_nil (hq .next W3 h3 tk3 I3 (k1.trans (k2.trans k3)) .next)

noncomputable def setK : List AV → K AV
  | [] => newO (.set (fun u1 => false) 0)
  | _ => fun u1 => none
theorem Cal.set : Cal C n Γ (.type "set") setK := by
  intro A env W st s args vs ok I hv
  cases args with
  | nil => exact hv.nilE (.mk1 fun Q E hq => call_set_0 fun led => hq.new I { cls := .type "set", dict := none, data := .set #[] 0 (.fresh 0 0 led) } ⟨_, Heap.get?_push_size _ rfl, intSetOf_fresh led, by decide⟩ s.toks)
  | cons _ _ => exact .stuck
noncomputable def setAt (σ : List AO) (o : Nat) : Option ((Int → Bool) × Nat) := match σ[o]? with
  | some (.set S m) => some (S, m)
  | _ => none
theorem setAt_iff {σ : List AO} {d : Nat} {p : (Int → Bool) × Nat} (e : setAt σ d = some p) : σ[d]? = some (.set p.1 p.2) := by
  unfold setAt at e
  cases h : σ[d]? with
  | none => rw [h] at e; cases e
  | some o =>
    rw [h] at e
    cases o <;> cases e
    rfl
theorem setAt_of {σ : List AO} {o : Nat} {S : Int → Bool} {m : Nat} (h : σ[o]? = some (.set S m)) : setAt σ o = some (S, m) := by unfold setAt; rw [h]
noncomputable def isSt (a : AV) (st : St) : Prop := ∃ o S m, a = .obj o ∧ st.σ[o]? = some (.set S m)
theorem Res.setAdd : Res C "add" (.builtin "set.add") isSt := by
  intro A W st s a v R hv ⟨o, S, m, ha, e⟩ Q E pl hq
  subst ha
  revert hq
  exact hv.objE rfl fun l hl hq => Exists.elim (R.objs _ _ _ e hl) fun o' x => getMethod_set_add ((x.2.1.kind C.prog C.w).setOf x.1 x.2.2) hq
noncomputable def sadd2 (a i : AV) : K AV := fun st => a.oid.bind fun o => i.int?.bind fun k => (setAt st.σ o).bind fun p => if p.2 < 4000 then some (.none, ⟨st.θ, st.σ.set o (.set (fun x => p.1 x || decide (x = k)) (if p.1 k then p.2 else p.2 + 1))⟩) else none
noncomputable def saddK : List AV → K AV := fun args st => (two? args).bind fun p => sadd2 p.1 p.2 st
theorem Cal.sadd : Cal C n Γ (.builtin "set.add") saddK := .two (F := sadd2) fun A env W st s a i v w ok I hv hw =>
  .obind fun o ho => .obind fun k hk => .obind fun p hp => .ite fun hlt => VR.objE (v := v) hv ho fun l hl => hw.intE hk fun t => .mk1 fun Q E hq => Exists.elim (I.rel.objs _ _ _ (setAt_iff hp) hl) fun o' x =>
    call_set_add (isInt_self k t) rfl ((x.2.1.kind C.prog C.w).setOf x.1 x.2.2) (by unfold scanBound; omega) fun h' hs hS => Exists.elim hS.objOf fun o2 y => hq.upd I hl hs ⟨o2, y.1, y.2.intSetOf, by unfold scanBound; split <;> omega⟩ _ .none

noncomputable def clear1 (a : AV) : K AV := fun st => a.oid.bind fun o => (lstAt st.σ o).bind fun vs => if vs.length < 2 ^ 20 then some (.none, ⟨st.θ, st.σ.set o (.list [])⟩) else none
noncomputable def clearK : List AV → K AV := fun args st => (one? args).bind fun a => clear1 a st
theorem Cal.clear : Cal C n Γ (.builtin "list.clear") clearK := .one (F := clear1) fun A env W st s a v ok I hv =>
  .obind fun o ho => .obind fun vs hvs => .ite fun hlt => VR.objE (v := v) hv ho fun l hl => lstE I.rel hl hvs fun items m hg hr hlen => .mk1 fun Q E hq =>
    call_meets F.slot_list_clear ⟨_, hg, rfl⟩ F.entry_list_clear (F.args_list_clear_1 _) (AutoSeq1.list_clear_list_0 _ items m (lt_line hlt hlen)) ⟨hg, hq.upd I hl (Heap.SameBut.update s.heap _ (Obj.mapSeq fun u1 => #[])) ⟨_, _, Heap.get?_update_self (Obj.mapSeq fun u1 => #[]) hg rfl, .nil⟩ _ .none⟩
end
end Mine
set_option Elab.async false
set_option maxRecDepth 100000
namespace Mine
open PySem PyProof.Rows PySem.W PySem.SeqAt

noncomputable abbrev NX : Value := .builtin "list_iterator.__next__"
theorem li_next : typeLookup (.type "list_iterator") "__next__" = pure (some NX) := slot_listiter_next.lookup
theorem wd_type : typeOf NX = pure (.type "wrapper_descriptor") := by show builtinType _ = _; rw [builtinType_eq_fast]; kernel_rfl
theorem wd_get : typeLookup (.type "wrapper_descriptor") "__get__" = pure (some (.builtin "wrapper_descriptor.__get__")) := by rw [typeLookup_type, builtinLookup_eq_fast]; kernel_rfl
theorem wd_set : typeLookup (.type "wrapper_descriptor") "__set__" = pure none := by rw [typeLookup_type, builtinLookup_eq_fast]; kernel_rfl
theorem wd_del : typeLookup (.type "wrapper_descriptor") "__delete__" = pure none := by rw [typeLookup_type, builtinLookup_eq_fast]; kernel_rfl
theorem li_ga : typeLookup (.type "list_iterator") "__getattribute__" = pure (some (.builtin "object.__getattribute__")) := by rw [typeLookup_type, builtinLookup_eq_fast]; kernel_rfl
theorem li_gattr : typeLookup (.type "list_iterator") "__getattr__" = pure none := by rw [typeLookup_type, builtinLookup_eq_fast]; kernel_rfl
theorem wd_slot : Slot "wrapper_descriptor" "__get__" "wrapper_descriptor.__get__" :=
  .of (owner := "wrapper_descriptor") (n := "__get__") wd_get (by decide +kernel) (by decide +kernel) (by decide +kernel) (by first | exact .inl (by decide +kernel) | exact .inr (by decide +kernel)) (by rw [isSubtype_type]; kernel_rfl)
theorem wd_entry : entryFor table "wrapper_descriptor.__get__" = some Builtin.«wrapper_descriptor.__get__» := entryFor_of_tree (by kernel_rfl)
theorem wd_args (a b c : Value) : argsOk "wrapper_descriptor.__get__" ⟨[a, b, c], []⟩ := by unfold argsOk; kernel_rfl
theorem sub_li : isSubtype (.type "list_iterator") (.type "list_iterator") = pure true := by rw [isSubtype_type]; kernel_rfl

theorem li_slot : Slot "list_iterator" "__getattribute__" "object.__getattribute__" :=
  .of (owner := "object") (n := "__getattribute__") li_ga (by decide +kernel) (by decide +kernel) (by decide +kernel) (by first | exact .inl (by decide +kernel) | exact .inr (by decide +kernel)) (by rw [isSubtype_type]; kernel_rfl)
theorem cut_li : ".".intercalate ("list_iterator.__next__".cutAt '.').dropLast = "list_iterator" := by decide +kernel
theorem wrap_get {prog : Program} {w : World} {A : Around} {E : Value → Shared → Prop} {s : Shared} {I : Addr} {Q : Value → Shared → Prop} (hT : s.TypeIs (.ref I) "list_iterator")
    (h : Q (.ref s.heap.objs.size) { s with heap := s.heap.push { cls := .type "method-wrapper", data := .fields #[NX, .ref I] } }) :
    wpAny (model prog w) A (call (.builtin "wrapper_descriptor.__get__") [NX, .ref I, .type "list_iterator"]) Q E s := by
  refine wpAny_call_entry wd_slot (show s.TypeIs NX "wrapper_descriptor" from wd_type) wd_entry ?_ (wd_args _ _ _)
  obtain ⟨hp, g, d, tk, os⟩ := s
  have f1 : isSubtype (.type "list_iterator") (.type (".".intercalate ("list_iterator.__next__".cutAt '.').dropLast)) = pure true := by rw [cut_li]; exact sub_li
  unfold Builtin.«wrapper_descriptor.__get__»
  repeat (any_goals (first | assumption | wp_step))
  exact ⟨_, rfl, h⟩
theorem getattribute_next {prog : Program} {w : World} {A : Around} {E : Value → Shared → Prop} {s : Shared} {I : Addr} {u : Tok} {vs : Array Value} {Q : Value → Shared → Prop} (hI : s.heap.get? I = some { cls := .type "list_iterator", data := .fields vs })
    (h : Q (.ref s.heap.objs.size) { s with heap := s.heap.push { cls := .type "method-wrapper", data := .fields #[NX, .ref I] } }) :
    wpAny (model prog w) A (call (.builtin "object.__getattribute__") [.ref I, .str "__next__" u]) Q E s := by
  have hT : s.TypeIs (.ref I) "list_iterator" := ⟨_, hI, rfl⟩
  refine wpAny_call_entry li_slot hT F.entry_object_getattribute ?_ (F.args_object_getattribute_2 _ _)
  obtain ⟨hp, g, d, tk, os⟩ := s
  have f1 := li_next
  have f2 : (⟨hp, g, d, tk, os⟩ : Shared).TypeIs NX "wrapper_descriptor" := wd_type
  have f3 := wd_get
  have f4 := wd_set
  have f5 := wd_del
  unfold Builtin.«object.__getattribute__»
  repeat (any_goals (first | assumption | ((with_reducible show wpAny _ _ (call (Value.builtin "wrapper_descriptor.__get__") _ _) _ _ _); refine wrap_get hT ?_) | wp_step))
  exact ⟨_, rfl, h⟩
theorem getAttr_next {prog : Program} {w : World} {A : Around} {E : Value → Shared → Prop} {s : Shared} {I : Addr} {vs : Array Value} {expr : Bool} {Q : Value → Shared → Prop} (hI : s.heap.get? I = some { cls := .type "list_iterator", data := .fields vs })
    (h : ∀ tk, Q (.ref s.heap.objs.size) { s with heap := s.heap.push { cls := .type "method-wrapper", data := .fields #[NX, .ref I] }, toks := tk }) :
    wpAny (model prog w) A (getAttr (.ref I) "__next__" expr) Q E s := by
  obtain ⟨hp, g, d, tk, os⟩ := s
  have hT : ∀ tk', (⟨hp, g, d, tk', os⟩ : Shared).TypeIs (.ref I) "list_iterator" := fun u1 => ⟨_, hI, rfl⟩
  have f3 := li_slot.lookup
  have f4 := li_slot.bind (.ref I)
  have f5 := li_gattr
  unfold getAttr getAttrBy
  repeat (any_goals (first | assumption | exact hT _ | ((with_reducible show wpAny _ _ (call (Value.builtin "object.__getattribute__") _ _) _ _ _); refine getattribute_next hI ?_) | wp_step))
  rw [if_neg (show ¬ ((expr && onTheHeap (Value.builtin "object.__getattribute__")) = true) from by cases expr <;> decide)]
  repeat (any_goals (first | assumption | exact hT _ | ((with_reducible show wpAny _ _ (call (Value.builtin "object.__getattribute__") _ _) _ _ _); refine getattribute_next hI ?_) | wp_step))
  exact h _

theorem bound_ok (I : Addr) : checkBoundCall "list_iterator.__next__" ⟨[.ref I], []⟩ = pure () := by kernel_rfl
theorem quiet_next (args : Args) : (Code.builtin "list_iterator.__next__" args).quiet = true := plainId_quiet (by decide +kernel) args
section
variable {prog : Program} {w : World} {A : Around} {E : Value → Shared → Prop} {s : Shared}
theorem call_wrap {m I : Addr} {Q : Value → Shared → Prop} (hm : s.heap.get? m = some { cls := .type "method-wrapper", data := .fields #[NX, .ref I] })
    (h : wpAny (model prog w) A.in1 (Builtin.«list_iterator.__next__» ⟨[.ref I], []⟩) (fun fin s' => ∃ v, fin = .done (.ret v) ∧ Q v s') E s) : wpAny (model prog w) A (call (.ref m) []) Q E s := by
  refine wpAny_call (codeAny_of_tree ?_)
  show wpAny _ A.in1 (callAny (.ref m) ⟨[], []⟩) _ _ s
  simp only [callAny]
  refine wpAny_bind (wpAny_load hm ?_)
  show wpAny _ _ (checkBoundCall "list_iterator.__next__" ⟨[.ref I], []⟩ >>= _) _ _ s
  rw [bound_ok]
  refine wpAny_bind (wpAny_pure (wpAny_bind (wpAny_pure (wpAny_pure ⟨quiet_next _, codeAny_builtin entry_listiter_next ?_⟩))))
  rw [Around.under_plainId (by decide +kernel)]
  refine wpAny_mono h (fun fin s' h' => ?_) fun u1 u2 x => x
  obtain ⟨v, rfl, hv⟩ := h'
  exact hv
noncomputable abbrev liObj (l : Addr) (i : Nat) : Obj := { cls := .type "list_iterator", data := .fields #[.ref l, .int i 0] }
theorem wrap_item {m I l : Addr} {i : Nat} {items : Array Value} {x : Value} {Q : Value → Shared → Prop} (hm : s.heap.get? m = some { cls := .type "method-wrapper", data := .fields #[NX, .ref I] }) (ho : s.heap.get? I = some (liObj l i))
    (hl : s.heap.IsList l items) (hx : items[i]? = some x) (hQ : ∀ h', h'.get? I = some (liObj l (i + 1)) → Heap.SameBut I s.heap h' → Q x { s with heap := h' }) : wpAny (model prog w) A (call (.ref m) []) Q E s := by
  have hd : (liObj l i).data = .fields #[.ref l, .int i 0] := rfl
  obtain ⟨ol, hol, _, nl, hdl⟩ := hl
  refine call_wrap hm ?_
  show wpAny _ _ (field (.ref I) 0 >>= _) _ _ s
  refine wpAny_bind (wpAny_field ho hd (x := .ref l) rfl ?_)
  show wpAny _ _ (if (Value.ref l == Value.none) = true then _ else _) _ _ s
  rw [if_neg (show ¬ ((Value.ref l == Value.none) = true) from Bool.false_ne_true)]
  show wpAny _ _ (field (.ref I) 1 >>= _) _ _ s
  refine wpAny_bind (wpAny_field ho hd (x := .int i 0) rfl ?_)
  show wpAny _ _ (seqItems? (.ref l) >>= _) _ _ s
  refine wpAny_bind (wpAny_seqItems hol hdl ?_)
  simp only [Int.toNat_natCast, hx]
  refine wpAny_bind (wpAny_setField ho hd (by simp) (wpAny_pure ⟨x, rfl, hQ _ ?_ (Heap.SameBut.update ..)⟩))
  refine (Heap.get?_update_self _ ho (Obj.isFreed_of_fields (Obj.data_mapFields hd _))).trans ?_
  simp [Obj.mapFields, rawInt]
theorem wrap_end {m I l : Addr} {i : Nat} {items : Array Value} {Q : Value → Shared → Prop} (hh : A.handled = none) (hm : s.heap.get? m = some { cls := .type "method-wrapper", data := .fields #[NX, .ref I] }) (ho : s.heap.get? I = some (liObj l i))
    (hl : s.heap.IsList l items) (hx : items[i]? = none)
    (hE : ∀ h' e, Heap.ExtBut I s.heap h' → (∃ o, h'.get? I = some o) → s.heap.get? e = none → (∃ o fs a0, h'.get? e = some o ∧ o.cls = .type "StopIteration" ∧ o.data = .fields fs ∧ fs[0]? = some a0 ∧ fs[1]? = some .none) → E (.ref e) { s with heap := h' }) : wpAny (model prog w) A (call (.ref m) []) Q E s := by
  have hd : (liObj l i).data = .fields #[.ref l, .int i 0] := rfl
  obtain ⟨ol, hol, _, nl, hdl⟩ := hl
  refine call_wrap hm ?_
  show wpAny _ _ (field (.ref I) 0 >>= _) _ _ s
  refine wpAny_bind (wpAny_field ho hd (x := .ref l) rfl ?_)
  show wpAny _ _ (if (Value.ref l == Value.none) = true then _ else _) _ _ s
  rw [if_neg (show ¬ ((Value.ref l == Value.none) = true) from Bool.false_ne_true)]
  show wpAny _ _ (field (.ref I) 1 >>= _) _ _ s
  refine wpAny_bind (wpAny_field ho hd (x := .int i 0) rfl ?_)
  show wpAny _ _ (seqItems? (.ref l) >>= _) _ _ s
  refine wpAny_bind (wpAny_seqItems hol hdl ?_)
  simp only [Int.toNat_natCast, hx]
  refine wpAny_bind (wpAny_rule (wpAny_bind (wpAny_setField ho hd (by simp) ?_)))
  show wpAny _ _ (newExc (.type "StopIteration") [] >>= _) _ _ _
  refine wpAny_bind ?_
  simp only [newExc, newTuple]
  refine wpAny_bind (wpAny_newObj_type ?_ (by size_fits))
  refine wpAny_bind (m := firstArgMember _ _) (wpAny_of_eq (a := Value.none) (by first | rfl | (simp only [firstArgMember]; rfl)) ?_)
  refine wpAny_newObj_type ?_ (by size_fits)
  simp only [raiseNew]
  refine wpAny_bind (wpAny_handled ?_)
  first | rw [show A.in1.handled = none from hh] | rw [hh]
  refine wpAny_bind (wpAny_pure (wpAny_throw ?_))
  refine hE _ _ (((Heap.SameBut.update ..).extBut.push _).push _) ?_ ?_ ⟨_, _, _, Heap.get?_push_size _ rfl, rfl, rfl, rfl, rfl⟩
  · exact ⟨_, Heap.get?_push_of_some _ (Heap.get?_push_of_some _ (Heap.get?_update_self _ ho (Obj.isFreed_of_fields (Obj.data_mapFields hd _))))⟩
  · exact Heap.get?_none_of_le (by simp)
end
end Mine
set_option Elab.async false
set_option maxRecDepth 100000
namespace Mine
open PySem PyProof.Rows PySem.W PySem.SeqAt

section
variable {C : Cx} {n : Nat} {Γ : SCx} {env : Env} {W : Wd} {A : Around} {s : Shared} {st : St}

noncomputable def iter1 (a : AV) : K AV := fun st => a.oid.bind fun l => (lstAt st.σ l).bind fun u1 => newO (.liter l 0) st
noncomputable def iterK : List AV → K AV := fun args st => (one? args).bind fun a => iter1 a st
theorem Cal.iter : Cal C n Γ (.builtin "iter") iterK := .one (F := iter1) fun A env W st s a v ok I hv =>
  .obind fun l hl => .obind fun xs hx => VR.objE (v := v) hv hl fun la hla => lstE I.rel hla hx fun items m hg hr hlen => .mk1 fun Q E hq => by
    refine Calls.call_function_entry (by decide +kernel) (by decide +kernel) kdk_entry_iter (kdk_args_iter _) ?_
    unfold Builtin.«iter»
    refine wpAny_bind (m := someArgs "iter" 1 2 _) (wpAny_of_eq (a := [Value.ref la]) (by first | rfl | kernel_rfl!) ?_)
    show wpAny _ _ (pyIter (.ref la) >>= _) _ _ _
    exact wpAny_bind (wpAny_pyIter_list (isList_of hg) (wpAny_pure ⟨_, rfl, hq.new I (liObj la 0) ⟨la, (List.getElem?_append_left (List.getElem?_eq_some_iff.mp hla).1).trans hla, Heap.get?_push_size _ rfl⟩ s.toks⟩))

noncomputable def liAt (σ : List AO) (i : Nat) : Option (Nat × Nat) := match σ[i]? with
  | some (.liter l k) => some (l, k)
  | _ => none
theorem liAt_iff {σ : List AO} {d : Nat} {p : Nat × Nat} (e : liAt σ d = some p) : σ[d]? = some (.liter p.1 p.2) := by
  unfold liAt at e
  cases h : σ[d]? with
  | none => rw [h] at e; cases e
  | some o =>
    rw [h] at e
    cases o <;> cases e
    rfl
theorem liAt_of {σ : List AO} {i l k : Nat} (h : σ[i]? = some (.liter l k)) : liAt σ i = some (l, k) := by unfold liAt; rw [h]
noncomputable def nextAttrK (a : AV) : K AV := fun st => a.oid.bind fun i => (liAt st.σ i).map fun u1 => (.nxt i, st)
theorem Ev.nextAttr {o : Expr} {pos : Pos} {f : K AV} (h : Ev C n Γ o f) (hsup : isSuper o = false) : Ev C n Γ (.Attribute o "__next__" pos) (K.bind f nextAttrK) :=
  ⟨fun A env W st s ok I => .stepE (S := fun va Q E s₁ => wpAny (model C.prog C.w) A (getAttr va "__next__" true) Q E s₁) (fun Q E h => Attribute_any_ h (by rw [arm_eval_Attribute, attributeBase_plain hsup])) (h.run A env W st s ok I) fun a st₁ va W1 h1 tk1 I1 v1 =>
    Run.obind (t := getAttr va "__next__" true) (R := VR) (s := { s with heap := h1, toks := tk1 }) fun i hi => .omap fun p hp => VR.objE (P := fun va => Run C Γ env W1 A { s with heap := h1, toks := tk1 } (getAttr va "__next__" true) (some (.nxt i, st₁)) VR) v1 hi fun x hx => .mk1 fun Q E hq => Exists.elim (I1.rel.objs _ _ _ (liAt_iff hp) hx) fun la q =>
      getAttr_next (s := { s with heap := h1, toks := tk1 }) q.2 fun tk => Post.imm (s := { s with heap := h1, toks := tk1 }) hq I1 { cls := .type "method-wrapper", data := .fields #[NX, .ref x] } rfl (fun W' le hm => .nxt (le.at hx) hm) tk⟩

theorem ItOk.fresh {h : Heap} {x : Addr} (J : Inv C Γ env W st h) (hx : h.get? x = Option.none) : ItOk C env W h x := by
  refine ⟨hx, fun q => ?_, ?_, fun q hq e => ?_, fun p hp e => ?_, fun e he q => ?_⟩
  · obtain ⟨i, hi, rfl⟩ := List.mem_iff_getElem.mp q
    obtain ⟨o, ho⟩ := (J.rel.objs i _ _ (List.getElem?_eq_getElem (J.rel.len ▸ hi)) (List.getElem?_eq_getElem hi)).there
    rw [hx] at ho; cases ho
  · cases e : C.h₀.get? x with
    | none => rfl
    | some o => have h' := J.rel.old _ _ e; rw [hx] at h'; cases h'
  · have h' := J.rel.imm q hq
    rw [e, hx] at h'; cases h'
  · obtain ⟨_, _, _, o, ho⟩ := J.loc.out p hp
    rw [e, hx] at ho; cases ho
  · obtain ⟨_, L, g1, _, _, _, o, _, _, g5, _⟩ := J.rel.frs e he
    rw [g1] at q; cases q
    rw [hx] at g5; cases g5

theorem Rel.updX {σ : List AO} {h h' : Heap} (R : Rel C W σ h) {i : Nat} {a : Addr} {o : AO} (ha : W.φ[i]? = some a) (hs : Heap.ExtBut a h h') (ho : OR W h' o a) :
    Rel C W (σ.set i o) h' ∧ Keep W W [] h h' := by
  have hm := mem_of_get ha
  refine ⟨⟨R.ok, fun b x e => hs b x (R.oldNe hm e) (R.old b x e), fun p hp => hs p.1 _ (fun q => R.apart p hp (q ▸ hm)) (R.imm p hp), ?_, R.nodup, R.apart, R.new, R.big, fun j x b e eb => ?_, fun env he => ?_⟩,
    .of (.refl W) (fun b x e n u1 => hs b x (fun q => n (q ▸ hm)) e) (fun b x e => by
      by_cases q : b = a
      · rw [q]; exact ho.there
      · exact ⟨x, hs b x q e⟩) (fun u1 h1 h2 => absurd h1 h2) (fun u1 h => .inl h)⟩
  · rw [List.length_set]; exact R.len
  · by_cases hj : i = j
    · subst hj
      rw [ha] at eb; cases eb
      have hi := (List.getElem?_eq_some_iff.mp ha).1
      rw [R.len] at hi
      rw [List.getElem?_set_self hi] at e; cases e
      exact ho
    · rw [List.getElem?_set_ne hj] at e
      refine (R.objs j x b e eb).same fun y hy => hs b y (fun q => hj ?_) hy
      subst q
      exact (List.getElem?_inj (List.getElem?_eq_some_iff.mp ha).1 R.nodup).mp (ha.trans eb.symm)
  · obtain ⟨h0, L, h1, h2, h3, h4, o, es, ep, h5, h6⟩ := R.frs env he
    exact ⟨h0, L, h1, h2, h3, h4, o, es, ep, hs L _ (fun q => h2 (q ▸ hm)) h5, h6⟩

noncomputable def IsStop (h : Heap) (x : Addr) : Prop := ∃ (o : Obj) (fs : Array Value) (a0 : Value), h.get? x = some o ∧ o.cls = .type "StopIteration" ∧ o.data = .fields fs ∧ fs[0]? = some a0 ∧ fs[1]? = some .none
noncomputable def PostX (C : Cx) (Γ : SCx) (env : Env) (W : Wd) (s : Shared) (st' : St) (E : Value → Shared → Prop) : Prop :=
  ∀ W' h' tk x, Inv C Γ env W' st' h' → Keep W W' (priv Γ env) s.heap h' → ItOk C env W' s.heap x → IsStop h' x → E (.ref x) { s with heap := h', toks := tk }
structure Nx (C : Cx) (n : Nat) (Γ : SCx) (e : Expr) (f : K (Option AV)) : Prop where
  run : ∀ A env W st (s : Shared), AOk C n A → C.calm = true → Inv C Γ env W st s.heap → ∀ r st', f st = some (r, st') → ∀ (Q : Value → Shared → Prop) (E : Value → Shared → Prop),
    (∀ a, r = some a → Post C Γ env W s VR a st' Q) → (r = none → PostX C Γ env W s st' E) → wpAny (model C.prog C.w) A (eval e env) Q E s
noncomputable def AV.nx? : AV → Option Nat
  | .nxt i => some i
  | _ => Option.none
noncomputable def stepL (i l k : Nat) (st : St) : Option AV → Option AV × St
  | some v => (some v, ⟨st.θ, st.σ.set i (.liter l (k + 1))⟩)
  | none => (none, ⟨st.θ, st.σ.set i .dead⟩)
noncomputable def nextK (a : AV) : K (Option AV) := fun st => a.nx?.bind fun i => (liAt st.σ i).bind fun p => (lstAt st.σ p.1).map fun vs => stepL i p.1 p.2 st vs[p.2]?
@[elab_as_elim] theorem VR.nxE {a : AV} {v : Value} {i : Nat} {P : Value → Prop} (h : VR W a v) (e : a.nx? = some i) (k : ∀ x m, W.φ[i]? = some x → (m, ({ cls := .type "method-wrapper", data := .fields #[.builtin "list_iterator.__next__", .ref x] } : Obj)) ∈ W.ι → P (.ref m)) : P v := by
  cases h <;> cases e
  exact k _ _ (by assumption) (by assumption)
theorem nil_args {M : Model} {fv : Value} {pos : Pos} {Q : Args → Shared → Prop} {E : Value → Shared → Prop} (h : Q ⟨[], []⟩ s) : wpAny M A (evalArgs fv true (backTo pos (starEach [] env)) (backToKw pos (keywordEach [] env))) Q E s :=
  wpAny_evalArgs rfl rfl (wpAny_pure (wpAny_pure h))
theorem none_len {vs : List AV} {items : Array Value} {k : Nat} (h : vs[k]? = none) (e : vs.length = items.size) : items[k]? = none := Array.getElem?_eq_none_iff.mpr (e ▸ List.getElem?_eq_none_iff.mp h)

theorem Nx.call {o i : Expr} {ps pos : Pos} {f : K AV} (h : Ev C n Γ (.Subscript o i ps) f) : Nx C n Γ (.Call (.Subscript o i ps) [] [] pos) (K.bind f nextK) := by
  refine ⟨fun A env W st s ok hcalm I r st' e Q E hq hE => K.bindE e fun a st₁ e1 e2 => ?_⟩
  show wpAny _ A (do callWith pos (← eval (.Subscript o i ps) env) [] (backTo pos (starEach [] env)) (backToKw pos (keywordEach [] env))) Q E s
  refine wpAny_bind (h.run A env W st s ok I _ _ e1 _ _ fun fv W0 h0 tk0 I0 k0 v0 => ?_)
  refine Exists.elim (Option.bind_eq_some_iff.mp e2) fun it p => Exists.elim (Option.bind_eq_some_iff.mp p.2) fun lk q => Exists.elim (Option.map_eq_some_iff.mp q.2) fun vs r => ?_
  clear e e1 e2
  refine v0.nxE p.1 fun I' m hi hm => ?_
  refine callWith_gen (P := fun hh => hh.get? m = some { cls := .type "method-wrapper", data := .fields #[NX, .ref I'] }) (fun hh hm => ⟨.machine, by unfold keeperOf; exact (Looks.ld (part := none) hm).andThen .now⟩) (nil_args ⟨I0.rel.imm _ hm, ?_⟩)
  refine Exists.elim (I0.rel.objs _ _ _ (liAt_iff q.1) hi) fun la y => lstE I0.rel y.1 r.1 fun items m' hl hv hlen => ?_
  have r2 := r.2
  clear p q r v0
  cases ev : vs[lk.2]? with
  | some v =>
    rw [ev] at r2
    cases r2
    refine Exists.elim (hv.get ev) fun x hx => wrap_item (s := { s with heap := h0, toks := tk0 }) (I0.rel.imm _ hm) y.2 (isList_of hl) (Array.getElem?_toList ▸ hx.1) fun h2 hI2 hs2 => ?_
    have z := I0.rel.upd (o := .liter lk.1 (lk.2 + 1)) hi hs2 ⟨la, y.1, hI2⟩
    exact hq v rfl x W0 h2 tk0 (I0.keep z.1 z.2) (k0.trans z.2.wide) hx.2
  | none =>
    rw [ev] at r2
    cases r2
    refine wrap_end (s := { s with heap := h0, toks := tk0 }) (ok.handled hcalm) (I0.rel.imm _ hm) y.2 (isList_of hl) (none_len ev hlen) fun h2 x hs2 hI2 hx0 hx => ?_
    have z := I0.rel.updX (o := .dead) hi hs2 hI2
    exact hE rfl W0 h2 tk0 x (I0.keep z.1 z.2) (k0.trans z.2.wide) ((ItOk.fresh I0 hx0).back k0) hx
end

noncomputable def Cx.hot (C : Cx) : Cx := ⟨C.toBx, C.fr, false⟩
section
variable {C : Cx} {n : Nat} {Γ : SCx} {env : Env} {W W' : Wd} {A : Around} {s : Shared} {st : St}
theorem Rel.hot {σ : List AO} {h : Heap} (R : Rel C W σ h) : Rel C.hot W σ h := ⟨R.ok, R.old, R.imm, R.len, R.nodup, R.apart, R.new, R.big, R.objs, R.frs⟩
theorem Rel.cool {σ : List AO} {h : Heap} (R : Rel C.hot W σ h) : Rel C W σ h := ⟨R.ok, R.old, R.imm, R.len, R.nodup, R.apart, R.new, R.big, R.objs, R.frs⟩
theorem Inv.hot {h : Heap} (J : Inv C Γ env W st h) : Inv C.hot Γ env W st h := ⟨J.rel.hot, ⟨J.loc.kind, J.loc.glob, J.loc.blt, J.loc.names, J.loc.inj, J.loc.loc, J.loc.cel, J.loc.cinj, J.loc.out, J.loc.top⟩⟩
theorem Inv.cool {h : Heap} (J : Inv C.hot Γ env W st h) : Inv C Γ env W st h := ⟨J.rel.cool, ⟨J.loc.kind, J.loc.glob, J.loc.blt, J.loc.names, J.loc.inj, J.loc.loc, J.loc.cel, J.loc.cinj, J.loc.out, J.loc.top⟩⟩

structure Noted (C : Cx) (x : Addr) (h h' : Heap) : Prop where
  exact : ∀ b o, b ≠ x → h.get? b = some o → (∀ e ∈ C.fr, e.frame ≠ some b) → h'.get? b = some o
  slots : ∀ b o, b ≠ x → h.get? b = some o → (∀ vs, o.data ≠ .fields vs) → ∃ sl, h'.get? b = some { o with slots := sl }
theorem Inv.noted {h h0 h' : Heap} {x : Addr} (J : Inv C Γ env W st h) (X : ItOk C env W h0 x) (k : Noted C x h h') : Inv C Γ env W st h' := by
  have R := J.rel
  have L := J.loc
  have apart : ∀ e ∈ C.fr, ∀ b, e.frame = some b → b ∉ W.φ ∧ C.h₀.get? b = none ∧ ∀ q ∈ W.ι, q.1 ≠ b := fun e he b eb => by
    obtain ⟨_, M, g1, g2, g3, g4, _⟩ := R.frs e he
    rw [g1] at eb; cases eb
    exact ⟨g2, g3, g4⟩
  refine ⟨⟨R.ok, fun b o e => k.exact b o (fun q => by rw [q, X.old] at e; cases e) (R.old b o e) (fun g hg q => by rw [(apart g hg b q).2.1] at e; cases e),
    fun p hp => k.exact _ _ (X.ι p hp) (R.imm p hp) (fun g hg q => (apart g hg _ q).2.2 p hp rfl), R.len, R.nodup, R.apart, R.new, R.big,
    fun i o a e ea => (R.objs i o a e ea).same fun y hy => k.exact a y (fun q => X.φ (q ▸ mem_of_get ea)) hy (fun g hg q => (apart g hg _ q).1 (mem_of_get ea)),
    fun e he => ?_⟩, ⟨L.kind, L.glob, L.blt, L.names, L.inj, ?_, ?_, L.cinj, ?_, L.top⟩⟩
  · obtain ⟨g0, M, g1, g2, g3, g4, o, es, ep, g5, g6⟩ := R.frs e he
    obtain ⟨sl, hs⟩ := k.slots M o (fun q => X.frm e he (q ▸ g1)) g5 (fun vs q => by rw [g6] at q; cases q)
    exact ⟨g0, M, g1, g2, g3, g4, _, es, ep, hs, g6⟩
  · obtain ⟨m, ⟨o, es, ep, ho, hd, r⟩, hm⟩ := L.loc
    obtain ⟨sl, hs⟩ := k.slots _ o (X.priv _ (.inl rfl)) ho (fun vs q => by rw [hd] at q; cases q)
    exact ⟨m, ⟨_, es, ep, hs, hd, r⟩, hm⟩
  · intro y kd i h1 h2
    obtain ⟨c, ov, hc, hne, ⟨o, ho, hd⟩, hv⟩ := L.cel y kd i h1 h2
    obtain ⟨sl, hs⟩ := k.slots _ o (X.priv _ (.inr ⟨y, hc⟩)) ho (fun vs q => by rw [hd] at q; cases q)
    exact ⟨c, ov, hc, hne, ⟨_, hs, hd⟩, hv⟩
  · intro p hp
    obtain ⟨h1, h2, h3, o, ho⟩ := L.out p hp
    by_cases hf : ∃ e ∈ C.fr, e.frame = some p
    · obtain ⟨e, he, ef⟩ := hf
      obtain ⟨_, M, g1, _, _, _, o', es, ep, g5, g6⟩ := R.frs e he
      rw [g1] at ef; cases ef
      obtain ⟨sl, hs⟩ := k.slots _ o' (X.priv _ hp) g5 (fun vs q => by rw [g6] at q; cases q)
      exact ⟨h1, h2, h3, _, hs⟩
    · exact ⟨h1, h2, h3, o, k.exact p o (X.priv p hp) ho fun e he q => hf ⟨e, he, q⟩⟩
theorem Keep.noted {h h0 h' : Heap} {x : Addr} {π : List Addr} {W0 : Wd} (J : Inv C Γ env W st h) (X : ItOk C env W h0 x) (k : Keep W0 W π h0 h) (y : Noted C x h h') : Keep W0 W π h0 h' := by
  have hne : ∀ b o, h0.get? b = some o → b ≠ x := fun b o e q => by rw [q, X.none] at e; cases e
  have step : ∀ b o, b ≠ x → h.get? b = some o → ∃ sl, h'.get? b = some { o with slots := sl } ∧ ((∃ es ep, o.data = .dict es ep) ∨ sl = o.slots) := fun b o nb e => by
    by_cases hf : ∃ e ∈ C.fr, e.frame = some b
    · obtain ⟨g, hg, ef⟩ := hf
      obtain ⟨_, M, g1, _, _, _, o', es, ep, g5, g6⟩ := J.rel.frs g hg
      rw [g1] at ef; cases ef
      rw [e] at g5; cases g5
      obtain ⟨sl, hs⟩ := y.slots _ o nb e (fun vs q => by rw [g6] at q; cases q)
      exact ⟨sl, hs, .inl ⟨es, ep, g6⟩⟩
    · exact ⟨o.slots, y.exact b o nb e fun g hg q => hf ⟨g, hg, q⟩, .inr rfl⟩
  refine ⟨k.le, fun b o e n1 n2 => ?_, fun b o e => ?_, k.new, k.imm⟩
  · obtain ⟨sl, h1, h2⟩ := k.keep b o e n1 n2
    obtain ⟨sl', h3, h4⟩ := step b _ (hne b o e) h1
    refine ⟨sl', h3, ?_⟩
    rcases h2 with h2 | h2
    · exact .inl h2
    · rcases h4 with h4 | h4
      · exact .inl h4
      · exact .inr (h4.trans h2)
  · obtain ⟨o', e'⟩ := k.stay b o e
    obtain ⟨sl', h3, _⟩ := step b _ (hne b o e) e'
    exact ⟨_, h3⟩

theorem frames_of {x : Addr} {h : Heap} {S : List Addr} : ∀ (l : List Env), (∀ e ∈ l, e.scope.kind ≠ .module ∧ ∃ L, e.frame = some L ∧ L ∈ S ∧ ∃ o es ep, h.get? L = some o ∧ o.data = .dict es ep) → h.FunFrames (TI.gone h (x :: S)) l
  | [], _ => trivial
  | e :: r, hl => by
    obtain ⟨h1, L, h2, h3, o, es, ep, h4, h5⟩ := hl e List.mem_cons_self
    exact ⟨h1, ⟨L, o, h2, TI.gone_none (List.mem_cons_of_mem _ h3), h4, fun vs q => by rw [h5] at q; cases q⟩, frames_of r fun e he => hl e (List.mem_cons_of_mem _ he)⟩

theorem Ex.tryNext {e₀ : Expr} {x : Str} {px pa pb pn ph pos : Pos} {i j : Nat} {f : K (Option AV)} {g : K Fl} {b₀ : Stmt} {suite : List Stmt} (hcalm : C.calm = true) (hcomp : Γ.comp = false)
    (hn : Nx C n Γ e₀ f) (hx : Γ.tab.lookup x = some (.local, i)) (hs : ∀ env, swapsWith e₀ (some (.Name x px)) pa.line env = pure false) (hg : Exs C.hot n Γ (b₀ :: suite) g)
    (hS : PySem.W.nsIn C.K mainGlobals (Str.ofString "StopIteration") = some none) (hS2 : Γ.tab.lookup (Str.ofString "StopIteration") = some (.globalImplicit, j)) :
    Ex C n Γ (.Try [.Assign [.Name x px] e₀ pa, .Break pb] [.ExceptHandler (some (.Name (Str.ofString "StopIteration") pn)) none (b₀ :: suite) ph] [] [] pos)
      (K.bind f fun r => match r with | some a => K.bind (setv i a) fun u1 => K.ret .brk | none => g) := by
  refine ⟨fun A env W st s ok I v st' e Q E hq => K.bindE e fun r st₁ e1 e2 => ?_⟩
  clear e
  refine wpAny_Try_except (wpAny_execs_cons (wpAny_Assign_Name (hn.run A env W st s ok hcalm I r st₁ e1 _ _ (fun a hr va W1 h1 tk1 I1 k1 v1 => ?_) fun hr W1 h1 tk1 y I1 k1 X hy => ?_) (hs env)))
  · subst hr
    refine K.bindE e2 fun u1 st₂ e3 e4 => ?_
    cases e4
    exact store_loc (s := { s with heap := h1, toks := tk1 }) hx I1 v1 _ _ e3 _ _ fun u1 W2 h2 tk2 I2 k2 u2 => wpAny_execs_cons (wpAny_Break (hq .brk W2 h2 tk2 I2 (k1.trans k2) .brk))
  · subst hr
    dsimp only at e2
    obtain ⟨o, fs, a0, ho, hc, hd, f0, f1⟩ := hy
    obtain ⟨outer, hfr⟩ := I1.loc.top hcomp
    have hframes : A.frames = some (env :: outer) := ok.frames.trans (congrArg some hfr)
    obtain ⟨_, L, hL, _, _, _, _⟩ := I1.rel.frs env (by rw [hfr]; exact List.mem_cons_self)
    let S := C.fr.filterMap (fun x => x.frame)
    have hS' : ∀ b, b ∉ S → ∀ e ∈ C.fr, e.frame ≠ some b := fun b hb e he q => hb (List.mem_filterMap.mpr ⟨e, he, q⟩)
    have hFF : h1.FunFrames (TI.gone h1 (y :: S)) (env :: outer) := by
      refine frames_of _ fun e he => ?_
      rw [← hfr] at he
      obtain ⟨g0, M, g1, _, _, _, o', es, ep, g5, g6⟩ := I1.rel.frs e he
      exact ⟨g0, M, g1, List.mem_filterMap.mpr ⟨e, he, g1⟩, o', es, ep, g5, g6⟩
    have noted : ∀ h', (TI.gone h1 (y :: S)).StaysIn h' → (∀ b o, h1.get? b = some o → (∀ vs, o.data ≠ .fields vs) → ∃ sl, h'.get? b = some { o with slots := sl }) → Noted C y h1 h' := fun h' k1 k2 => by
      refine ⟨fun b o nb e nf => k1 b o ((TI.gone_get fun q => ?_).trans e), fun b o nb e nf => k2 b o e nf⟩
      rcases List.mem_cons.mp q with q | q
      · exact nb q
      · obtain ⟨e', he', q⟩ := List.mem_filterMap.mp q
        exact nf e' he' q
    unfold noteFrame
    simp only [hL]
    refine wpAny_bind (wpAny_field (s := { s with heap := h1, toks := tk1 }) ho hd f1 ?_)
    rw [if_neg (by decide)]
    refine wpAny_entryW (s := { s with heap := h1, toks := tk1 }) (base := TI.gone h1 (y :: S)) hframes hFF hL ho (fun b o hb => (TI.gone_some hb).2) (TI.gone_none List.mem_cons_self) hd (Array.getElem?_eq_some_iff.mp f1).1 f0 fun h2 hN => ?_
    obtain ⟨n1, n2, n3, n4⟩ := hN
    refine wpAny_setFlight_noneW (s := { s with heap := h2, toks := tk1 }) n1 n2 n3 fun h3 m1 m2 m3 m4 => ?_
    have up3 : ∀ b o, h1.get? b = some o → (∀ vs, o.data ≠ .fields vs) → ∃ sl, h3.get? b = some { o with slots := sl } := fun b o e nf => let ⟨sl, q⟩ := n4 b o e nf; ⟨sl, m4 b _ q nf⟩
    have I3 := I1.noted X (noted h3 m1 up3)
    rw [hc] at m3
    obtain ⟨o3, ho3, hc3⟩ := m3.at.there
    refine wpAny_handleBy_builtin (s := { s with heap := h3, toks := tk1 }) (X := "StopIteration") (T := "StopIteration") (b := true) (isSubtype_of_subB (by decide +kernel)) (isSubtype_of_subB (by decide +kernel)) (isSubtype_of_subB (by decide +kernel)) ?_
    refine Calls.Name_function_global I3.loc.kind (by rw [I3.loc.names, hS2]; rfl) (Calls.loadGlobal_builtin (by rw [I3.loc.glob]; exact I3.rel.globals) (PySem.W.mg_none_of I3.rel.ok.k I3.rel.ok.g hS) (by rw [I3.loc.blt]; exact I3.rel.builtins) ((I3.rel.ok.bb (Str.ofString "StopIteration") (by decide))|>.trans (show _ = some (.type "StopIteration") by kernel_rfl)) ?_) (by decide)
    refine ⟨rfl, ⟨o3, ho3, hc3⟩, ?_⟩
    rw [if_pos rfl]
    refine wpAny_setFlight_noneW (s := { s with heap := h3, toks := tk1 }) m1 m2 m3.at fun h4 p1 p2 p3 p4 => ?_
    have nt4 := noted h4 p1 fun b o e nf => let ⟨sl, q⟩ := up3 b o e nf; ⟨sl, p4 b _ q nf⟩
    have I4 := I1.noted X nt4
    have k4 := k1.noted I1 X nt4
    exact hg.run (A.mark (some (.ref y))) env W1 st₁ { s with heap := h4, toks := tk1 } ⟨fun q => (nomatch q), ok.frames, ok.depth, ok.units⟩ I4.hot _ _ e2 _ _ fun fl W5 h5 tk5 I5 k5 v5 => hq fl W5 h5 tk5 I5.cool (k4.trans k5) v5
end
end Mine
set_option Elab.async false
set_option maxRecDepth 100000
namespace Mine
open PySem PyProof.Rows PySem.W PySem.SeqAt

theorem slot_search : Slot "re.Pattern" "search" "re.Pattern.search" :=
  .of (owner := "re.Pattern") (n := "search") (by rw [typeLookup_type, builtinLookup_eq_fast]; kernel_rfl) (by decide +kernel) (by decide +kernel) (by decide +kernel)
    (by first | exact .inl (by decide +kernel) | exact .inr (by decide +kernel)) (by rw [isSubtype_type]; kernel_rfl)
theorem type_search : typeOf (.builtin "re.Pattern.search") = pure (.type "method_descriptor") := by show builtinType _ = _; rw [builtinType_eq_fast]; kernel_rfl
theorem entry_search : entryFor table "re.Pattern.search" = some Builtin.«re.Pattern.search» := entryFor_of_tree (by kernel_rfl)
theorem args_search (a b : Value) : argsOk "re.Pattern.search" ⟨[a, b], []⟩ := by unfold argsOk; kernel_rfl
theorem plain_pattern : PlainAttrs "re.Pattern" :=
  ⟨⟨"object.__getattribute__", by rw [typeLookup_type, builtinLookup_eq_fast]; kernel_rfl, by decide +kernel⟩, by rw [typeLookup_type, builtinLookup_eq_fast]; kernel_rfl⟩

open PySem.Sre PySem.Builtin.Re in
theorem admitted_none {m : Sre.M} (hc : ∀ k, k < m.lim → ∀ seen, ∃ seen', inSet m.code (m.text.getD k 0) m.code.size 5 true seen = .ok (false, seen')) : ∀ (fuel k : Nat) (seen : Sre.Seen), ∃ seen', Sre.M.admitted m fuel k seen = .ok (none, seen')
  | 0, _, seen => ⟨seen, rfl⟩
  | fuel + 1, k, seen => by
    unfold Sre.M.admitted
    split
    · exact ⟨seen, rfl⟩
    · obtain ⟨seen', h⟩ := hc k (by omega) seen
      rw [h]
      exact admitted_none hc fuel (k + 1) seen'

section
open PySem.Sre PySem.Builtin.Re
variable {M : Model} {A : Around} {E : Value → Shared → Prop} {s : Shared}
theorem wpAny_rules {p : Nat → Bool} {nm : Nat → String} {Q : PUnit → Shared → Prop} (h : Q ⟨⟩ s) : ∀ (l : List Nat), wpAny M A (forIn l PUnit.unit fun i u1 => if p i = true then do rule (nm i); pure (ForInStep.yield PUnit.unit) else pure (ForInStep.yield PUnit.unit) : Sem PUnit) Q E s
  | [] => wpAny_pure h
  | i :: r => by
    rw [List.forIn_cons]
    refine wpAny_bind ?_
    split
    · exact wpAny_bind (wpAny_rule (wpAny_pure (wpAny_rules h r)))
    · exact wpAny_pure (wpAny_rules h r)
theorem wpAny_reFailed {m : Sre.M} {Q : Option Sre.M → Shared → Prop} (ha : m.answer = some false) (hf : m.frames = []) (ho : m.outcome = none) (h : Q none s) : wpAny M A (reRunToEnd m) Q E s := by
  have hrun : m.runFor reTurnSteps = { m with outcome := some .failed } := by
    unfold reTurnSteps
    unfold Sre.M.runFor
    rw [ho]
    simp only [Option.isSome_none, Bool.false_eq_true, if_false]
    unfold Sre.M.runFor
    have hs : m.step = { m with outcome := some .failed } := by
      unfold Sre.M.step
      rw [ho, ha, hf]
      rfl
    rw [hs]
    rfl
  unfold reRunToEnd
  refine wpAny_bind ?_
  rw [show (2 : Nat) ^ 64 = (2 ^ 64 - 1) + 1 from rfl]
  unfold reDrive
  rw [hrun]
  refine wpAny_pure ?_
  refine wpAny_bind (wpAny_rules (p := fun i => m.seen.has i) (nm := fun i => Sre.names.getD i "") ?_ _)
  exact wpAny_pure h
end

section
open PySem.Sre PySem.Builtin.Re
noncomputable def Clean (code : Array Nat) (x : Str) : Prop := ∀ k, k < x.cps.size → ∀ seen, ∃ seen', inSet code (x.cps.getD k 0) code.size 5 true seen = .ok (false, seen')
theorem attemptFrom_none {m : Sre.M} (hf : m.hasFirstSet = true) (hc : ∀ k, k < m.lim → ∀ seen, ∃ seen', inSet m.code (m.text.getD k 0) m.code.size 5 true seen = .ok (false, seen')) (k : Nat) (b : Bool) :
    (m.attemptFrom k b).answer = some false ∧ (m.attemptFrom k b).frames = m.frames ∧ (m.attemptFrom k b).outcome = m.outcome := by
  unfold Sre.M.attemptFrom
  rw [hf]
  simp only [Bool.not_true, Bool.false_eq_true, if_false]
  obtain ⟨seen', e'⟩ := admitted_none hc (m.lim + 1 - k) k m.seen
  rw [e']
  exact ⟨rfl, rfl, rfl⟩
theorem forSearch_none {code : Array Nat} {x : Str} (hc : Clean code x) (h0 : ops[code.getD 0 0]? = some Op.INFO) (h2 : code.getD 2 0 = 4) (groups : Nat) (b : Bool) :
    (forSearch code x.cps groups 0 x.cps.size b).answer = some false ∧ (forSearch code x.cps groups 0 x.cps.size b).frames = [] ∧ (forSearch code x.cps groups 0 x.cps.size b).outcome = none := by
  unfold forSearch
  dsimp only
  split
  · exact ⟨rfl, rfl, rfl⟩
  · have hf : ∀ m : Sre.M, m.code = code → m.hasFirstSet = true := fun m e => by
      unfold Sre.M.hasFirstSet
      rw [e, h2, h0]
      rfl
    apply attemptFrom_none
    · exact hf _ rfl
    · exact hc
end

section
open PySem.Sre PySem.Builtin.Re
variable {prog : Program} {w : World} {A : Around} {E : Value → Shared → Prop} {s : Shared}
theorem search_none {p t : Addr} {op ot : Obj} {fs items : Array Value} {m : Nat} {x : Str} {u u2 u6 : Tok} {Q : Value → Shared → Prop} (hp : s.heap.get? p = some op) (hcls : op.cls = .type "re.Pattern") (hpd : op.data = .fields fs)
    (h2 : fs.getD 2 .none = .int 0 u2) (h5 : fs.getD 5 .none = .ref t) (h6 : fs.getD 6 .none = .int 0 u6)
    (ht : s.heap.get? t = some ot) (htd : ot.data = .seq items m) (hsz : x.cps.size < 2 ^ 62)
    (hc : Clean ((items.map reRawOf).map (fun x => x.toNat)) x) (c0 : ops[((items.map reRawOf).map (fun x => x.toNat)).getD 0 0]? = some Op.INFO) (c2 : ((items.map reRawOf).map (fun x => x.toNat)).getD 2 0 = 4)
    (h : Q .none s) : wpAny (model prog w) A (call (.builtin "re.Pattern.search") [.ref p, .str x u]) Q E s := by
  refine wpAny_call_entry slot_search ⟨_, hp, hcls⟩ entry_search ?_ (args_search _ _)
  unfold Builtin.«re.Pattern.search» reTarget
  refine wpAny_bind ?_
  dsimp only
  refine wpAny_bind (wpAny_of_eq (a := [some (.str x u), none, none]) (by kernel_rfl) ?_)
  dsimp only
  refine wpAny_bind (wpAny_pure ?_)
  refine wpAny_bind (wpAny_pure ?_)
  refine wpAny_bind (wpAny_fieldsOf hp hpd ?_)
  refine wpAny_bind (wpAny_of_eq (a := (x.cps, 0)) (by unfold reTextOf; rfl) ?_)
  dsimp only
  rw [h6, h5, h2]
  refine wpAny_ite ?_
  rw [if_neg (by show ¬ (false = true); decide)]
  refine wpAny_ite ?_
  rw [if_neg (by show ¬ (false = true); decide)]
  refine wpAny_bind (wpAny_of_eq (a := ()) (by unfold reNoCollectionInside; rfl) ?_)
  refine wpAny_bind (wpAny_bind (wpAny_seqItems ht htd (wpAny_pure ?_)))
  refine wpAny_pure ?_
  have hmin : min ((2 ^ 63 - 1 : Int)).toNat x.cps.size = x.cps.size := by omega
  have hmin0 : min (Int.toNat 0) x.cps.size = 0 := by simp
  rw [hmin, hmin0]
  obtain ⟨f1, f2, f3⟩ := forSearch_none hc c0 c2 (reRawNat (.int 0 u2)) false
  unfold reAnswer
  refine wpAny_bind (wpAny_reFailed f1 f2 f3 ?_)
  exact wpAny_pure ⟨_, rfl, h⟩
end

noncomputable def Printable (x : Str) : Bool := x.cps.all fun c => decide (32 ≤ c) && decide (c < 127)
open PySem.Sre in
theorem clean_of {code : Array Nat} (h : ∀ c, 32 ≤ c → c < 127 → ∀ seen, ∃ seen', inSet code c code.size 5 true seen = .ok (false, seen')) {x : Str} (hp : Printable x = true) : Clean code x := by
  intro k hk seen
  have := Array.all_eq_true.mp hp k hk
  simp only [Bool.and_eq_true, decide_eq_true_eq] at this
  refine h _ ?_ ?_ seen
  · simpa [Array.getD, hk] using this.1
  · simpa [Array.getD, hk] using this.2
noncomputable def nameCode : Array Nat := #[14, 10, 4, 1, 1, 22, 0, 31, 16, 127, 0, 13, 7, 22, 0, 31, 16, 127, 0, 1]
noncomputable def valueCode : Array Nat := #[14, 14, 4, 1, 1, 9, 4294966783, 0, 0, 2147483648, 0, 0, 0, 0, 0, 13, 11, 9, 4294966783, 0, 0, 2147483648, 0, 0, 0, 0, 0, 1]
open PySem.Sre in
theorem name_clean {x : Str} (hp : Printable x = true) : Clean nameCode x := by
  refine clean_of (fun c h1 h2 seen => ?_) hp
  apply Exists.intro
  unfold nameCode
  show (if (0 ≤ c && c ≤ 31) = true then _ else _) = _
  rw [if_neg (by simp; omega)]
  show (if (c == 127) = true then _ else _) = _
  rw [if_neg (by simp; omega)]
  rfl
open PySem.Sre in
theorem value_clean {x : Str} (hp : Printable x = true) : Clean valueCode x := by
  refine clean_of (fun c h1 h2 seen => ?_) hp
  apply Exists.intro
  unfold valueCode
  have hb : ∀ c : Nat, 32 ≤ c → c < 127 → ((#[14, 14, 4, 1, 1, 9, 4294966783, 0, 0, 2147483648, 0, 0, 0, 0, 0, 13, 11, 9, 4294966783, 0, 0, 2147483648, 0, 0, 0, 0, 0, 1] : Array Nat).getD (5 + (1 + c / 32)) 0).testBit (c % 32) = false := by
    intro c h1 h2
    have : ∀ d : Fin 127, 32 ≤ d.val → ((#[14, 14, 4, 1, 1, 9, 4294966783, 0, 0, 2147483648, 0, 0, 0, 0, 0, 13, 11, 9, 4294966783, 0, 0, 2147483648, 0, 0, 0, 0, 0, 1] : Array Nat).getD (5 + (1 + d.val / 32)) 0).testBit (d.val % 32) = false := by decide +kernel
    exact this ⟨c, h2⟩ h1
  show (if (decide (c < 256) && Nat.testBit _ (c % 32)) = true then _ else _) = _
  rw [hb c h1 h2, Bool.and_false, if_neg (by decide)]
  rfl
end Mine
set_option Elab.async false
set_option maxRecDepth 100000
namespace Mine
open PySem PyProof.Rows PySem.W PySem.SeqAt

section
open PySem.Sre PySem.Builtin.Re
noncomputable def isZero : Value → Bool
  | .int 0 _ => true
  | _ => false
theorem isZero_of {v : Value} (h : isZero v = true) : ∃ t, v = .int 0 t := by
  unfold isZero at h
  split at h
  · exact ⟨_, rfl⟩
  · cases h
noncomputable def patOk (K : Frag) (p : Addr) : Bool := match K.lookup p with
  | some ⟨.type T, none, .fields fs, _⟩ => T == "re.Pattern" && isZero (fs.getD 2 .none) && isZero (fs.getD 6 .none) && (match fs.getD 5 .none with
    | .ref t => (match K.lookup t with
      | some ⟨_, _, .seq items _, _⟩ => (items.map reRawOf).map (fun x => x.toNat) == nameCode || (items.map reRawOf).map (fun x => x.toNat) == valueCode
      | _ => false)
    | _ => false)
  | _ => false
end
section
variable {C : Cx} {n : Nat} {Γ : SCx} {env : Env} {W : Wd} {A : Around} {s : Shared} {st : St}

open PySem.Builtin.Re in
structure PatAt (K : Frag) (p : Addr) (fs : Array Value) (sl : Array (Option Value)) (t : Addr) (u2 u6 : Tok) (c : Value) (d : Option Addr) (items : Array Value) (m : Nat) (sl' : Array (Option Value)) : Prop where
  at_ : K.lookup p = some ⟨.type "re.Pattern", none, .fields fs, sl⟩
  f2 : fs.getD 2 .none = .int 0 u2
  f6 : fs.getD 6 .none = .int 0 u6
  f5 : fs.getD 5 .none = .ref t
  code : K.lookup t = some ⟨c, d, .seq items m, sl'⟩
  is : (items.map reRawOf).map (fun x => x.toNat) = nameCode ∨ (items.map reRawOf).map (fun x => x.toNat) = valueCode
theorem patOkE {K : Frag} {p : Addr} {G : Prop} (hp : patOk K p = true) (k : ∀ {fs sl t u2 u6 c d items m sl'}, PatAt K p fs sl t u2 u6 c d items m sl' → G) : G := by
  unfold patOk at hp
  split at hp
  · rename_i T fs sl e
    rw [Bool.and_eq_true, Bool.and_eq_true, Bool.and_eq_true, beq_iff_eq] at hp
    obtain ⟨⟨⟨rfl, h2⟩, h6⟩, h5⟩ := hp
    split at h5
    · rename_i t et
      split at h5
      · rename_i c d items m sl' e'
        rw [Bool.or_eq_true, beq_iff_eq, beq_iff_eq] at h5
        exact Exists.elim (isZero_of h2) fun u2 h2 => Exists.elim (isZero_of h6) fun u6 h6 => k ⟨e, h2, h6, et, e', h5⟩
      · cases h5
    · cases h5
  · cases hp
noncomputable def isPat (L : List Addr) (a : AV) (_ : St) : Prop := ∃ p, a = .val (.ref p) ∧ L.contains p = true
theorem pats_at {K : Frag} {L : List Addr} (h : L.all (patOk K) = true) {p : Addr} (e : L.contains p = true) : patOk K p = true := List.all_eq_true.mp h p (List.contains_iff_mem.mp e)
theorem Res.pat {L : List Addr} (hL : L.all (patOk C.K) = true) : Res C "search" (.builtin "re.Pattern.search") (isPat L) := by
  intro A W st s a v R hv ⟨p, ha, hp⟩ Q E pl hq
  subst ha
  cases hv
  refine patOkE (pats_at hL hp) fun e => ?_
  have ho := R.kin _ _ e.at_
  exact getMethod_builtin ⟨_, ho, rfl⟩ plain_pattern slot_search type_search (fun a e => by cases e; exact ⟨_, ho, rfl⟩) hq
noncomputable def AV.ref? : AV → Option Addr
  | .val (.ref p) => some p
  | _ => Option.none
theorem VR.refE {a : AV} {v : Value} {p : Addr} (h : VR W a v) (e : a.ref? = some p) : v = .ref p := by
  cases h with
  | val v => cases v <;> cases e; rfl
  | _ => cases e
noncomputable def search2 (L : List Addr) (a b : AV) : K AV := fun st => a.ref?.bind fun p => b.str?.bind fun x => if L.contains p = true ∧ Printable x = true ∧ x.cps.size < 2 ^ 62 then some (.none, st) else none
noncomputable def searchK (L : List Addr) : List AV → K AV := fun args st => (two? args).bind fun q => search2 L q.1 q.2 st
theorem Cal.search {L : List Addr} (hL : L.all (patOk C.K) = true) : Cal C n Γ (.builtin "re.Pattern.search") (searchK L) := .two (F := search2 L) fun A env W st s a b v w ok I hv hw =>
  .obind fun p hp => .obind fun x hx => .ite fun hh => hw.strE hx fun u => .mk1 fun Q E hq => by
    rw [hv.refE hp]
    refine patOkE (pats_at hL hh.1) fun e => ?_
    have key := hq.at I s.toks .none
    rcases e.is with q | q
    · exact search_none (I.rel.kin _ _ e.at_) rfl rfl e.f2 e.f5 e.f6 (I.rel.kin _ _ e.code) rfl hh.2.2 (by rw [q]; exact name_clean hh.2.1) (by rw [q]; rfl) (by rw [q]; rfl) key
    · exact search_none (I.rel.kin _ _ e.at_) rfl rfl e.f2 e.f5 e.f6 (I.rel.kin _ _ e.code) rfl hh.2.2 (by rw [q]; exact value_clean hh.2.1) (by rw [q]; rfl) (by rw [q]; rfl) key

theorem meth0 {o : Expr} {name : Str} {apos pos : Pos} {fv : Value} {f : K AV} {a : AV} {st₁ : St} {Q : Value → Shared → Prop} {E : Value → Shared → Prop} (ho : Ev C n Γ o f) (hc : Callee C fv) (hsup : isSuper o = false) (hline : (apos.endLine == pos.line) = true)
    (ok : AOk C n A) (I : Inv C Γ env W st s.heap) (e1 : f st = some (a, st₁))
    (hr : ∀ W1 h1 tk1 va, Rel C W1 st₁.σ h1 → VR W1 a va → ∀ (Q : Value × List Value → Shared → Prop) (E : Value → Shared → Prop) pl, Q (fv, [va]) { s with heap := h1, toks := tk1 } → wpAny (model C.prog C.w) A (getMethod va name pl) Q E { s with heap := h1, toks := tk1 })
    (hq : ∀ W1 h1 tk1 va, Inv C Γ env W1 st₁ h1 → Keep W W1 (priv Γ env) s.heap h1 → VR W1 a va → wpAny (model C.prog C.w) A (call fv [va]) Q E { s with heap := h1, toks := tk1 }) :
    wpAny (model C.prog C.w) A (eval (.Call (.Attribute o name apos) [] [] pos) env) Q E s := by
  rw [arm_eval_Call, attributeBase_plain hsup]
  refine wpAny_bind (ho.run A env W st s ok I _ _ e1 _ _ fun va W1 h1 tk1 I1 k1 v1 => wpAny_bind (wpAny_standAt ?_))
  have hpos : methodCallPos true o env apos pos = pure pos := by unfold methodCallPos; rw [hline]; rfl
  unfold methodCall
  rw [show methodCallForm (([] : List Expr).length + ([] : List Keyword).length) (backTo pos (starEach [] env)) (backToKw pos (keywordEach [] env)) = true from rfl]
  refine wpAny_bind (wpAny_holding (hr W1 h1 tk1 va I1.rel v1 _ _ _ (wpAny_bind (wpAny_of_eq hpos ?_))))
  exact callWith_gen (P := fun h => ∀ b o, C.h₀.get? b = some o → h.get? b = some o) (hc _) (nil_args ⟨I1.rel.old, hq W1 h1 tk1 va I1 k1 v1⟩)

noncomputable def valsK (a : AV) : K (List AV × Option (Nat × AO)) := fun st => a.oid.bind fun o => (Mine.dictAt st.σ o).map fun p => ((p.1.map (fun x => x.2), some (o, .dict p.1 p.2)), st)
theorem Itb.values {o : Expr} {apos pos : Pos} {f : K AV} (ho : Ev C n Γ o f) (hsup : isSuper o = false) (hline : (apos.endLine == pos.line) = true) : Itb C n Γ (.Call (.Attribute o "values" apos) [] [] pos) (K.bind f valsK) := by
  refine ⟨fun A env W st s ok J vs g st' e Q E hq => K.bindE e fun a st₁ e1 e2 => Exists.elim (Option.bind_eq_some_iff.mp e2) fun d p => Exists.elim (Option.map_eq_some_iff.mp p.2) fun x q => ?_⟩
  cases q.2
  have e' := dictAt_iff q.1
  have ha : a = .obj d := by have h := p.1; cases a <;> cases h; rfl
  subst ha
  clear p q e e2
  refine meth0 ho (Callee.builtin (id := "dict.values")) hsup hline ok J e1 (fun W1 h1 tk1 va R v1 Q E pl hq => Res.dict F.slot_dict_values F.type_dict_values A W1 _ { s with heap := h1, toks := tk1 } _ va R v1 ⟨d, _, _, rfl, e'⟩ Q E pl hq) fun W1 h1 tk1 va I1 k1 v1 => v1.objE rfl fun ad hd => ?_
  refine Exists.elim (dictAt_kv I1.rel hd e') fun kvs x1 => ?_
  refine call_meetsIn F.slot_dict_values x1.1.dictOf.typeIs F.entry_dict_values (F.args_dict_values_1 _) (meets_dict_values (intKind C.prog C.w) _ (notSys I1.rel (mem_of_get hd))) ⟨⟨_, x1.1.dictOf⟩, ?_⟩
  have J2 := I1.pushed { cls := .type "dict_values", data := .fields #[.ref ad] }
  have k2 := k1.trans (.pushed { cls := .type "dict_values", data := .fields #[.ref ad] })
  refine Exists.elim (dictAt_kv J2.rel hd e') fun kvs2 x2 => ?_
  refine wpAny_pyIter_values (s := { s with heap := h1.push { cls := .type "dict_values", data := .fields #[.ref ad] }, toks := tk1 }) ⟨_, Heap.get?_push_size _ rfl, rfl, rfl⟩ x2.1 ?_
  rw [← x2.2.len]
  exact hq _ W1 _ tk1 (J2.pushed _) (k2.trans (.pushed _)) ((ItOk.new J2).back k2) (.vals hd ⟨_, Heap.get?_push_size _ rfl, rfl, rfl⟩) (fun p hp => Option.some.inj hp ▸ e')

theorem Ex.forItems0 {t o : Expr} {b ob : List Stmt} {apos cpos pos : Pos} {f : K AV} {k : K Fl} (ho : Ev C n Γ o f) (hob : Exs C n Γ ob k) (hcalm : C.calm = true) (hsup : isSuper o = false) (hline : (apos.endLine == cpos.line) = true)
    (hs : ∀ env x, foldedSetIterable (.Call (.Attribute o "items" apos) [] [] cpos) env x = pure x) :
    Ex C n Γ (.For t (.Call (.Attribute o "items" apos) [] [] cpos) b ob pos) (K.bind f fun a => K.bind (guardK fun st => ∃ i, a = .obj i ∧ st.σ[i]? = some (.attrs [])) fun u1 => k) := by
  refine ⟨fun A env W st s ok J v st' e Q E hq => K.bindE e fun a st₂ e1 e3 => guardE e3 fun hP e4 => ?_⟩
  obtain ⟨d, rfl, e'⟩ := hP
  clear e e3
  have dct : ∀ {W1 : Wd} {h1 : Heap} {ad : Addr}, Rel C W1 st₂.σ h1 → W1.φ[d]? = some ad → ∃ ep, h1.DictAt (intKind C.prog C.w) ad [] ep := fun R hd => by
    obtain ⟨en, m, hh, hr⟩ := R.objs _ _ _ e' hd
    cases hr
    exact ⟨m, _, _, hh, ⟨rfl, rfl, rfl⟩, rfl, by intro x hx; simp at hx, .nil, List.nodup_nil⟩
  refine wpAny_For (meth0 ho (Callee.builtin (id := "dict.items")) hsup hline ok J e1 (fun W1 h1 tk1 va R v1 Q E pl hq => ?_) fun W1 h1 tk1 va I1 k1 v1 => ?_) (hs env)
  · cases v1 with
    | @obj _ ad hd =>
      obtain ⟨ep, hda⟩ := dct R hd
      exact getMethod_builtin hda.dictOf.typeIs F.plainAttrs_dict F.slot_dict_items F.type_dict_items hda.dictOf.mapOf.noDict hq
  · cases v1 with
    | @obj _ ad hd =>
      obtain ⟨ep, hda⟩ := dct I1.rel hd
      refine call_meetsIn F.slot_dict_items hda.dictOf.typeIs F.entry_dict_items (F.args_dict_items_1 _) (meets_dict_items (intKind C.prog C.w) _ (notSys I1.rel (mem_of_get hd))) ⟨⟨_, hda.dictOf⟩, ?_⟩
      have J2 := I1.pushed { cls := .type "dict_items", data := .fields #[.ref ad] }
      have k2 : Keep W1 W1 (priv Γ env) h1 (h1.push { cls := .type "dict_items", data := .fields #[.ref ad] }) := .pushed _
      obtain ⟨ep2, hda2⟩ := dct J2.rel hd
      refine wpAny_pyIter_items (s := { s with heap := h1.push { cls := .type "dict_items", data := .fields #[.ref ad] }, toks := tk1 }) ⟨_, Heap.get?_push_size _ rfl, rfl, rfl⟩ hda2 ?_
      have J3 := J2.pushed { cls := .type "dict_itemiterator", data := .fields #[.none, .bool false, .ref ad, .int 0 0, .int ([] : List (Int × Value)).length 0, .int ep2 0, .none, .none] }
      have k3 : Keep W1 W1 (priv Γ env) (h1.push { cls := .type "dict_items", data := .fields #[.ref ad] }) _ := .pushed { cls := .type "dict_itemiterator", data := .fields #[.none, .bool false, .ref ad, .int 0 0, .int ([] : List (Int × Value)).length 0, .int ep2 0, .none, .none] }
      have x2 := ItOk.new J2
      obtain ⟨ep3, hda3⟩ := dct J3.rel hd
      have hep : ep3 = ep2 := by
        obtain ⟨o3, en3, a1, _, a2, _⟩ := hda3
        obtain ⟨o2, en2, b1, _, b2, _⟩ := hda2
        have := Heap.get?_push_of_some { cls := .type "dict_itemiterator", data := .fields #[.none, .bool false, .ref ad, .int 0 0, .int ([] : List (Int × Value)).length 0, .int ep2 0, .none, .none] } b1
        rw [this] at a1
        cases a1
        rw [a2] at b2
        cases b2
        rfl
      subst hep
      refine codeAny_forLoop_any (fun m s₁ => s₁ = { s with heap := _, toks := tk1 }) ?_ 0 rfl
      rintro m s₁ rfl
      refine wpAny_pyNext_items_end (ok.handled hcalm) (Heap.get?_push_size _ rfl) hda3 rfl fun h4 hx => ?_
      have hk : ∀ b o, b ≠ _ → _ := fun b o nb e => hx b o nb e
      have J4 : Inv C Γ env W1 st₂ h4 := J3.but (h0 := h1.push { cls := .type "dict_items", data := .fields #[.ref ad] }) x2 hk
      exact hob.run A env W1 st₂ { s with heap := h4, toks := tk1 } ok J4 _ _ e4 _ _ fun fl W5 h5 tk5 J5 k5 v5 => hq fl W5 h5 tk5 J5 (((k1.trans (k2.trans k3)).ext (x2.back (k1.trans k2)).none hk).trans k5) v5

noncomputable def lenIn (K : Frag) (Cl f : Addr) : Bool := findIn K (.ref Cl) "__len__" == some (some (.ref f)) && isFn K (.ref f)
noncomputable def instAt (σ : List AO) (Cl : Addr) (i : Nat) : Option (List (Str × AV)) := match σ[i]? with
  | some (.inst C' d) => if C' = Cl then attrsAt σ d else none
  | _ => none
noncomputable def lenJ (i : Nat) (F : List AV → List AO → Option (AV × List AO)) : K AV := fun st => (F [.obj i] st.σ).bind fun r => r.1.int?.bind fun j => if 0 ≤ j ∧ j < 2 ^ 63 then some (.int j, ⟨st.θ, r.2⟩) else none
noncomputable def lenI (Cl : Addr) (F : List AV → List AO → Option (AV × List AO)) (k : List AV → K AV) (args : List AV) : K AV := fun st => match args with
  | [.obj i] => (match instAt st.σ Cl i with
    | some _ => lenJ i F st
    | none => k args st)
  | _ => k args st
theorem instAtE {σ : List AO} {h : Heap} (R : Rel C W σ h) {Cl : Addr} {i : Nat} {x : Addr} (hi : W.φ[i]? = some x) {fs : List (Str × AV)} (e : instAt σ Cl i = some fs) {G : Prop} (k : ∀ ad od, InstAt h x ⟨.ref Cl, some ad, .plain, #[]⟩ Cl (some od) → G) : G := by
  unfold instAt at e
  cases ho : σ[i]? with
  | none => rw [ho] at e; cases e
  | some o =>
    rw [ho] at e
    cases o with
    | inst C' d =>
      refine ite_none e fun hc e' => ?_
      subst hc
      obtain ⟨ad, hd, hx⟩ := R.objs _ _ _ ho hi
      obtain ⟨es, m, hdx, _⟩ := R.objs _ _ _ (attrsAt_iff e') hd
      exact k ad _ ⟨hx, rfl, rfl, hdx⟩
    | _ => exact nomatch e
theorem Cal.lenI {Cl f : Addr} {F} {k : List AV → K AV} (hl : lenIn C.K Cl f = true) (hk : Cal C n Γ (.builtin "len") k) (hF : Fn C n (.ref f) F) : Cal C (n + 1) Γ (.builtin "len") (lenI Cl F k) := by
  intro A env W st s args vs ok I hv
  have old := hk A env W st s args vs (ok.less (Nat.le_succ n)) I hv
  cases args with
  | nil => exact old
  | cons a r =>
    cases r with
    | cons _ _ => cases a <;> exact old
    | nil =>
      cases a with
      | obj i =>
        show Run _ _ _ _ _ _ _ (match instAt st.σ Cl i with | some _ => lenJ i F st | none => k [.obj i] st) _
        cases hi : instAt st.σ Cl i with
        | none => exact old
        | some fs =>
          clear old
          unfold lenIn at hl
          rw [Bool.and_eq_true, beq_iff_eq] at hl
          refine hv.oneE fun v hv => VR.objE (v := v) hv rfl fun x hx => instAtE I.rel hx hi fun ad od IA => .obind fun r e1 => .obind fun j hj => .ite fun hb => .mk1 fun Q E hq => ?_
          refine Calls.call_function_entry kind_len plain_len entry_len (args_len1 _) ?_
          unfold Builtin.«len»
          refine wpAny_bind (m := oneArg "len" _) (wpAny_pure ?_)
          refine wpAny_bind (m := callSpecial? _ (Str.ofString "__len__")) (special_fn I.rel.kin IA hl.1 (beq_iff_eq.mp hl.2) (hF A.in1 W st.σ s [.obj i] _ ok.in1 I.rel (.one (.obj hx)) _ _ e1 _ _ fun v W' h' tk R' k' v' => v'.intE hj fun t => ?_))
          refine wpAny_bind (wpAny_holding (wpAny_pure ?_))
          refine wpAny_bind (wpAny_letGo ?_)
          show wpAny _ _ (if j < 0 then _ else _) _ _ _
          rw [if_neg (Int.not_lt.mpr hb.1)]
          show wpAny _ _ (if j ≥ 2 ^ 63 then _ else _) _ _ _
          rw [if_neg (Int.not_le.mpr hb.2)]
          exact wpAny_bind (wpAny_mkInt (wpAny_pure ⟨_, rfl, hq _ W' h' _ (I.keep R' k') k'.wide (.int _ _)⟩))
      | _ => exact old
end
end Mine
set_option Elab.async false
set_option maxRecDepth 100000
namespace Mine
open PySem PyProof.Rows PySem.W PySem.SeqAt

section
variable {C : Cx} {n : Nat} {Γ : SCx} {KK : Frag}
theorem Ev.gkW {x pos i} {v : Value} {a : AV} (hK : C.K = KK) (e : PySem.W.nsIn KK mainGlobals x = some (some v)) (h : Γ.tab.lookup x = some (.globalImplicit, i)) (hr : ∀ W, VR W a v) (hd : (x == ("__debug__" : Str)) = false) : Ev C n Γ (.Name x pos) (K.ret a) := Ev.gk (hK ▸ e) h hr hd
theorem Ev.bkW {x pos i} {v : Value} (hK : C.K = KK) (e : PySem.W.nsIn KK mainGlobals x = some none) (hv : bootBuiltins x = some v) (h : Γ.tab.lookup x = some (.globalImplicit, i)) (hd : (x == ("__debug__" : Str)) = false) (hn : (x == ("__name__" : Str)) = false) : Ev C n Γ (.Name x pos) (K.ret (.val v)) := Ev.bk (hK ▸ e) hv h hd hn
theorem Callee.kW {a : Addr} (hK : C.K = KK) (ok : Cx.Ok C.toBx) (h : keepIn KK (.ref a) = true) : Callee C (.ref a) := Callee.k ok.k (hK ▸ h)
theorem Res.instW {Cl f : Addr} {name : Str} (hK : C.K = KK) (h : methIn KK Cl name = some f) : Res C name (.ref f) (isInst Cl name) := Res.inst (hK ▸ h)
noncomputable def Fof (B : List AV → List (Str × AV) → List AO → Option (List (Str × AV) × List AO)) (sc : Scope) (f : K Fl) (args : List AV) (kws : List (Str × AV)) (σ : List AO) : Option (AV × List AO) :=
  match B args kws σ with
  | none => none
  | some (ab, σ₁) => if (ab.all fun x => (sc.names.lookup x.1 == some .local) || (sc.names.lookup x.1 == some .cell)) = true then
      (match f ⟨θbind (scx sc) ab fun u1 => none, σ₁⟩ with
      | some (fl, st') => some (retOf fl, st'.σ)
      | none => none) else none
theorem FnK.ofB {a : Addr} {fd : FuncData} {body : List Stmt} {B} {f : K Fl} (h : FdOk C a fd body) (hB : Binds C fd B) (hf : ∀ env, Exs (C.push env) n (scx fd.scope) body f) : FnK C (n + 1) (.ref a) (Fof B fd.scope f) := by
  refine FnK.of_body h hB hf fun args kws σ r σ' e P k => ?_
  unfold Fof at e
  cases e1 : B args kws σ with
  | none => rw [e1] at e; cases e
  | some p =>
    rw [e1] at e
    refine ite_none e fun hall e => ?_
    cases e2 : f ⟨θbind (scx fd.scope) p.1 fun u1 => none, p.2⟩ with
    | none => rw [e2] at e; cases e
    | some q =>
      rw [e2] at e
      cases e
      exact k p.1 p.2 q.1 q.2.θ e1 hall e2 rfl
theorem Exs.lessN {m : Nat} {body : List Stmt} {f : K Fl} (h : Exs C m Γ body f) (hl : m ≤ n) : Exs C n Γ body f := ⟨fun A env W st s ok => h.run A env W st s (ok.less hl)⟩

section
variable {o : Expr} {apos pos : Pos} {args : List Expr} {f : K AV} {g : K (List AV)}
theorem Ev.mAppend (ho : Ev C n Γ o f) (ha : Eas C n Γ args g) (hst : args.all (fun e => !isStar e) = true) (hlen : decide (args.length < 29) = true) (hsup : isSuper o = false) (hline : (apos.endLine == pos.line) = true) :
    Ev C n Γ (.Call (.Attribute o "append" apos) args [] pos) (K.bind f fun a => K.bind (guardK (isLst a)) fun u1 => K.bind g fun as => appendK (a :: as)) :=
  Ev.meth ho (Res.list F.slot_list_append F.type_list_append) Callee.builtin ha Cal.append hst hlen hsup hline
theorem Ev.mPop (ho : Ev C n Γ o f) (ha : Eas C n Γ args g) (hst : args.all (fun e => !isStar e) = true) (hlen : decide (args.length < 29) = true) (hsup : isSuper o = false) (hline : (apos.endLine == pos.line) = true) :
    Ev C n Γ (.Call (.Attribute o "pop" apos) args [] pos) (K.bind f fun a => K.bind (guardK (isLst a)) fun u1 => K.bind g fun as => popK (a :: as)) :=
  Ev.meth ho (Res.list F.slot_list_pop F.type_list_pop) Callee.builtin ha Cal.pop hst hlen hsup hline
theorem Ev.mIndex (ho : Ev C n Γ o f) (ha : Eas C n Γ args g) (hst : args.all (fun e => !isStar e) = true) (hlen : decide (args.length < 29) = true) (hsup : isSuper o = false) (hline : (apos.endLine == pos.line) = true) :
    Ev C n Γ (.Call (.Attribute o "index" apos) args [] pos) (K.bind f fun a => K.bind (guardK (isLst a)) fun u1 => K.bind g fun as => indexK (a :: as)) :=
  Ev.meth ho (Res.list F.slot_list_index F.type_list_index) Callee.builtin ha Cal.index hst hlen hsup hline
theorem Ev.mClear (ho : Ev C n Γ o f) (ha : Eas C n Γ args g) (hst : args.all (fun e => !isStar e) = true) (hlen : decide (args.length < 29) = true) (hsup : isSuper o = false) (hline : (apos.endLine == pos.line) = true) :
    Ev C n Γ (.Call (.Attribute o "clear" apos) args [] pos) (K.bind f fun a => K.bind (guardK (isLst a)) fun u1 => K.bind g fun as => clearK (a :: as)) :=
  Ev.meth ho (Res.list F.slot_list_clear F.type_list_clear) Callee.builtin ha Cal.clear hst hlen hsup hline
theorem Ev.mDget (ho : Ev C n Γ o f) (ha : Eas C n Γ args g) (hst : args.all (fun e => !isStar e) = true) (hlen : decide (args.length < 29) = true) (hsup : isSuper o = false) (hline : (apos.endLine == pos.line) = true) :
    Ev C n Γ (.Call (.Attribute o "get" apos) args [] pos) (K.bind f fun a => K.bind (guardK (isDct a)) fun u1 => K.bind g fun as => dgetK (a :: as)) :=
  Ev.meth ho (Res.dict F.slot_dict_get F.type_dict_get) Callee.builtin ha Cal.dget hst hlen hsup hline
theorem Ev.mSadd (ho : Ev C n Γ o f) (ha : Eas C n Γ args g) (hst : args.all (fun e => !isStar e) = true) (hlen : decide (args.length < 29) = true) (hsup : isSuper o = false) (hline : (apos.endLine == pos.line) = true) :
    Ev C n Γ (.Call (.Attribute o "add" apos) args [] pos) (K.bind f fun a => K.bind (guardK (isSt a)) fun u1 => K.bind g fun as => saddK (a :: as)) :=
  Ev.meth ho Res.setAdd Callee.builtin ha Cal.sadd hst hlen hsup hline
theorem Ev.mUpper (ho : Ev C n Γ o f) (ha : Eas C n Γ args g) (hst : args.all (fun e => !isStar e) = true) (hlen : decide (args.length < 29) = true) (hsup : isSuper o = false) (hline : (apos.endLine == pos.line) = true) :
    Ev C n Γ (.Call (.Attribute o "upper" apos) args [] pos) (K.bind f fun a => K.bind (guardK (isStrV a)) fun u1 => K.bind g fun as => upperK (a :: as)) :=
  Ev.meth ho (Res.str F.slot_str_upper F.type_str_upper) Callee.builtin ha Cal.upper hst hlen hsup hline
theorem Ev.mLower (ho : Ev C n Γ o f) (ha : Eas C n Γ args g) (hst : args.all (fun e => !isStar e) = true) (hlen : decide (args.length < 29) = true) (hsup : isSuper o = false) (hline : (apos.endLine == pos.line) = true) :
    Ev C n Γ (.Call (.Attribute o "lower" apos) args [] pos) (K.bind f fun a => K.bind (guardK (isStrV a)) fun u1 => K.bind g fun as => lowerK (a :: as)) :=
  Ev.meth ho (Res.str F.slot_str_lower F.type_str_lower) Callee.builtin ha Cal.lower hst hlen hsup hline
theorem Ev.mJoin (ho : Ev C n Γ o f) (ha : Eas C n Γ args g) (hst : args.all (fun e => !isStar e) = true) (hlen : decide (args.length < 29) = true) (hsup : isSuper o = false) (hline : (apos.endLine == pos.line) = true) :
    Ev C n Γ (.Call (.Attribute o "join" apos) args [] pos) (K.bind f fun a => K.bind (guardK (isStrV a)) fun u1 => K.bind g fun as => joinK (a :: as)) :=
  Ev.meth ho (Res.str F.slot_str_join F.type_str_join) Callee.builtin ha Cal.join hst hlen hsup hline
theorem Ev.mSearch {L : List Addr} (hL : L.all (patOk C.K) = true) (ho : Ev C n Γ o f) (ha : Eas C n Γ args g) (hst : args.all (fun e => !isStar e) = true) (hlen : decide (args.length < 29) = true) (hsup : isSuper o = false) (hline : (apos.endLine == pos.line) = true) :
    Ev C n Γ (.Call (.Attribute o "search" apos) args [] pos) (K.bind f fun a => K.bind (guardK (isPat L a)) fun u1 => K.bind g fun as => searchK L (a :: as)) :=
  Ev.meth ho (Res.pat hL) Callee.builtin ha (Cal.search hL) hst hlen hsup hline
theorem Ev.mOwn {name : Str} {Cl fa : Addr} {F} (hK : C.K = KK) (ok : Cx.Ok C.toBx) (h : methIn KK Cl name = some fa) (hkp : keepIn KK (.ref fa) = true) (hF : FnK C n (.ref fa) F) (ho : Ev C n Γ o f) (ha : Eas C n Γ args g) (hst : args.all (fun e => !isStar e) = true) (hlen : decide (args.length < 29) = true) (hsup : isSuper o = false) (hline : (apos.endLine == pos.line) = true) :
    Ev C n Γ (.Call (.Attribute o name apos) args [] pos) (K.bind f fun a => K.bind (guardK (isInst Cl name a)) fun u1 => K.bind g fun as => liftF (fun as σ => F as [] σ) (a :: as)) :=
  Ev.meth ho (Res.instW hK h) (Callee.kW hK ok hkp) ha (Cal.fn hF.fn) hst hlen hsup hline
theorem Ev.mOwnK {name : Str} {Cl fa : Addr} {F} {kws : List Keyword} {g : K (List AV × List (Str × AV))} (hK : C.K = KK) (ok : Cx.Ok C.toBx) (h : methIn KK Cl name = some fa) (hkp : keepIn KK (.ref fa) = true) (hF : FnK C n (.ref fa) F) (ho : Ev C n Γ o f) (ha : Ear C n Γ args kws g) (hst : args.all (fun e => !isStar e) = true) (hkw : kws.all (fun k => k.arg.isSome) = true) (hlen : decide (args.length + kws.length < 29) = true) (hsup : isSuper o = false) (hline : (apos.endLine == pos.line) = true) :
    Ev C n Γ (.Call (.Attribute o name apos) args kws pos) (K.bind f fun a => K.bind (guardK (isInst Cl name a)) fun u1 => K.bind g fun p => liftK F (a :: p.1) p.2) :=
  Ev.methK ho (Res.instW hK h) (Callee.kW hK ok hkp) ha (CalK.fn hF) hst hkw hlen hsup hline
theorem Ev.fnCall {x : Str} {np : Pos} {fa : Addr} {F} (hK : C.K = KK) (ok : Cx.Ok C.toBx) (hkp : keepIn KK (.ref fa) = true) (hF : FnK C n (.ref fa) F) (hf : Ev C n Γ (.Name x np) (K.ret (.val (.ref fa)))) (ha : Eas C n Γ args g) (hl : lone args = false) :
    Ev C n Γ (.Call (.Name x np) args [] pos) (K.bind g (liftF fun as σ => F as [] σ)) :=
  Ev.call hf (Callee.kW hK ok hkp) ha hl (Cal.fn hF.fn)
end
theorem Ex.failRaise {a b : Option Expr} {p : Pos} : Ex C n Γ (.Raise a b p) K.fail := Ex.fail
theorem Ex.failAssert {a : Expr} {b : Option Expr} {p : Pos} : Ex C n Γ (.Assert a b p) K.fail := Ex.fail
theorem Ex.failFor {t i : Expr} {a b : List Stmt} {p : Pos} : Ex C n Γ (.For t i a b p) K.fail := Ex.fail
theorem Ex.tryNextW {e₀ : Expr} {x : Str} {px pa pb pn ph pos : Pos} {i j : Nat} {f : K (Option AV)} {g : K Fl} {b₀ : Stmt} {suite : List Stmt} (hcalm : C.calm = true) (hK : C.K = KK) (hcomp : Γ.comp = false)
    (hn : Nx C n Γ e₀ f) (hx : Γ.tab.lookup x = some (.local, i)) (hs : ∀ env, swapsWith e₀ (some (.Name x px)) pa.line env = pure false) (hg : Exs C.hot n Γ (b₀ :: suite) g)
    (hS : PySem.W.nsIn KK mainGlobals (Str.ofString "StopIteration") = some none) (hS2 : Γ.tab.lookup (Str.ofString "StopIteration") = some (.globalImplicit, j)) :
    Ex C n Γ (.Try [.Assign [.Name x px] e₀ pa, .Break pb] [.ExceptHandler (some (.Name (Str.ofString "StopIteration") pn)) none (b₀ :: suite) ph] [] [] pos)
      (K.bind f fun r => match r with | some a => K.bind (setv i a) fun u1 => K.ret .brk | none => g) := Ex.tryNext hcalm hcomp hn hx hs hg (hK ▸ hS) hS2
theorem FnK.clsW {Cl fI : Addr} {F} (hK : C.K = KK) (hm : makesIn KK Cl = true) (hi : findIn KK (.ref Cl) "__init__" = some (some (.ref fI))) (hf : typeIn KK (.ref fI) = some (.type "function")) (hF : FnK C n (.ref fI) F) : FnK C (n + 1) (.ref Cl) (makeF Cl F) := FnK.cls (hK ▸ hm) (hK ▸ hi) (hK ▸ hf) hF
theorem FnK.clsSW {Cl fI : Addr} {F} (hK : C.K = KK) (hm : makesIn KK Cl = true) (hi : findIn KK (.ref Cl) "__init__" = some (some (.ref fI))) (hf : typeIn KK (.ref fI) = some (.type "function")) (hF : FnK C n (.ref fI) F) : FnK C (n + 1) (.ref Cl) (makeS Cl F) := FnK.clsS (hK ▸ hm) (hK ▸ hi) (hK ▸ hf) hF
theorem Binds.d1W {fd : FuncData} {x y : Str} {T : Addr} {o : Obj} {m : Nat} {k : Value → Option (Array Value) → Sem (List (Str × Value))} (hK : C.K = KK) (hd : fd.defaults = .ref T) (ho : KK.lookup T = some o) (hs : o.data = .seq #[.none] m)
    (h₁ : ∀ v, bindArgs fd ⟨[v], []⟩ = seqItems? fd.defaults >>= k v) (h₂ : ∀ v, k v (some #[.none]) = pure [(x, v), (y, .none)]) :
    Binds C fd (bD1 x y) := Binds.d1 hd (hK ▸ ho) hs h₁ h₂
end
end Mine
set_option Elab.async false
set_option maxRecDepth 100000
namespace Mine
open PySem PyProof.Rows PySem.W PySem.SeqAt

noncomputable def wp {α : Type} (f : K α) (st : St) (Q : α → St → Prop) : Prop := ∃ a st', f st = some (a, st') ∧ Q a st'
noncomputable def wpF (F : Option (AV × List AO)) (Q : AV → List AO → Prop) : Prop := ∃ r σ', F = some (r, σ') ∧ Q r σ'
noncomputable def th (l : List (Option AV)) : Nat → Option AV := fun i => (l[i]?).join
noncomputable def thenQ (g : K Fl) (Q : Fl → St → Prop) : Fl → St → Prop := fun fl st => match fl with
  | .next => wp g st Q
  | fl => Q fl st

noncomputable def whileQ (I : Nat → St → Prop) (n : Nat) (Q : Fl → St → Prop) : Fl → St → Prop := fun fl st => match fl with
  | .next | .cont => ∃ m, m < n ∧ I m st
  | .brk => Q .next st
  | .ret v => Q (.ret v) st
noncomputable def forQ (I : List AV → List AV → St → Prop) (d r : List AV) (Q : Fl → St → Prop) : Fl → St → Prop := fun fl st => match fl with
  | .next | .cont => I d r st
  | .brk => Q .next st
  | .ret v => Q (.ret v) st
section
variable {st : St} {g : K Fl} {Q : Fl → St → Prop} {I : Nat → St → Prop} {J : List AV → List AV → St → Prop} {n : Nat} {d r : List AV} {v : AV}
theorem thenQ_next (h : wp g st Q) : thenQ g Q .next st := h
theorem thenQ_brk (h : Q .brk st) : thenQ g Q .brk st := h
theorem thenQ_cont (h : Q .cont st) : thenQ g Q .cont st := h
theorem thenQ_ret (h : Q (.ret v) st) : thenQ g Q (.ret v) st := h
theorem whileQ_next (h : ∃ m, m < n ∧ I m st) : whileQ I n Q .next st := h
theorem whileQ_cont (h : ∃ m, m < n ∧ I m st) : whileQ I n Q .cont st := h
theorem whileQ_brk (h : Q .next st) : whileQ I n Q .brk st := h
theorem whileQ_ret (h : Q (.ret v) st) : whileQ I n Q (.ret v) st := h
theorem forQ_next (h : J d r st) : forQ J d r Q .next st := h
theorem forQ_cont (h : J d r st) : forQ J d r Q .cont st := h
theorem forQ_brk (h : Q .next st) : forQ J d r Q .brk st := h
theorem forQ_ret (h : Q (.ret v) st) : forQ J d r Q (.ret v) st := h
end

section
variable {α β : Type} {st : St} {σ : List AO} {l : List (Option AV)}
theorem wp_of {f : K α} {a : α} {st' : St} {Q : α → St → Prop} (e : f st = some (a, st')) (h : Q a st') : wp f st Q := ⟨a, st', e, h⟩
theorem wp_mono {f : K α} {Q Q' : α → St → Prop} (h : wp f st Q) (hq : ∀ a st', Q a st' → Q' a st') : wp f st Q' := let ⟨a, st', e, h⟩ := h; ⟨a, st', e, hq a st' h⟩
theorem wpF_mono {F : Option (AV × List AO)} {Q Q' : AV → List AO → Prop} (h : wpF F Q) (hq : ∀ a σ', Q a σ' → Q' a σ') : wpF F Q' := let ⟨a, st', e, h⟩ := h; ⟨a, st', e, hq a st' h⟩
theorem wp_bind {f : K α} {g : α → K β} {Q : β → St → Prop} (h : wp f st fun a st' => wp (g a) st' Q) : wp (K.bind f g) st Q := by
  obtain ⟨a, st₁, e, b, st₂, e2, hq⟩ := h
  exact ⟨b, st₂, K.bind_iff.mpr ⟨a, st₁, e, e2⟩, hq⟩
theorem wp_ret {a : α} {Q : α → St → Prop} (h : Q a st) : wp (K.ret a) st Q := ⟨a, st, rfl, h⟩
theorem wp_then {f g : K Fl} {Q : Fl → St → Prop} (h : wp f st (thenQ g Q)) : wp (thenK f g) st Q := by
  refine wp_bind (wp_mono h fun fl st' h' => ?_)
  cases fl with
  | next => exact h'
  | brk => exact wp_ret h'
  | cont => exact wp_ret h'
  | ret v => exact wp_ret h'
theorem wp_seq {f g : K Fl} {Q : Fl → St → Prop} (M : St → Prop) (h : wp f st fun fl st' => fl = .next ∧ M st') (k : ∀ st', M st' → wp g st' Q) : wp (thenK f g) st Q :=
  wp_then (wp_mono h fun fl st' h' => by obtain ⟨rfl, h'⟩ := h'; exact k st' h')
theorem wp_getv {i : Nat} {a : AV} {Q : AV → St → Prop} (h : th l i = some a) (hq : Q a ⟨th l, σ⟩) : wp (getv i) ⟨th l, σ⟩ Q := ⟨a, _, by show (th l i).map _ = _; rw [h]; rfl, hq⟩
theorem upd_th {i : Nat} {a : AV} (h : Nat.blt i l.length = true) : upd (th l) i a = th (l.set i (some a)) := by
  have h := Nat.blt_eq.mp h
  funext j
  unfold upd th
  split
  · rename_i e; subst e; rw [List.getElem?_set_self h]; rfl
  · rename_i e; rw [List.getElem?_set_ne (fun q => e q.symm)]
theorem wp_setv {i : Nat} {a : AV} {Q : Unit → St → Prop} (h : Nat.blt i l.length = true) (hq : Q () ⟨th (l.set i (some a)), σ⟩) : wp (setv i a) ⟨th l, σ⟩ Q :=
  ⟨(), _, rfl, by rw [upd_th h]; exact hq⟩
theorem wp_guard {P : St → Prop} {Q : Unit → St → Prop} (hp : P st) (hq : Q () st) : wp (guardK P) st Q := ⟨(), st, guardK_pos hp, hq⟩
theorem wp_liftF {F : List AV → List AO → Option (AV × List AO)} {args : List AV} {Q : AV → St → Prop} {θ : Nat → Option AV} (h : wpF (F args σ) fun r σ' => Q r ⟨θ, σ'⟩) : wp (liftF F args) ⟨θ, σ⟩ Q := by
  obtain ⟨r, σ', e, hq⟩ := h
  exact ⟨r, _, by unfold liftF; rw [e]; rfl, hq⟩
theorem wp_liftK {F : List AV → List (Str × AV) → List AO → Option (AV × List AO)} {args : List AV} {kws : List (Str × AV)} {Q : AV → St → Prop} {θ : Nat → Option AV} (h : wpF (F args kws σ) fun r σ' => Q r ⟨θ, σ'⟩) : wp (liftK F args kws) ⟨θ, σ⟩ Q := by
  obtain ⟨r, σ', e, hq⟩ := h
  exact ⟨r, _, by unfold liftK; rw [e]; rfl, hq⟩
theorem wp_ite {p : Prop} [Decidable p] {f g : K α} {Q : α → St → Prop} (ht : p → wp f st Q) (hf : ¬ p → wp g st Q) : wp (if decide p = true then f else g) st Q := by
  by_cases h : p
  · rw [if_pos (by simpa using h)]; exact ht h
  · rw [if_neg (by simpa using h)]; exact hf h
theorem wp_iteB {c : Bool} {f g : K α} {Q : α → St → Prop} (ht : c = true → wp f st Q) (hf : c = false → wp g st Q) : wp (if c = true then f else g) st Q := by
  cases c with
  | true => exact ht rfl
  | false => exact hf rfl
theorem wp_while {t : K Bool} {b o : K Fl} {Q : Fl → St → Prop} (I : Nat → St → Prop) (n : Nat) (h : I n st)
    (step : ∀ n st, I n st → wp t st fun c st' => if c = true then wp b st' (whileQ I n Q) else wp o st' Q) : wp (whileW t b o) st Q := by
  have key : ∀ n st, I n st → ∃ N fl st', whileA t b o N st = some (fl, st') ∧ Q fl st' := by
    intro n
    induction n using Nat.strongRecOn with
    | _ n ih =>
      intro st h
      obtain ⟨c, st₁, e1, h1⟩ := step n st h
      cases c with
      | false =>
        obtain ⟨fl, st₂, e2, h2⟩ := h1
        exact ⟨1, fl, st₂, by unfold whileA; rw [K.bind_some e1]; exact e2, h2⟩
      | true =>
        obtain ⟨fl, st₂, e2, h2⟩ := h1
        cases fl with
        | next =>
          obtain ⟨m, hm, hI⟩ := h2
          obtain ⟨N, fl, st', e3, h3⟩ := ih m hm st₂ hI
          exact ⟨N + 1, fl, st', by unfold whileA; rw [K.bind_some e1, if_pos rfl, K.bind_some e2]; exact e3, h3⟩
        | cont =>
          obtain ⟨m, hm, hI⟩ := h2
          obtain ⟨N, fl, st', e3, h3⟩ := ih m hm st₂ hI
          exact ⟨N + 1, fl, st', by unfold whileA; rw [K.bind_some e1, if_pos rfl, K.bind_some e2]; exact e3, h3⟩
        | brk => exact ⟨1, .next, st₂, by unfold whileA; rw [K.bind_some e1, if_pos rfl, K.bind_some e2]; rfl, h2⟩
        | ret v => exact ⟨1, .ret v, st₂, by unfold whileA; rw [K.bind_some e1, if_pos rfl, K.bind_some e2]; rfl, h2⟩
  obtain ⟨N, fl, st', e, hq⟩ := key n st h
  exact ⟨fl, st', whileW_iff.mpr ⟨N, e⟩, hq⟩
theorem wp_forL {g : Option (Nat × AO)} {asg : AV → K Unit} {b o : K Fl} {vs : List AV} {Q : Fl → St → Prop} (I : List AV → List AV → St → Prop) (h : I [] vs st)
    (step : ∀ d a r st, d ++ a :: r = vs → I d (a :: r) st → gOk g st.σ ∧ wp (asg a) st fun u1 st' => wp b st' (forQ I (d ++ [a]) r Q))
    (done : ∀ st, I vs [] st → gOk g st.σ ∧ wp o st Q) : wp (forL g asg b o vs) st Q := by
  have key : ∀ r d st, d ++ r = vs → I d r st → wp (forL g asg b o r) st Q := by
    intro r
    induction r with
    | nil =>
      intro d st hd hI
      rw [List.append_nil] at hd
      obtain ⟨h1, h2⟩ := done st (hd ▸ hI)
      exact wp_bind (wp_guard h1 h2)
    | cons a r ih =>
      intro d st hd h
      obtain ⟨h1, h2⟩ := step d a r st hd h
      refine wp_bind (wp_guard h1 (wp_bind (wp_mono h2 fun u1 st' h3 => wp_bind (wp_mono h3 fun fl st'' h4 => ?_))))
      cases fl with
      | next => exact ih (d ++ [a]) st'' (by rw [List.append_assoc]; exact hd) h4
      | cont => exact ih (d ++ [a]) st'' (by rw [List.append_assoc]; exact hd) h4
      | brk => exact wp_ret h4
      | ret v => exact wp_ret h4
  exact key vs [] st rfl h
theorem wp_src {a : AV} {vs : List AV} {g : Option (Nat × AO)} {Q : List AV × Option (Nat × AO) → St → Prop} {θ : Nat → Option AV} (e : srcOf a σ = some (vs, g)) (hq : Q (vs, g) ⟨θ, σ⟩) : wp (srcK a) ⟨θ, σ⟩ Q := ⟨_, _, by unfold srcK; rw [e]; rfl, hq⟩
theorem wp_comp {Γ : SCx} {sc : Scope} {f : K (List AV × Option (Nat × AO))} {F : Nat → List AV × Option (Nat × AO) → K Fl} {Q : Nat → St → Prop}
    (h : wp f st fun p st' => wp (F st'.σ.length p) ⟨θcap (capOf Γ sc) st'.θ, st'.σ ++ [.list []]⟩ fun fl st'' => fl = .next ∧ Q st'.σ.length ⟨st'.θ, st''.σ⟩) : wp (compK Γ sc f F) st Q := by
  obtain ⟨p, st₁, e1, fl, st₂, e2, rfl, hq⟩ := h
  refine ⟨_, _, ?_, hq⟩
  unfold compK
  rw [K.bind_some e1, e2]
  rfl
theorem cap_th {cap : List (Nat × Nat)} {m : List (Option AV)} (n : Nat) (hn : cap.all (fun p => Nat.blt p.1 n) = true) (e : (List.range n).map (fun j => (cap.lookup j).bind (th l)) = m) : θcap cap (th l) = th m := by
  subst e
  funext j
  unfold θcap
  show _ = ((((List.range n).map fun j => (cap.lookup j).bind (th l))[j]?).join)
  rw [List.getElem?_map]
  by_cases h : j < n
  · rw [List.getElem?_range h]; rfl
  · rw [List.getElem?_eq_none (by simpa using h)]
    cases hl : cap.lookup j with
    | none => rfl
    | some i => exact absurd (Nat.blt_eq.mp (List.all_eq_true.mp hn _ (lookup_mem hl))) h
end

noncomputable def lbind (Γ : SCx) : List (Str × AV) → List (Option AV) → List (Option AV)
  | [], l => l
  | (x, a) :: r, l => lbind Γ r (match Γ.tab.lookup x with | some (_, i) => l.set i (some a) | none => l)
theorem numb_lt {x : Str} {k : NameKind} {i j : Nat} : ∀ {l : List (Str × NameKind)} {n : Nat}, (x, k, j) ∈ numb n l → j < n + l.length
  | (z, kz) :: r, n, h => by
    rcases List.mem_cons.mp h with e | h
    · cases e; simp
    · have := numb_lt (i := i) h; simp; omega
theorem lbind_len (Γ : SCx) : ∀ (ab : List (Str × AV)) (l : List (Option AV)), (lbind Γ ab l).length = l.length
  | [], _ => rfl
  | (x, a) :: r, l => by
    unfold lbind
    rw [lbind_len Γ r]
    split <;> simp
theorem θbind_th {sc : Scope} : ∀ (ab : List (Str × AV)) (l : List (Option AV)), sc.names.length ≤ l.length → θbind (scx sc) ab (th l) = th (lbind (scx sc) ab l)
  | [], _, _ => rfl
  | (x, a) :: r, l, h => by
    unfold θbind lbind
    cases hx : (scx sc).tab.lookup x with
    | none => exact θbind_th r l h
    | some p =>
      obtain ⟨k, i⟩ := p
      dsimp only
      have hi : i < sc.names.length := by simpa using numb_lt (i := 0) (lookup_mem hx)
      rw [upd_th (Nat.blt_eq.mpr (Nat.lt_of_lt_of_le hi h))]
      exact θbind_th r _ (by simpa using h)
theorem wpF_of {B : List AV → List (Str × AV) → List AO → Option (List (Str × AV) × List AO)} {sc : Scope} {f : K Fl} {args : List AV} {kws : List (Str × AV)} {σ σ₁ : List AO} {ab : List (Str × AV)} {l : List (Option AV)} {Q : AV → List AO → Prop} (m : Nat)
    (hB : B args kws σ = some (ab, σ₁)) (hab : (ab.all fun x => (sc.names.lookup x.1 == some .local) || (sc.names.lookup x.1 == some .cell)) = true) (hm : Nat.ble sc.names.length m = true) (hl : lbind (scx sc) ab (List.replicate m none) = l)
    (h : wp f ⟨th l, σ₁⟩ fun fl st' => Q (retOf fl) st'.σ) : wpF (Fof B sc f args kws σ) Q := by
  obtain ⟨fl, st', e, hq⟩ := h
  refine ⟨retOf fl, st'.σ, ?_, hq⟩
  have h0 : (fun u1 => none : Nat → Option AV) = th (List.replicate m none) := by
    funext j
    unfold th
    rw [List.getElem?_replicate]
    split <;> rfl
  unfold Fof
  rw [hB]
  dsimp only
  rw [if_pos hab, h0, θbind_th ab _ (by simpa using Nat.ble_eq.mp hm), hl, e]

section
variable {θ : Nat → Option AV} {σ : List AO} {Q : AV → St → Prop}
theorem sub_of {a : AV} {k : Int} {v : AV} (h : subV σ k a = some v) : subA a (.int k) ⟨θ, σ⟩ = some (v, ⟨θ, σ⟩) := by show (subV σ k a).map _ = _; rw [h]; rfl
theorem wp_sub_list {o : Nat} {vs : List AV} {k : Int} {v : AV} (h : σ[o]? = some (.list vs)) (hi : itemAt vs k = some v) (hq : Q v ⟨θ, σ⟩) : wp (subA (.obj o) (.int k)) ⟨θ, σ⟩ Q :=
  ⟨v, ⟨θ, σ⟩, sub_of (by show (σ[o]?).bind (objSub k) = _; rw [h]; exact hi), hq⟩
theorem wp_sub_lst {vs : List AV} {k : Int} {v : AV} (hi : itemAt vs k = some v) (hq : Q v ⟨θ, σ⟩) : wp (subA (.lst vs) (.int k)) ⟨θ, σ⟩ Q :=
  ⟨v, ⟨θ, σ⟩, sub_of hi, hq⟩
theorem wp_sub_tup {vs : List AV} {k : Int} {v : AV} (hi : itemAt vs k = some v) (hq : Q v ⟨θ, σ⟩) : wp (subA (.tup vs) (.int k)) ⟨θ, σ⟩ Q :=
  ⟨v, ⟨θ, σ⟩, sub_of hi, hq⟩
theorem wp_sub_str {x v : Str} {k : Int} (hi : strAt x k = some v) (hq : Q (.str v) ⟨θ, σ⟩) : wp (subA (.str x) (.int k)) ⟨θ, σ⟩ Q :=
  ⟨_, ⟨θ, σ⟩, sub_of (by show (strAt x k).map _ = _; rw [hi]; rfl), hq⟩
theorem wp_sub_dict {o : Nat} {es : List (Int × AV)} {ep : Nat} {k : Int} {v : AV} (h : σ[o]? = some (.dict es ep)) (hi : getD es k = some v) (hq : Q v ⟨θ, σ⟩) : wp (subA (.obj o) (.int k)) ⟨θ, σ⟩ Q :=
  ⟨v, ⟨θ, σ⟩, sub_of (by show (σ[o]?).bind (objSub k) = _; rw [h]; exact hi), hq⟩
theorem bin_of {op : Operator} {x y z : Int} (h : binI op x y = some z) : binK op (.int x) (.int y) ⟨θ, σ⟩ = some (.int z, ⟨θ, σ⟩) := by show (binI op x y).map _ = _; rw [h]; rfl
theorem wp_bin {op : Operator} {a b r : AV} (e : binK op a b ⟨θ, σ⟩ = some (r, ⟨θ, σ⟩)) (hq : Q r ⟨θ, σ⟩) : wp (binA op a b) ⟨θ, σ⟩ Q := ⟨r, ⟨θ, σ⟩, by unfold binA orK; rw [e], hq⟩
theorem wp_add {x y : Int} (hq : Q (.int (x + y)) ⟨θ, σ⟩) : wp (binA .Add (.int x) (.int y)) ⟨θ, σ⟩ Q := wp_bin rfl hq
theorem wp_subt {x y : Int} (hq : Q (.int (x - y)) ⟨θ, σ⟩) : wp (binA .Sub (.int x) (.int y)) ⟨θ, σ⟩ Q := wp_bin rfl hq
theorem wp_mul {x y : Int} (hx : Builtin.Int.intBits x ≤ 64) (hq : Q (.int (x * y)) ⟨θ, σ⟩) : wp (binA .Mult (.int x) (.int y)) ⟨θ, σ⟩ Q := wp_bin (bin_of (if_pos hx)) hq
theorem wp_mod {x y : Int} (hy : y ≠ 0) (hq : Q (.int (x.fmod y)) ⟨θ, σ⟩) : wp (binA .Mod (.int x) (.int y)) ⟨θ, σ⟩ Q := wp_bin (bin_of (if_pos hy)) hq
theorem wp_div {x y : Int} (hy : y ≠ 0 ∧ y.natAbs < 2 ^ 64) (hq : Q (.int (x.fdiv y)) ⟨θ, σ⟩) : wp (binA .FloorDiv (.int x) (.int y)) ⟨θ, σ⟩ Q := wp_bin (bin_of (if_pos hy)) hq
theorem wp_shr {x y : Int} (hy : 0 ≤ y) (hq : Q (.int (x.fdiv (2 ^ y.toNat))) ⟨θ, σ⟩) : wp (binA .RShift (.int x) (.int y)) ⟨θ, σ⟩ Q := wp_bin (bin_of (if_pos hy)) hq
theorem wp_lt {x y : Int} (hq : Q (.bool (decide (x < y))) ⟨θ, σ⟩) : wp (cmpB .Lt (.int x) (.int y)) ⟨θ, σ⟩ Q := ⟨_, ⟨θ, σ⟩, rfl, hq⟩
theorem wp_gt {x y : Int} (hq : Q (.bool (decide (y < x))) ⟨θ, σ⟩) : wp (cmpB .Gt (.int x) (.int y)) ⟨θ, σ⟩ Q := ⟨_, ⟨θ, σ⟩, rfl, hq⟩
theorem wp_ge {x y : Int} (hq : Q (.bool (decide (y ≤ x))) ⟨θ, σ⟩) : wp (cmpB .GtE (.int x) (.int y)) ⟨θ, σ⟩ Q := ⟨_, ⟨θ, σ⟩, rfl, hq⟩
theorem wp_eq {x y : Int} (hq : Q (.bool (x == y)) ⟨θ, σ⟩) : wp (cmpB .Eq (.int x) (.int y)) ⟨θ, σ⟩ Q := ⟨_, ⟨θ, σ⟩, rfl, hq⟩
theorem wp_ne {x y : Int} (hq : Q (.bool (x != y)) ⟨θ, σ⟩) : wp (cmpB .NotEq (.int x) (.int y)) ⟨θ, σ⟩ Q := ⟨_, ⟨θ, σ⟩, rfl, hq⟩
theorem is_of {a : AV} {b : Bool} (h : isNone a = some b) : cmpK .Is a .none ⟨θ, σ⟩ = some (.bool b, ⟨θ, σ⟩) := by show (isNone a).map _ = _; rw [h]; rfl
theorem isNot_of {a : AV} {b : Bool} (h : isNone a = some b) : cmpK .IsNot a .none ⟨θ, σ⟩ = some (.bool (!b), ⟨θ, σ⟩) := by show (isNone a).map _ = _; rw [h]; rfl
theorem orK_snd {α : Type} {f g : K α} {st : St} {r : Option (α × St)} (h : f st = none) (e : g st = r) : orK f g st = r := by unfold orK; rw [h]; exact e
theorem orK_fst {α : Type} {f g : K α} {st : St} {r : α × St} (h : f st = some r) : orK f g st = some r := by unfold orK; rw [h]
theorem isB_none {f : Bool → Bool} (a : AV) {st : St} : K.bind (isB a .none) (fun c => K.ret (AV.bool (f c))) st = none := by
  unfold K.bind isB
  cases a.typ? <;> rfl
theorem wp_is {a : AV} {b : Bool} (h : isNone a = some b) (hq : Q (.bool b) ⟨θ, σ⟩) : wp (cmpB .Is a .none) ⟨θ, σ⟩ Q :=
  ⟨_, ⟨θ, σ⟩, orK_snd (isB_none (f := id) a) (orK_fst (is_of h)), hq⟩
theorem wp_isNot {a : AV} {b : Bool} (h : isNone a = some b) (hq : Q (.bool (!b)) ⟨θ, σ⟩) : wp (cmpB .IsNot a .none) ⟨θ, σ⟩ Q :=
  ⟨_, ⟨θ, σ⟩, orK_snd (isB_none (f := not) a) (orK_fst (isNot_of h)), hq⟩
theorem K.bind_none {α β : Type} {f : K α} {g : α → K β} {st : St} (h : f st = none) : K.bind f g st = none := by unfold K.bind; rw [h]
theorem bind_of {α β : Type} {x : Option α} {f : α → Option β} {a : α} {b : Option β} (h : x = some a) (e : f a = b) : x.bind f = b := by rw [h]; exact e
theorem map_of {α β : Type} {x : Option α} {f : α → β} {a : α} (h : x = some a) : x.map f = some (f a) := by rw [h]; rfl
theorem wp_truth {b : Bool} {Q : Bool → St → Prop} (hq : Q b ⟨θ, σ⟩) : wp (truthK (.bool b)) ⟨θ, σ⟩ Q := ⟨b, ⟨θ, σ⟩, rfl, hq⟩
theorem wp_truthL {o : Nat} {vs : List AV} {Q : Bool → St → Prop} (h : σ[o]? = some (.list vs)) (hl : vs.length < 2 ^ 62) (hq : Q (!vs.isEmpty) ⟨θ, σ⟩) : wp (truthK (.obj o)) ⟨θ, σ⟩ Q :=
  ⟨_, ⟨θ, σ⟩, by show (lstAt σ o).bind _ = _; exact bind_of (lstAt_of h) (if_pos hl), hq⟩
theorem lenOf_lst {o : Nat} {vs : List AV} (h : σ[o]? = some (.list vs)) : lenOf ⟨θ, σ⟩ (.obj o) = some vs.length := by show (lstAt σ o).map _ = _; rw [lstAt_of h]; rfl
theorem wp_len {o : Nat} {vs : List AV} (h : σ[o]? = some (.list vs)) (hl : vs.length < 2 ^ 62) (hq : Q (.int vs.length) ⟨θ, σ⟩) : wp (lenK [.obj o]) ⟨θ, σ⟩ Q :=
  ⟨_, ⟨θ, σ⟩, by show (lenOf ⟨θ, σ⟩ (.obj o)).bind _ = _; exact bind_of (lenOf_lst h) (if_pos hl), hq⟩
theorem set_of {o : Nat} {ob ob' : AO} {k : Int} {x : AV} (h : σ[o]? = some ob) (e : objSet k x ob = some ob') : setItemA (.obj o) (.int k) x ⟨θ, σ⟩ = some ((), ⟨θ, σ.set o ob'⟩) := by
  show (σ[o]?).bind _ = _
  exact bind_of h (map_of e)
theorem wp_setItem {o : Nat} {vs : List AV} {k : Int} {x : AV} {Q : Unit → St → Prop} (h : σ[o]? = some (.list vs)) (hk : 0 ≤ k ∧ k < vs.length ∧ k < 2 ^ 62) (hq : Q () ⟨θ, σ.set o (.list (vs.set k.toNat x))⟩) : wp (setItemA (.obj o) (.int k) x) ⟨θ, σ⟩ Q :=
  ⟨(), _, set_of h (if_pos hk), hq⟩
theorem wp_setDict {o : Nat} {es : List (Int × AV)} {ep : Nat} {k : Int} {x : AV} {Q : Unit → St → Prop} (h : σ[o]? = some (.dict es ep)) (hl : es.length < 2 ^ 20)
    (hq : Q () ⟨θ, σ.set o (.dict (putD es k x) (if es.any (fun p => p.1 = k) then ep else ep + 1))⟩) : wp (setItemA (.obj o) (.int k) x) ⟨θ, σ⟩ Q :=
  ⟨(), _, set_of h (if_pos hl), hq⟩
theorem wp_append {o : Nat} {vs : List AV} {x : AV} (h : σ[o]? = some (.list vs)) (hl : vs.length < 2 ^ 20) (hq : Q .none ⟨θ, σ.set o (.list (vs ++ [x]))⟩) : wp (appendK [.obj o, x]) ⟨θ, σ⟩ Q :=
  ⟨_, _, by show (lstAt σ o).bind _ = _; exact bind_of (lstAt_of h) (if_pos hl), hq⟩
theorem wp_pop {o : Nat} {vs : List AV} {x : AV} (h : σ[o]? = some (.list vs)) (hl : vs.length < 2 ^ 20) (hx : vs.getLast? = some x) (hq : Q x ⟨θ, σ.set o (.list vs.dropLast)⟩) : wp (popK [.obj o]) ⟨θ, σ⟩ Q :=
  ⟨_, _, by show (lstAt σ o).bind _ = _; exact bind_of (lstAt_of h) ((if_pos hl).trans (map_of hx)), hq⟩
theorem isLst_of {o : Nat} {vs : List AV} (h : σ[o]? = some (.list vs)) : isLst (.obj o) ⟨θ, σ⟩ := ⟨vs, lstAt_of h⟩
theorem itemAt_nat {vs : List AV} {k : Nat} {v : AV} (h : vs[k]? = some v) (hk : (k : Int) < 2 ^ 62) : itemAt vs (k : Int) = some v := by
  unfold itemAt seqIndex?
  have := (List.getElem?_eq_some_iff.mp h).1
  rw [if_pos ⟨by omega, hk⟩]
  have h1 : ¬ ((k : Int) < 0) := by omega
  have h2 : ((k : Int) < (vs.length : Int)) := by omega
  simp [h1, h2, h]
end
end Mine
set_option Elab.async false
set_option maxRecDepth 100000
namespace Mine
open PySem PyProof.Rows PySem.W PySem.SeqAt

section
variable {θ : Nat → Option AV} {σ : List AO} {Q : AV → St → Prop} {T : Tab} {name : Str}
theorem attr_of {i : Nat} {o : AO} {v : AV} (hi : σ[i]? = some o) (h : objAttr σ T name o = some v) (hv : noVal v = true) : attrK T name (.obj i) ⟨θ, σ⟩ = some (v, ⟨θ, σ⟩) := by
  show (σ[i]?).bind _ = _
  exact bind_of hi (bind_of h (if_pos hv))
theorem store_of {i d : Nat} {o o' : AO} {v : AV} (hi : σ[i]? = some o) (h : objStore σ T name v i o = some (d, o')) : setAttrK T name (.obj i) v ⟨θ, σ⟩ = some ((), ⟨θ, σ.set d o'⟩) := by
  show (σ[i]?).bind _ = _
  exact bind_of hi (map_of h)
theorem wp_attr {i d : Nat} {Cl : Addr} {fs : List (Str × AV)} {v : AV} (hi : σ[i]? = some (.inst Cl d)) (hd : σ[d]? = some (.attrs fs)) (hT : T.lookup (Cl, name) = some none) (hl : fs.lookup name = some v) (hv : noVal v = true) (hq : Q v ⟨θ, σ⟩) : wp (attrK T name (.obj i)) ⟨θ, σ⟩ Q :=
  wp_of (attr_of hi ((if_pos hT).trans (bind_of (attrsAt_of hd) hl)) hv) hq
theorem wp_setAttr {i d : Nat} {Cl : Addr} {fs : List (Str × AV)} {v : AV} {Q : Unit → St → Prop} (hi : σ[i]? = some (.inst Cl d)) (hd : σ[d]? = some (.attrs fs)) (hT : T.lookup (Cl, name) = some none) (hl : fs.length < 900) (hq : Q () ⟨θ, σ.set d (.attrs (putA name v fs))⟩) : wp (setAttrK T name (.obj i) v) ⟨θ, σ⟩ Q :=
  wp_of (store_of hi ((if_pos hT).trans (bind_of (attrsAt_of hd) (if_pos hl)))) hq
theorem wp_slot {i j : Nat} {Cl : Addr} {vs : List (Option AV)} {v : AV} (hi : σ[i]? = some (.slots Cl vs)) (hT : T.lookup (Cl, name) = some (some j)) (hl : vs[j]? = some (some v)) (hv : noVal v = true) (hq : Q v ⟨θ, σ⟩) : wp (attrK T name (.obj i)) ⟨θ, σ⟩ Q :=
  wp_of (attr_of hi (bind_of (a := j) (by rw [hT]; rfl) (by rw [hl]; rfl)) hv) hq
theorem wp_setSlot {i j : Nat} {Cl : Addr} {vs : List (Option AV)} {v : AV} {Q : Unit → St → Prop} (hi : σ[i]? = some (.slots Cl vs)) (hT : T.lookup (Cl, name) = some (some j)) (hj : j < 900) (hq : Q () ⟨θ, σ.set i (.slots Cl (putS j v vs))⟩) : wp (setAttrK T name (.obj i) v) ⟨θ, σ⟩ Q :=
  wp_of (store_of hi (bind_of (a := j) (by rw [hT]; rfl) (if_pos hj))) hq
theorem newL_of {vs : List AV} (hl : vs.length < 2 ^ 20) : newL vs ⟨θ, σ⟩ = some (.obj σ.length, ⟨θ, σ ++ [.list vs]⟩) := if_pos hl
theorem wp_newL {vs : List AV} (hl : vs.length < 2 ^ 20) (hq : Q (.obj σ.length) ⟨θ, σ ++ [.list vs]⟩) : wp (newL vs) ⟨θ, σ⟩ Q := wp_of (newL_of hl) hq
theorem wp_newD (hq : Q (.obj σ.length) ⟨θ, σ ++ [.dict [] 0]⟩) : wp newD ⟨θ, σ⟩ Q := wp_of rfl hq
theorem wp_newS (hq : Q (.obj σ.length) ⟨θ, σ ++ [.set (fun u1 => false) 0]⟩) : wp (setK []) ⟨θ, σ⟩ Q := wp_of rfl hq
theorem wp_tup {vs : List AV} (hl : vs.length < 2 ^ 20) (hq : Q (.tup vs) ⟨θ, σ⟩) : wp (tupL vs) ⟨θ, σ⟩ Q := wp_of (if_pos hl) hq
theorem wp_dget {o : Nat} {k : Int} {es : List (Int × AV)} {ep : Nat} (h : σ[o]? = some (.dict es ep)) (hq : Q ((getD es k).getD .none) ⟨θ, σ⟩) : wp (dgetK [.obj o, .int k]) ⟨θ, σ⟩ Q :=
  wp_of (by show (Mine.dictAt σ o).map _ = _; exact map_of (dictAt_at h)) hq
theorem wp_augAdd {x y : Int} (hq : Q (.int (x + y)) ⟨θ, σ⟩) : wp (augK .Add (.int x) (.int y)) ⟨θ, σ⟩ Q := wp_of rfl hq
theorem wp_augSub {x y : Int} (hq : Q (.int (x - y)) ⟨θ, σ⟩) : wp (augK .Sub (.int x) (.int y)) ⟨θ, σ⟩ Q := wp_of rfl hq
theorem wp_lenTup {vs : List AV} (hl : vs.length < 2 ^ 62) (hq : Q (.int vs.length) ⟨θ, σ⟩) : wp (lenK [.tup vs]) ⟨θ, σ⟩ Q := wp_of (if_pos hl) hq
theorem wp_lenLst {vs : List AV} (hl : vs.length < 2 ^ 62) (hq : Q (.int vs.length) ⟨θ, σ⟩) : wp (lenK [.lst vs]) ⟨θ, σ⟩ Q := wp_of (if_pos hl) hq
theorem wp_tupleL {o : Nat} {vs : List AV} (h : σ[o]? = some (.list vs)) (hl : vs.length < 2 ^ 20) (hq : Q (.tup vs) ⟨θ, σ⟩) : wp (tupleK [.obj o]) ⟨θ, σ⟩ Q :=
  wp_of (by show (lstAt σ o).bind _ = _; exact bind_of (lstAt_of h) (if_pos hl)) hq
theorem wp_clear {o : Nat} {vs : List AV} (h : σ[o]? = some (.list vs)) (hl : vs.length < 2 ^ 20) (hq : Q .none ⟨θ, σ.set o (.list [])⟩) : wp (clearK [.obj o]) ⟨θ, σ⟩ Q :=
  wp_of (by show (lstAt σ o).bind _ = _; exact bind_of (lstAt_of h) (if_pos hl)) hq
theorem wp_appD {d : Nat} {vs : List AV} {x : AV} {Q : Fl → St → Prop} (h : σ[d]? = some (.list vs)) (hl : vs.length < 2 ^ 20) (hq : Q .next ⟨θ, σ.set d (.list (vs ++ [x]))⟩) : wp (appD d x) ⟨θ, σ⟩ Q :=
  wp_of (by show (lstAt σ d).bind _ = _; exact bind_of (lstAt_of h) (if_pos hl)) hq
theorem wp_vals {o : Nat} {es : List (Int × AV)} {ep : Nat} {Q : List AV × Option (Nat × AO) → St → Prop} (h : σ[o]? = some (.dict es ep)) (hq : Q (es.map (fun x => x.2), some (o, .dict es ep)) ⟨θ, σ⟩) : wp (valsK (.obj o)) ⟨θ, σ⟩ Q :=
  wp_of (by show (Mine.dictAt σ o).map _ = _; exact map_of (dictAt_at h)) hq
theorem wp_srcL {o : Nat} {vs : List AV} {Q : List AV × Option (Nat × AO) → St → Prop} (h : σ[o]? = some (.list vs)) (hq : Q (vs, some (o, .list vs)) ⟨θ, σ⟩) : wp (srcK (.obj o)) ⟨θ, σ⟩ Q :=
  wp_src (by show (σ[o]?).bind _ = _; exact bind_of h rfl) hq
theorem wp_srcD {o : Nat} {es : List (Int × AV)} {ep : Nat} {Q : List AV × Option (Nat × AO) → St → Prop} (h : σ[o]? = some (.dict es ep)) (hq : Q (es.map (fun p => .int p.1), some (o, .dict es ep)) ⟨θ, σ⟩) : wp (srcK (.obj o)) ⟨θ, σ⟩ Q :=
  wp_src (by show (σ[o]?).bind _ = _; exact bind_of h rfl) hq
theorem wp_srcT {vs : List AV} {Q : List AV × Option (Nat × AO) → St → Prop} (hq : Q (vs, none) ⟨θ, σ⟩) : wp (srcK (.tup vs)) ⟨θ, σ⟩ Q := wp_src rfl hq
theorem in_of {o : Nat} {k : Int} {ob : AO} {c : Bool} (h : σ[o]? = some ob) (e : hasO k ob = some c) : cmpB .In (.int k) (.obj o) ⟨θ, σ⟩ = some (.bool c, ⟨θ, σ⟩) :=
  orK_fst (K.bind_some (show (σ[o]?).bind _ = _ from bind_of h (map_of e)))
theorem wp_inD {o : Nat} {k : Int} {es : List (Int × AV)} {ep : Nat} (h : σ[o]? = some (.dict es ep)) (hq : Q (.bool (getD es k).isSome) ⟨θ, σ⟩) : wp (cmpB .In (.int k) (.obj o)) ⟨θ, σ⟩ Q :=
  wp_of (in_of h rfl) hq
theorem wp_inS {o : Nat} {k : Int} {S : Int → Bool} {m : Nat} (h : σ[o]? = some (.set S m)) (hq : Q (.bool (S k)) ⟨θ, σ⟩) : wp (cmpB .In (.int k) (.obj o)) ⟨θ, σ⟩ Q :=
  wp_of (in_of h rfl) hq
theorem wp_sadd {o : Nat} {k : Int} {S : Int → Bool} {m : Nat} (h : σ[o]? = some (.set S m)) (hm : m < 4000) (hq : Q .none ⟨θ, σ.set o (.set (fun x => S x || decide (x = k)) (if S k then m else m + 1))⟩) : wp (saddK [.obj o, .int k]) ⟨θ, σ⟩ Q :=
  wp_of (by show (setAt σ o).bind _ = _; exact bind_of (setAt_of h) (if_pos hm)) hq
theorem wp_delD {o : Nat} {k : Int} {es : List (Int × AV)} {ep : Nat} {Q : Unit → St → Prop} (h : σ[o]? = some (.dict es ep)) (hc : es.length < 2 ^ 20 ∧ (getD es k).isSome = true) (hq : Q () ⟨θ, σ.set o (.dict (delD es k) (ep + 1))⟩) : wp (delItemK (.obj o) (.int k)) ⟨θ, σ⟩ Q :=
  wp_of (by show (Mine.dictAt σ o).bind _ = _; exact bind_of (dictAt_at h) (if_pos hc)) hq
theorem wp_iter {l : Nat} {vs : List AV} (h : σ[l]? = some (.list vs)) (hq : Q (.obj σ.length) ⟨θ, σ ++ [.liter l 0]⟩) : wp (iterK [.obj l]) ⟨θ, σ⟩ Q :=
  wp_of (by show (lstAt σ l).bind _ = _; exact bind_of (lstAt_of h) rfl) hq
theorem wp_nextAttr {i l k : Nat} (h : σ[i]? = some (.liter l k)) (hq : Q (.nxt i) ⟨θ, σ⟩) : wp (nextAttrK (.obj i)) ⟨θ, σ⟩ Q :=
  wp_of (by show (liAt σ i).map _ = _; exact map_of (liAt_of h)) hq
theorem next_of {i l k : Nat} {vs : List AV} {o : Option AV} (h : σ[i]? = some (.liter l k)) (hl : σ[l]? = some (.list vs)) (hv : vs[k]? = o) : nextK (.nxt i) ⟨θ, σ⟩ = some (stepL i l k ⟨θ, σ⟩ o) := by
  show (liAt σ i).bind _ = _
  exact bind_of (liAt_of h) (hv ▸ map_of (lstAt_of hl))
theorem wp_nextSome {i l k : Nat} {vs : List AV} {v : AV} {Q : Option AV → St → Prop} (h : σ[i]? = some (.liter l k)) (hl : σ[l]? = some (.list vs)) (hv : vs[k]? = some v) (hq : Q (some v) ⟨θ, σ.set i (.liter l (k + 1))⟩) : wp (nextK (.nxt i)) ⟨θ, σ⟩ Q :=
  wp_of (next_of h hl hv) hq
theorem wp_nextNone {i l k : Nat} {vs : List AV} {Q : Option AV → St → Prop} (h : σ[i]? = some (.liter l k)) (hl : σ[l]? = some (.list vs)) (hv : vs[k]? = none) (hq : Q none ⟨θ, σ.set i .dead⟩) : wp (nextK (.nxt i)) ⟨θ, σ⟩ Q :=
  wp_of (next_of h hl hv) hq
theorem isDct_of {o : Nat} {es : List (Int × AV)} {ep : Nat} (h : σ[o]? = some (.dict es ep)) : isDct (.obj o) ⟨θ, σ⟩ := ⟨o, es, ep, rfl, h⟩
theorem isSt_of {o : Nat} {S : Int → Bool} {m : Nat} (h : σ[o]? = some (.set S m)) : isSt (.obj o) ⟨θ, σ⟩ := ⟨o, S, m, rfl, h⟩
theorem isInst_of {i d : Nat} {Cl : Addr} {fs : List (Str × AV)} (hi : σ[i]? = some (.inst Cl d)) (hd : σ[d]? = some (.attrs fs)) (hl : fs.lookup name = none) : isInst Cl name (.obj i) ⟨θ, σ⟩ := ⟨i, d, fs, rfl, hi, hd, hl⟩
theorem gOk_of {o : Nat} {x : AO} (h : σ[o]? = some x) : gOk (some (o, x)) σ := fun p e => by cases e; exact h
theorem gOk_none : gOk none σ := fun p e => nomatch e
end

section
variable {σ : List AO} {i j : Nat} {o x : AO}
theorem get_new : (σ ++ [o])[σ.length]? = some o := by simp
theorem get_app (h : σ[i]? = some x) : (σ ++ [o])[i]? = some x := by
  rw [List.getElem?_append_left (List.getElem?_eq_some_iff.mp h).1]; exact h
theorem get_put (h : σ[i]? = some x) (hne : j ≠ i) : (σ.set j o)[i]? = some x := by rw [List.getElem?_set_ne hne]; exact h
theorem lt_of_get (h : σ[i]? = some x) : i < σ.length := (List.getElem?_eq_some_iff.mp h).1
theorem ne_of_get {y : AO} (h : σ[i]? = some x) (h' : σ[j]? = some y) (hne : x ≠ y) : i ≠ j := fun e => hne (by subst e; rw [h] at h'; exact Option.some.inj h')
end
end Mine
set_option Elab.async false
namespace Mine

structure Order {α : Type} (lt : α → α → Bool) : Prop where
  asymm : ∀ {a b}, lt a b = true → lt b a = false
  trans : ∀ {a b c}, lt b a = false → lt c b = false → lt c a = false
theorem Order.mix {α : Type} {lt : α → α → Bool} (o : Order lt) {a b c : α} (h : lt a b = true) (h2 : lt c b = false) : lt c a = false := o.trans (o.asymm h) h2

section
variable {α : Type} (lt : α → α → Bool)
noncomputable def Edge (a : Nat → Option α) (i j : Nat) : Prop := ∀ x y, a i = some x → a j = some y → lt y x = false
noncomputable def Par (i j : Nat) : Prop := j = 2 * i + 1 ∨ j = 2 * i + 2
theorem Par.up {n : Nat} (h : 0 < n) : Par ((n - 1) / 2) n := by unfold Par; omega
noncomputable def Heaped (a : Nat → Option α) : Prop := ∀ i j, Par i j → Edge lt a i j
structure Down (a : Nat → Option α) (p : Nat) : Prop where
  edge : ∀ i j, Par i j → j ≠ p → Edge lt a i j
  over : ∀ q c, Par q p → Par p c → Edge lt a q c
structure Up (a : Nat → Option α) (p : Nat) : Prop where
  edge : ∀ i j, Par i j → i ≠ p → j ≠ p → Edge lt a i j
  over : ∀ q c, Par q p → Par p c → Edge lt a q c
noncomputable def sw (a : Nat → Option α) (p q : Nat) : Nat → Option α := fun i => if i = p then a q else if i = q then a p else a i
variable {lt}
theorem sw_p {a : Nat → Option α} {p q : Nat} : sw a p q p = a q := by simp [sw]
theorem sw_q {a : Nat → Option α} {p q : Nat} : sw a p q q = a p := by
  unfold sw
  split
  · rename_i e; rw [e]
  · simp
theorem sw_ne {a : Nat → Option α} {p q i : Nat} (h : i ≠ p) (h' : i ≠ q) : sw a p q i = a i := by simp [sw, h, h']
theorem Par.less {i j : Nat} (h : Par i j) : i < j := by rcases h with h | h <;> omega
theorem Par.inj {i k j : Nat} (h : Par i j) (h' : Par k j) : i = k := by rcases h with h | h <;> rcases h' with h' | h' <;> omega

theorem Down.heap {a : Nat → Option α} {p : Nat} (d : Down lt a p) (h : ∀ q, Par q p → Edge lt a q p) : Heaped lt a := fun i j hp => by
  by_cases q : j = p
  · subst q; exact h i hp
  · exact d.edge i j hp q
theorem Down.step (o : Order lt) {a : Nat → Option α} {p q : Nat} {x y : α} (d : Down lt a p) (hq : Par q p) (hx : a p = some x) (hy : a q = some y) (hl : lt x y = true) : Down lt (sw a p q) q := by
  have hne := Nat.ne_of_lt hq.less
  refine ⟨fun i j hp hj u v hu hv => ?_, fun r c hr hc u v hu hv => ?_⟩
  · by_cases hjp : j = p
    · subst hjp
      have := hp.inj hq
      subst this
      rw [sw_q, hx] at hu; cases hu
      rw [sw_p, hy] at hv; cases hv
      exact o.asymm hl
    · rw [sw_ne hjp hj] at hv
      by_cases hip : i = p
      · subst hip
        rw [sw_p, hy] at hu; cases hu
        exact d.over q j hq hp _ _ hy hv
      · by_cases hiq : i = q
        · subst hiq
          rw [sw_q, hx] at hu; cases hu
          exact o.mix hl (d.edge i j hp hjp _ _ hy hv)
        · rw [sw_ne hip hiq] at hu
          exact d.edge i j hp hjp _ _ hu hv
  · have h1 := hr.less
    have h2 := hq.less
    rw [sw_ne (by omega) (by omega)] at hu
    by_cases hcp : c = p
    · subst hcp
      rw [sw_p, hy] at hv; cases hv
      exact d.edge r q hr hne _ _ hu hy
    · have h3 := hc.less
      rw [sw_ne hcp (by omega)] at hv
      exact o.trans (d.edge r q hr hne _ _ hu hy) (d.edge q c hc hcp _ _ hy hv)
theorem Up.step (o : Order lt) {a : Nat → Option α} {p c : Nat} {y : α} (d : Up lt a p) (hc : Par p c) (hy : a c = some y) (hm : ∀ s z, Par p s → a s = some z → lt z y = false) : Up lt (sw a p c) c := by
  have hne := Nat.ne_of_lt hc.less
  refine ⟨fun i j hp hi hj u v hu hv => ?_, fun r e hr he u v hu hv => ?_⟩
  · by_cases hjp : j = p
    · subst hjp
      have := hp.less
      rw [sw_ne (Nat.ne_of_lt this) hi] at hu
      rw [sw_p, hy] at hv; cases hv
      exact d.over i c hp hc _ _ hu hy
    · rw [sw_ne hjp hj] at hv
      by_cases hip : i = p
      · subst hip
        rw [sw_p, hy] at hu; cases hu
        exact hm j v hp hv
      · rw [sw_ne hip hi] at hu
        exact d.edge i j hp hip hjp _ _ hu hv
  · have := hr.inj hc
    subst this
    have h1 := hr.less
    have h2 := he.less
    rw [sw_p, hy] at hu; cases hu
    rw [sw_ne (by omega) (by omega)] at hv
    exact d.edge c e he (Nat.ne_of_gt h1) (by omega) _ _ hy hv
theorem Up.down {a : Nat → Option α} {p : Nat} (d : Up lt a p) (h : ∀ c, Par p c → a c = none) : Down lt a p :=
  ⟨fun i j hp hj => by
    by_cases q : i = p
    · subst q; intro u v _ hv; rw [h j hp] at hv; cases hv
    · exact d.edge i j hp q hj, d.over⟩
theorem Heaped.root (o : Order lt) {l : List α} (h : Heaped lt fun i => l[i]?) {r : α} (hr : l[0]? = some r) : ∀ (n i : Nat) (x : α), i < n → l[i]? = some x → lt x r = false
  | 0, _, _, h, _ => absurd h (Nat.not_lt_zero _)
  | n + 1, i, x, hi, hx => by
    have rfl' : lt r r = false := by
      cases e : lt r r with
      | false => rfl
      | true => exact absurd (o.asymm e) (by rw [e]; decide)
    by_cases h0 : i = 0
    · subst h0; rw [hr] at hx; cases hx; exact rfl'
    · have hp : Par ((i - 1) / 2) i := .up (Nat.pos_of_ne_zero h0)
      have hlt := (List.getElem?_eq_some_iff.mp hx).1
      have := hp.less
      exact o.trans (Heaped.root o h hr n ((i - 1) / 2) _ (by omega) (List.getElem?_eq_getElem (by omega))) (h _ i hp _ _ (List.getElem?_eq_getElem (by omega)) hx)
theorem get_set {l : List α} {p : Nat} {x : α} (hp : p < l.length) (i : Nat) : (l.set p x)[i]? = if i = p then some x else l[i]? := by
  split
  · rename_i e; subst e; exact List.getElem?_set_self hp
  · rename_i e; exact List.getElem?_set_ne fun q => e q.symm
theorem move_sw {l : List α} {p q : Nat} {x y : α} (hp : p < l.length) (hpq : q ≠ p) (hy : l[q]? = some y) : (fun i => ((l.set p y).set q x)[i]?) = sw (fun i => (l.set p x)[i]?) p q := by
  have hq := (List.getElem?_eq_some_iff.mp hy).1
  funext i
  unfold sw
  dsimp only
  rw [get_set (by simpa using hq), get_set hp]
  by_cases h1 : i = q
  · subst h1
    simp [hpq, hp]
  · by_cases h2 : i = p
    · subst h2
      rw [if_neg h1, if_pos rfl, if_pos rfl, get_set hp, if_neg hpq, hy]
    · rw [if_neg h1, if_neg h2, if_neg h2, if_neg h1, get_set hp, if_neg h2]
theorem move_perm {l : List α} {p q : Nat} {x y : α} (hp : p < l.length) (hpq : q ≠ p) (hy : l[q]? = some y) : ((l.set p y).set q x).Perm (l.set p x) := by
  obtain ⟨hq, rfl⟩ := List.getElem?_eq_some_iff.mp hy
  have := List.set_set_perm (as := l.set p x) (i := p) (j := q) (by simpa using hp) (by simpa using hq)
  simp only [List.getElem_set_self, List.getElem_set_ne (Ne.symm hpq), List.set_set] at this
  exact this
end
end Mine
open PySem PySem.W PyProof.Rows
set_option Elab.async false
set_option maxRecDepth 1000000
namespace Mine
noncomputable abbrev S (x : String) : Str := Str.ofString x
noncomputable def E (P : Params) (x : String) (t : Nat) (v : Value) : DictEntry := ⟨PyData.keyHash P (Str.ofString x), .str (Str.ofString x) t, v⟩
noncomputable def fnAt (p : Program) (i : Nat) : Stmt := (p.main.body[i]?).getD (.Pass ⟨0, 0, 0, 0⟩)
noncomputable def inCls (s : Stmt) (j : Nat) : Stmt := match s with
  | .ClassDef _ _ _ b _ _ _ _ _ _ _ => (b[j]?).getD (.Pass ⟨0, 0, 0, 0⟩)
  | s => s
noncomputable def dArgs : Stmt → Arguments
  | .FunctionDef _ a _ _ _ _ _ _ _ _ => a
  | _ => ⟨[], [], none, [], [], none, []⟩
noncomputable def dBody : Stmt → List Stmt
  | .FunctionDef _ _ b _ _ _ _ _ _ _ => b
  | _ => []
noncomputable def dScope : Stmt → Scope
  | .FunctionDef _ _ _ _ _ _ sc _ _ _ => sc
  | _ => default
noncomputable def fnD (s : Stmt) (name qual : Str) (dV kV doc pm cd ct : Value) : FuncData :=
  { name := name, qualname := qual, params := dArgs s, body := .stmts (dBody s), scope := dScope s, globals := mainGlobals, closure := [], defaults := dV, kwdefaults := kV, doc := doc, pyModule := pm, annotations := none, code := cd, closureTuple := ct, builtins := builtinsNs }
noncomputable def p05 : Program := PySem.Challenge.pw_op0268_05
noncomputable def heapK (p : Program) (P : Params) : Frag := [
  (3, ⟨(.type "dict"), none, (.dict #[E P "__name__" 165 (.str (S "law_op0268_05") 778), E P "__doc__" 166 .none, E P "__package__" 167 .none, E P "__loader__" 168 (.builtin "__main__.__loader__#opaque"), E P "__spec__" 169 .none, E P "__annotations__" 170 (.ref 6), E P "__builtins__" 171 (.ref 4), E P "__file__" 173 (.str (S "/claim/cut.py") 172), E P "__cached__" 174 .none, E P "_sre" 275 (.ref 12), E P "_wall" 288 (.ref 38), E P "tspecials" 324 (.ref 43), E P "_name_disallowed_re" 350 (.ref 48), E P "_value_disallowed_re" 384 (.ref 53), E P "_formatparam" 394 (.ref 61), E P "Headers" 551 (.ref 182), E P "_NODE_OUT" 556 (.int (-1) 555), E P "_NODE_DONE" 559 (.int (-2) 558), E P "_NodeInfo" 596 (.ref 205), E P "CycleError" 614 (.ref 220), E P "TopologicalSorter" 733 (.ref 302), E P "heappush" 743 (.ref 313), E P "heappop" 752 (.ref 320), E P "_siftdown" 764 (.ref 327), E P "_siftup" 777 (.ref 334), E P "_law_tree" 791 (.ref 341), E P "_law_told" 803 (.ref 348), E P "_law_spread" 812 (.ref 355), E P "_law_walk" 824 (.ref 362), E P "_law_places" 830 (.ref 367), E P "law" 836 (.ref 372)] 31), #[]⟩),
  (37, ⟨(.type "code"), none, (.fields #[(.str (S "_wall") 282), (.str (S "_wall") 283), (.str (S "/claim/cut.py") 284), (.int 2 0), (.int 1 0), (.int 0 0), (.int 0 0), (.int 3 0), (.ref 32), (.bool true), (.int 276 0), (.ref 33), .none, (.ref 34), (.ref 35), (.ref 36), (.int 286 0), (.int 2 0), (.str (S "/claim/cut.py") 287)]), #[]⟩),
  (38, ⟨(.type "function"), none, (.func (fnD (fnAt p 1) (S "_wall") (S "_wall") .none .none .none (.str (S "__main__") 164) (.ref 37) .none)), #[]⟩),
  (42, ⟨(.type "tuple"), none, (.seq #[(.int 14 0), (.int 14 0), (.int 4 0), (.int 1 0), (.int 1 0), (.int 9 0), (.int 0 0), (.int 4227896069 0), (.int 939524097 0), (.int 0 0), (.int 0 0), (.int 0 0), (.int 0 0), (.int 0 0), (.int 0 0), (.int 13 0), (.int 11 0), (.int 9 0), (.int 0 0), (.int 4227896069 0), (.int 939524097 0), (.int 0 0), (.int 0 0), (.int 0 0), (.int 0 0), (.int 0 0), (.int 0 0), (.int 1 0)] 0), #[]⟩),
  (43, ⟨(.type "re.Pattern"), none, (.fields #[(.str (S "[ \\(\\)<>@,;:\\\\\"/\\[\\]\\?=]") 292), (.int 32 323), (.int 0 0), .none, .none, (.ref 42), (.int 0 0)]), #[]⟩),
  (47, ⟨(.type "tuple"), none, (.seq #[(.int 14 0), (.int 10 0), (.int 4 0), (.int 1 0), (.int 1 0), (.int 22 0), (.int 0 0), (.int 31 0), (.int 16 0), (.int 127 0), (.int 0 0), (.int 13 0), (.int 7 0), (.int 22 0), (.int 0 0), (.int 31 0), (.int 16 0), (.int 127 0), (.int 0 0), (.int 1 0)] 0), #[]⟩),
  (48, ⟨(.type "re.Pattern"), none, (.fields #[(.str (S "[\\x00-\\x1F\\x7F]") 326), (.int 32 349), (.int 0 0), .none, .none, (.ref 47), (.int 0 0)]), #[]⟩),
  (52, ⟨(.type "tuple"), none, (.seq #[(.int 14 0), (.int 14 0), (.int 4 0), (.int 1 0), (.int 1 0), (.int 9 0), (.int 4294966783 0), (.int 0 0), (.int 0 0), (.int 2147483648 0), (.int 0 0), (.int 0 0), (.int 0 0), (.int 0 0), (.int 0 0), (.int 13 0), (.int 11 0), (.int 9 0), (.int 4294966783 0), (.int 0 0), (.int 0 0), (.int 2147483648 0), (.int 0 0), (.int 0 0), (.int 0 0), (.int 0 0), (.int 0 0), (.int 1 0)] 0), #[]⟩),
  (53, ⟨(.type "re.Pattern"), none, (.fields #[(.str (S "[\\x00-\\x08\\x0A-\\x1F\\x7F]") 352), (.int 32 383), (.int 0 0), .none, .none, (.ref 52), (.int 0 0)]), #[]⟩),
  (54, ⟨(.type "tuple"), none, (.seq #[.none, (.int 1 385)] 0), #[]⟩),
  (60, ⟨(.type "code"), none, (.fields #[(.str (S "_formatparam") 386), (.str (S "_formatparam") 387), (.str (S "/claim/cut.py") 388), (.int 9 0), (.int 3 0), (.int 0 0), (.int 0 0), (.int 3 0), (.ref 55), (.bool true), (.int 276 0), (.ref 56), .none, (.ref 57), (.ref 58), (.ref 59), (.int 392 0), (.int 9 0), (.str (S "/claim/cut.py") 393)]), #[]⟩),
  (61, ⟨(.type "function"), none, (.func (fnD (fnAt p 6) (S "_formatparam") (S "_formatparam") (.ref 54) .none .none (.str (S "cpy313.wsgiref.headers") 289) (.ref 60) .none)), #[]⟩),
  (69, ⟨(.type "tuple"), none, (.seq #[.none] 0), #[]⟩),
  (75, ⟨(.type "code"), none, (.fields #[(.str (S "__init__") 407), (.str (S "Headers.__init__") 408), (.str (S "/claim/cut.py") 409), (.int 20 0), (.int 2 0), (.int 0 0), (.int 0 0), (.int 3 0), (.ref 70), (.bool true), (.int 276 0), (.ref 71), .none, (.ref 72), (.ref 73), (.ref 74), (.int 414 0), (.int 20 0), (.str (S "/claim/cut.py") 415)]), #[]⟩),
  (76, ⟨(.type "function"), none, (.func (fnD (inCls (fnAt p 7) 0) (S "__init__") (S "Headers.__init__") (.ref 69) .none .none (.str (S "cpy313.wsgiref.headers") 289) (.ref 75) .none)), #[]⟩),
  (82, ⟨(.type "code"), none, (.fields #[(.str (S "_convert_string_type") 417), (.str (S "Headers._convert_string_type") 418), (.str (S "/claim/cut.py") 419), (.int 30 0), (.int 2 0), (.int 0 0), (.int 1 0), (.int 3 0), (.ref 77), (.bool true), (.int 276 0), (.ref 78), .none, (.ref 79), (.ref 80), (.ref 81), (.int 424 0), (.int 30 0), (.str (S "/claim/cut.py") 425)]), #[]⟩),
  (83, ⟨(.type "function"), none, (.func (fnD (inCls (fnAt p 7) 1) (S "_convert_string_type") (S "Headers._convert_string_type") .none .none .none (.str (S "cpy313.wsgiref.headers") 289) (.ref 82) .none)), #[]⟩),
  (89, ⟨(.type "code"), none, (.fields #[(.str (S "__len__") 427), (.str (S "Headers.__len__") 428), (.str (S "/claim/cut.py") 429), (.int 38 0), (.int 1 0), (.int 0 0), (.int 0 0), (.int 3 0), (.ref 84), (.bool true), (.int 276 0), (.ref 85), .none, (.ref 86), (.ref 87), (.ref 88), (.int 431 0), (.int 38 0), (.str (S "/claim/cut.py") 432)]), #[]⟩),
  (90, ⟨(.type "function"), none, (.func (fnD (inCls (fnAt p 7) 2) (S "__len__") (S "Headers.__len__") .none .none .none (.str (S "cpy313.wsgiref.headers") 289) (.ref 89) .none)), #[]⟩),
  (96, ⟨(.type "code"), none, (.fields #[(.str (S "__setitem__") 434), (.str (S "Headers.__setitem__") 435), (.str (S "/claim/cut.py") 436), (.int 41 0), (.int 3 0), (.int 0 0), (.int 0 0), (.int 3 0), (.ref 91), (.bool true), (.int 276 0), (.ref 92), .none, (.ref 93), (.ref 94), (.ref 95), (.int 440 0), (.int 41 0), (.str (S "/claim/cut.py") 441)]), #[]⟩),
  (97, ⟨(.type "function"), none, (.func (fnD (inCls (fnAt p 7) 3) (S "__setitem__") (S "Headers.__setitem__") .none .none .none (.str (S "cpy313.wsgiref.headers") 289) (.ref 96) .none)), #[]⟩),
  (101, ⟨(.type "code"), none, (.fields #[(.str (S "__delitem__") 443), (.str (S "Headers.__delitem__") 444), (.str (S "/claim/cut.py") 445), (.int 45 0), (.int 2 0), (.int 0 0), (.int 0 0), (.int 3 0), (.ref 98), (.bool true), (.int 276 0), (.ref 99), .none, .none, .none, (.ref 100), (.int 446 0), (.int 45 0), (.str (S "/claim/cut.py") 447)]), #[]⟩),
  (102, ⟨(.type "function"), none, (.func (fnD (inCls (fnAt p 7) 4) (S "__delitem__") (S "Headers.__delitem__") .none .none .none (.str (S "cpy313.wsgiref.headers") 289) (.ref 101) .none)), #[]⟩),
  (108, ⟨(.type "code"), none, (.fields #[(.str (S "__getitem__") 449), (.str (S "Headers.__getitem__") 450), (.str (S "/claim/cut.py") 451), (.int 49 0), (.int 2 0), (.int 0 0), (.int 0 0), (.int 3 0), (.ref 103), (.bool true), (.int 276 0), (.ref 104), .none, (.ref 105), (.ref 106), (.ref 107), (.int 454 0), (.int 49 0), (.str (S "/claim/cut.py") 455)]), #[]⟩),
  (109, ⟨(.type "function"), none, (.func (fnD (inCls (fnAt p 7) 5) (S "__getitem__") (S "Headers.__getitem__") .none .none .none (.str (S "cpy313.wsgiref.headers") 289) (.ref 108) .none)), #[]⟩),
  (115, ⟨(.type "code"), none, (.fields #[(.str (S "__contains__") 457), (.str (S "Headers.__contains__") 458), (.str (S "/claim/cut.py") 459), (.int 52 0), (.int 2 0), (.int 0 0), (.int 0 0), (.int 3 0), (.ref 110), (.bool true), (.int 276 0), (.ref 111), .none, (.ref 112), (.ref 113), (.ref 114), (.int 462 0), (.int 52 0), (.str (S "/claim/cut.py") 463)]), #[]⟩),
  (116, ⟨(.type "function"), none, (.func (fnD (inCls (fnAt p 7) 6) (S "__contains__") (S "Headers.__contains__") .none .none .none (.str (S "cpy313.wsgiref.headers") 289) (.ref 115) .none)), #[]⟩),
  (120, ⟨(.type "code"), none, (.fields #[(.str (S "get_all") 465), (.str (S "Headers.get_all") 466), (.str (S "/claim/cut.py") 467), (.int 55 0), (.int 2 0), (.int 0 0), (.int 0 0), (.int 3 0), (.ref 117), (.bool true), (.int 276 0), (.ref 118), .none, .none, .none, (.ref 119), (.int 468 0), (.int 55 0), (.str (S "/claim/cut.py") 469)]), #[]⟩),
  (121, ⟨(.type "function"), none, (.func (fnD (inCls (fnAt p 7) 7) (S "get_all") (S "Headers.get_all") .none .none .none (.str (S "cpy313.wsgiref.headers") 289) (.ref 120) .none)), #[]⟩),
  (122, ⟨(.type "tuple"), none, (.seq #[.none] 0), #[]⟩),
  (128, ⟨(.type "code"), none, (.fields #[(.str (S "get") 471), (.str (S "Headers.get") 472), (.str (S "/claim/cut.py") 473), (.int 59 0), (.int 3 0), (.int 0 0), (.int 0 0), (.int 3 0), (.ref 123), (.bool true), (.int 276 0), (.ref 124), .none, (.ref 125), (.ref 126), (.ref 127), (.int 479 0), (.int 59 0), (.str (S "/claim/cut.py") 480)]), #[]⟩),
  (129, ⟨(.type "function"), none, (.func (fnD (inCls (fnAt p 7) 8) (S "get") (S "Headers.get") (.ref 122) .none .none (.str (S "cpy313.wsgiref.headers") 289) (.ref 128) .none)), #[]⟩),
  (133, ⟨(.type "code"), none, (.fields #[(.str (S "keys") 482), (.str (S "Headers.keys") 483), (.str (S "/claim/cut.py") 484), (.int 66 0), (.int 1 0), (.int 0 0), (.int 0 0), (.int 3 0), (.ref 130), (.bool true), (.int 276 0), (.ref 131), .none, .none, .none, (.ref 132), (.int 485 0), (.int 66 0), (.str (S "/claim/cut.py") 486)]), #[]⟩),
  (134, ⟨(.type "function"), none, (.func (fnD (inCls (fnAt p 7) 9) (S "keys") (S "Headers.keys") .none .none .none (.str (S "cpy313.wsgiref.headers") 289) (.ref 133) .none)), #[]⟩),
  (138, ⟨(.type "code"), none, (.fields #[(.str (S "values") 488), (.str (S "Headers.values") 489), (.str (S "/claim/cut.py") 490), (.int 69 0), (.int 1 0), (.int 0 0), (.int 0 0), (.int 3 0), (.ref 135), (.bool true), (.int 276 0), (.ref 136), .none, .none, .none, (.ref 137), (.int 491 0), (.int 69 0), (.str (S "/claim/cut.py") 492)]), #[]⟩),
  (139, ⟨(.type "function"), none, (.func (fnD (inCls (fnAt p 7) 10) (S "values") (S "Headers.values") .none .none .none (.str (S "cpy313.wsgiref.headers") 289) (.ref 138) .none)), #[]⟩),
  (145, ⟨(.type "code"), none, (.fields #[(.str (S "items") 494), (.str (S "Headers.items") 495), (.str (S "/claim/cut.py") 496), (.int 72 0), (.int 1 0), (.int 0 0), (.int 0 0), (.int 3 0), (.ref 140), (.bool true), (.int 276 0), (.ref 141), .none, (.ref 142), (.ref 143), (.ref 144), (.int 498 0), (.int 72 0), (.str (S "/claim/cut.py") 499)]), #[]⟩),
  (146, ⟨(.type "function"), none, (.func (fnD (inCls (fnAt p 7) 11) (S "items") (S "Headers.items") .none .none .none (.str (S "cpy313.wsgiref.headers") 289) (.ref 145) .none)), #[]⟩),
  (152, ⟨(.type "code"), none, (.fields #[(.str (S "__repr__") 501), (.str (S "Headers.__repr__") 502), (.str (S "/claim/cut.py") 503), (.int 75 0), (.int 1 0), (.int 0 0), (.int 0 0), (.int 3 0), (.ref 147), (.bool true), (.int 276 0), (.ref 148), .none, (.ref 149), (.ref 150), (.ref 151), (.int 505 0), (.int 75 0), (.str (S "/claim/cut.py") 506)]), #[]⟩),
  (153, ⟨(.type "function"), none, (.func (fnD (inCls (fnAt p 7) 12) (S "__repr__") (S "Headers.__repr__") .none .none .none (.str (S "cpy313.wsgiref.headers") 289) (.ref 152) .none)), #[]⟩),
  (157, ⟨(.type "code"), none, (.fields #[(.str (S "__str__") 508), (.str (S "Headers.__str__") 509), (.str (S "/claim/cut.py") 510), (.int 78 0), (.int 1 0), (.int 0 0), (.int 0 0), (.int 3 0), (.ref 154), (.bool true), (.int 276 0), (.ref 155), .none, .none, .none, (.ref 156), (.int 511 0), (.int 78 0), (.str (S "/claim/cut.py") 512)]), #[]⟩),
  (158, ⟨(.type "function"), none, (.func (fnD (inCls (fnAt p 7) 13) (S "__str__") (S "Headers.__str__") .none .none .none (.str (S "cpy313.wsgiref.headers") 289) (.ref 157) .none)), #[]⟩),
  (164, ⟨(.type "code"), none, (.fields #[(.str (S "__bytes__") 514), (.str (S "Headers.__bytes__") 515), (.str (S "/claim/cut.py") 516), (.int 81 0), (.int 1 0), (.int 0 0), (.int 0 0), (.int 3 0), (.ref 159), (.bool true), (.int 276 0), (.ref 160), .none, (.ref 161), (.ref 162), (.ref 163), (.int 518 0), (.int 81 0), (.str (S "/claim/cut.py") 519)]), #[]⟩),
  (165, ⟨(.type "function"), none, (.func (fnD (inCls (fnAt p 7) 14) (S "__bytes__") (S "Headers.__bytes__") .none .none .none (.str (S "cpy313.wsgiref.headers") 289) (.ref 164) .none)), #[]⟩),
  (171, ⟨(.type "code"), none, (.fields #[(.str (S "setdefault") 521), (.str (S "Headers.setdefault") 522), (.str (S "/claim/cut.py") 523), (.int 84 0), (.int 3 0), (.int 0 0), (.int 0 0), (.int 3 0), (.ref 166), (.bool true), (.int 276 0), (.ref 167), .none, (.ref 168), (.ref 169), (.ref 170), (.int 527 0), (.int 84 0), (.str (S "/claim/cut.py") 528)]), #[]⟩),
  (172, ⟨(.type "function"), none, (.func (fnD (inCls (fnAt p 7) 15) (S "setdefault") (S "Headers.setdefault") .none .none .none (.str (S "cpy313.wsgiref.headers") 289) (.ref 171) .none)), #[]⟩),
  (178, ⟨(.type "code"), none, (.fields #[(.str (S "add_header") 530), (.str (S "Headers.add_header") 531), (.str (S "/claim/cut.py") 532), (.int 87 0), (.int 3 0), (.int 0 0), (.int 0 0), (.int 11 0), (.ref 173), (.bool true), (.int 276 0), (.ref 174), .none, (.ref 175), (.ref 176), (.ref 177), (.int 540 0), (.int 87 0), (.str (S "/claim/cut.py") 541)]), #[]⟩),
  (179, ⟨(.type "function"), none, (.func (fnD (inCls (fnAt p 7) 16) (S "add_header") (S "Headers.add_header") .none .none .none (.str (S "cpy313.wsgiref.headers") 289) (.ref 178) .none)), #[]⟩),
  (181, ⟨(.type "dict"), none, (.dict #[E P "__module__" 402 (.str (S "cpy313.wsgiref.headers") 289), E P "__firstlineno__" 406 (.int 18 405), E P "__init__" 416 (.ref 76), E P "_convert_string_type" 426 (.ref 83), E P "__len__" 433 (.ref 90), E P "__setitem__" 442 (.ref 97), E P "__delitem__" 448 (.ref 102), E P "__getitem__" 456 (.ref 109), E P "__contains__" 464 (.ref 116), E P "get_all" 470 (.ref 121), E P "get" 481 (.ref 129), E P "keys" 487 (.ref 134), E P "values" 493 (.ref 139), E P "items" 500 (.ref 146), E P "__repr__" 507 (.ref 153), E P "__str__" 513 (.ref 158), E P "__bytes__" 520 (.ref 165), E P "setdefault" 529 (.ref 172), E P "add_header" 542 (.ref 179), E P "__static_attributes__" 544 (.ref 180), E P "__dict__" 546 (.ref 183), E P "__weakref__" 548 (.ref 184), E P "__doc__" 549 .none] 4), #[]⟩),
  (182, ⟨(.type "type"), none, (.cls ⟨(S "Headers"), [(.type "object")], [(.ref 182), (.type "object")], 181, (S "Headers"), true, [], [], false, none, false⟩), #[none, none, (some (.str (S "Headers") 395)), (some (.str (S "Headers") 403)), (some (.builtin "object.__new__")), (some (.bool true))]⟩),
  (183, ⟨(.type "getset_descriptor"), none, (.fields #[(.str (S "__dict__") 545), (.ref 182), (.builtin "function.__dict__"), (.builtin "function.__dict__#set")]), #[]⟩),
  (184, ⟨(.type "getset_descriptor"), none, (.fields #[(.str (S "__weakref__") 547), (.ref 182), (.builtin "ExceptionGroup.__weakref__"), .none]), #[]⟩),
  (200, ⟨(.type "code"), none, (.fields #[(.str (S "__init__") 576), (.str (S "_NodeInfo.__init__") 577), (.str (S "/claim/cut.py") 578), (.int 106 0), (.int 2 0), (.int 0 0), (.int 0 0), (.int 3 0), (.ref 195), (.bool true), (.int 276 0), (.ref 196), .none, (.ref 197), (.ref 198), (.ref 199), (.int 581 0), (.int 106 0), (.str (S "/claim/cut.py") 582)]), #[]⟩),
  (201, ⟨(.type "function"), none, (.func (fnD (inCls (fnAt p 11) 1) (S "__init__") (S "_NodeInfo.__init__") .none .none .none (.str (S "cpy313.graphlib") 552) (.ref 200) .none)), #[]⟩),
  (204, ⟨(.type "dict"), none, (.dict #[E P "__module__" 567 (.str (S "cpy313.graphlib") 552), E P "__firstlineno__" 571 (.int 103 570), E P "__slots__" 575 (.ref 194), E P "__init__" 583 (.ref 201), E P "__static_attributes__" 587 (.ref 202), E P "node" 589 (.ref 206), E P "npredecessors" 591 (.ref 207), E P "successors" 593 (.ref 208), E P "__doc__" 594 .none] 5), #[]⟩),
  (205, ⟨(.type "type"), none, (.cls ⟨(S "_NodeInfo"), [(.type "object")], [(.ref 205), (.type "object")], 204, (S "_NodeInfo"), false, [(S "node"), (S "npredecessors"), (S "successors")], [], false, none, false⟩), #[none, none, (some (.str (S "_NodeInfo") 560)), (some (.str (S "_NodeInfo") 568)), (some (.builtin "object.__new__")), (some (.bool false))]⟩),
  (206, ⟨(.type "member_descriptor"), none, (.fields #[(.str (S "node") 588), (.ref 205), (.builtin "proto.slot"), (.builtin "proto.slot#set"), (.int 2 0)]), #[]⟩),
  (207, ⟨(.type "member_descriptor"), none, (.fields #[(.str (S "npredecessors") 590), (.ref 205), (.builtin "proto.slot"), (.builtin "proto.slot#set"), (.int 1 0)]), #[]⟩),
  (208, ⟨(.type "member_descriptor"), none, (.fields #[(.str (S "successors") 592), (.ref 205), (.builtin "proto.slot"), (.builtin "proto.slot#set"), (.int 0 0)]), #[]⟩),
  (219, ⟨(.type "dict"), none, (.dict #[E P "__module__" 604 (.str (S "cpy313.graphlib") 552), E P "__firstlineno__" 608 (.int 110 607), E P "__static_attributes__" 609 (.ref 218), E P "__weakref__" 611 (.ref 221), E P "__doc__" 612 .none] 3), #[]⟩),
  (220, ⟨(.type "type"), none, (.cls ⟨(S "CycleError"), [(.type "ValueError")], [(.ref 220), (.type "ValueError"), (.type "Exception"), (.type "BaseException"), (.type "object")], 219, (S "CycleError"), true, [], [], false, none, false⟩), #[(some (.ref 211)), none, (some (.str (S "CycleError") 597)), (some (.str (S "CycleError") 605)), (some (.builtin "ValueError.__new__")), (some (.bool true))]⟩),
  (221, ⟨(.type "getset_descriptor"), none, (.fields #[(.str (S "__weakref__") 610), (.ref 220), (.builtin "ExceptionGroup.__weakref__"), .none]), #[]⟩),
  (231, ⟨(.type "tuple"), none, (.seq #[.none] 0), #[]⟩),
  (237, ⟨(.type "code"), none, (.fields #[(.str (S "__init__") 627), (.str (S "TopologicalSorter.__init__") 628), (.str (S "/claim/cut.py") 629), (.int 114 0), (.int 2 0), (.int 0 0), (.int 0 0), (.int 3 0), (.ref 232), (.bool true), (.int 276 0), (.ref 233), .none, (.ref 234), (.ref 235), (.ref 236), (.int 634 0), (.int 114 0), (.str (S "/claim/cut.py") 635)]), #[]⟩),
  (238, ⟨(.type "function"), none, (.func (fnD (inCls (fnAt p 13) 0) (S "__init__") (S "TopologicalSorter.__init__") (.ref 231) .none .none (.str (S "cpy313.graphlib") 552) (.ref 237) .none)), #[]⟩),
  (244, ⟨(.type "code"), none, (.fields #[(.str (S "_get_nodeinfo") 637), (.str (S "TopologicalSorter._get_nodeinfo") 638), (.str (S "/claim/cut.py") 639), (.int 123 0), (.int 2 0), (.int 0 0), (.int 0 0), (.int 3 0), (.ref 239), (.bool true), (.int 276 0), (.ref 240), .none, (.ref 241), (.ref 242), (.ref 243), (.int 643 0), (.int 123 0), (.str (S "/claim/cut.py") 644)]), #[]⟩),
  (245, ⟨(.type "function"), none, (.func (fnD (inCls (fnAt p 13) 1) (S "_get_nodeinfo") (S "TopologicalSorter._get_nodeinfo") .none .none .none (.str (S "cpy313.graphlib") 552) (.ref 244) .none)), #[]⟩),
  (251, ⟨(.type "code"), none, (.fields #[(.str (S "add") 646), (.str (S "TopologicalSorter.add") 647), (.str (S "/claim/cut.py") 648), (.int 128 0), (.int 2 0), (.int 0 0), (.int 0 0), (.int 7 0), (.ref 246), (.bool true), (.int 276 0), (.ref 247), .none, (.ref 248), (.ref 249), (.ref 250), (.int 655 0), (.int 128 0), (.str (S "/claim/cut.py") 656)]), #[]⟩),
  (252, ⟨(.type "function"), none, (.func (fnD (inCls (fnAt p 13) 2) (S "add") (S "TopologicalSorter.add") .none .none .none (.str (S "cpy313.graphlib") 552) (.ref 251) .none)), #[]⟩),
  (256, ⟨(.type "code"), none, (.fields #[(.str (S "prepare") 658), (.str (S "TopologicalSorter.prepare") 659), (.str (S "/claim/cut.py") 660), (.int 137 0), (.int 1 0), (.int 0 0), (.int 0 0), (.int 3 0), (.ref 253), (.bool true), (.int 276 0), (.ref 254), .none, .none, .none, (.ref 255), (.int 661 0), (.int 137 0), (.str (S "/claim/cut.py") 662)]), #[]⟩),
  (257, ⟨(.type "function"), none, (.func (fnD (inCls (fnAt p 13) 3) (S "prepare") (S "TopologicalSorter.prepare") .none .none .none (.str (S "cpy313.graphlib") 552) (.ref 256) .none)), #[]⟩),
  (263, ⟨(.type "code"), none, (.fields #[(.str (S "get_ready") 664), (.str (S "TopologicalSorter.get_ready") 665), (.str (S "/claim/cut.py") 666), (.int 145 0), (.int 1 0), (.int 0 0), (.int 0 0), (.int 3 0), (.ref 258), (.bool true), (.int 276 0), (.ref 259), .none, (.ref 260), (.ref 261), (.ref 262), (.int 671 0), (.int 145 0), (.str (S "/claim/cut.py") 672)]), #[]⟩),
  (264, ⟨(.type "function"), none, (.func (fnD (inCls (fnAt p 13) 4) (S "get_ready") (S "TopologicalSorter.get_ready") .none .none .none (.str (S "cpy313.graphlib") 552) (.ref 263) .none)), #[]⟩),
  (270, ⟨(.type "code"), none, (.fields #[(.str (S "is_active") 674), (.str (S "TopologicalSorter.is_active") 675), (.str (S "/claim/cut.py") 676), (.int 156 0), (.int 1 0), (.int 0 0), (.int 0 0), (.int 3 0), (.ref 265), (.bool true), (.int 276 0), (.ref 266), .none, (.ref 267), (.ref 268), (.ref 269), (.int 678 0), (.int 156 0), (.str (S "/claim/cut.py") 679)]), #[]⟩),
  (271, ⟨(.type "function"), none, (.func (fnD (inCls (fnAt p 13) 5) (S "is_active") (S "TopologicalSorter.is_active") .none .none .none (.str (S "cpy313.graphlib") 552) (.ref 270) .none)), #[]⟩),
  (277, ⟨(.type "code"), none, (.fields #[(.str (S "__bool__") 681), (.str (S "TopologicalSorter.__bool__") 682), (.str (S "/claim/cut.py") 683), (.int 161 0), (.int 1 0), (.int 0 0), (.int 0 0), (.int 3 0), (.ref 272), (.bool true), (.int 276 0), (.ref 273), .none, (.ref 274), (.ref 275), (.ref 276), (.int 685 0), (.int 161 0), (.str (S "/claim/cut.py") 686)]), #[]⟩),
  (278, ⟨(.type "function"), none, (.func (fnD (inCls (fnAt p 13) 6) (S "__bool__") (S "TopologicalSorter.__bool__") .none .none .none (.str (S "cpy313.graphlib") 552) (.ref 277) .none)), #[]⟩),
  (284, ⟨(.type "code"), none, (.fields #[(.str (S "done") 688), (.str (S "TopologicalSorter.done") 689), (.str (S "/claim/cut.py") 690), (.int 164 0), (.int 1 0), (.int 0 0), (.int 0 0), (.int 7 0), (.ref 279), (.bool true), (.int 276 0), (.ref 280), .none, (.ref 281), (.ref 282), (.ref 283), (.int 699 0), (.int 164 0), (.str (S "/claim/cut.py") 700)]), #[]⟩),
  (285, ⟨(.type "function"), none, (.func (fnD (inCls (fnAt p 13) 7) (S "done") (S "TopologicalSorter.done") .none .none .none (.str (S "cpy313.graphlib") 552) (.ref 284) .none)), #[]⟩),
  (291, ⟨(.type "code"), none, (.fields #[(.str (S "_find_cycle") 702), (.str (S "TopologicalSorter._find_cycle") 703), (.str (S "/claim/cut.py") 704), (.int 187 0), (.int 1 0), (.int 0 0), (.int 0 0), (.int 3 0), (.ref 286), (.bool true), (.int 276 0), (.ref 287), .none, (.ref 288), (.ref 289), (.ref 290), (.int 712 0), (.int 187 0), (.str (S "/claim/cut.py") 713)]), #[]⟩),
  (292, ⟨(.type "function"), none, (.func (fnD (inCls (fnAt p 13) 8) (S "_find_cycle") (S "TopologicalSorter._find_cycle") .none .none .none (.str (S "cpy313.graphlib") 552) (.ref 291) .none)), #[]⟩),
  (298, ⟨(.type "code"), none, (.fields #[(.str (S "static_order") 715), (.str (S "TopologicalSorter.static_order") 716), (.str (S "/claim/cut.py") 717), (.int 216 0), (.int 1 0), (.int 0 0), (.int 0 0), (.int 3 0), (.ref 293), (.bool true), (.int 276 0), (.ref 294), .none, (.ref 295), (.ref 296), (.ref 297), (.int 719 0), (.int 216 0), (.str (S "/claim/cut.py") 720)]), #[]⟩),
  (299, ⟨(.type "function"), none, (.func (fnD (inCls (fnAt p 13) 9) (S "static_order") (S "TopologicalSorter.static_order") .none .none .none (.str (S "cpy313.graphlib") 552) (.ref 298) .none)), #[]⟩),
  (301, ⟨(.type "dict"), none, (.dict #[E P "__module__" 622 (.str (S "cpy313.graphlib") 552), E P "__firstlineno__" 626 (.int 112 625), E P "__init__" 636 (.ref 238), E P "_get_nodeinfo" 645 (.ref 245), E P "add" 657 (.ref 252), E P "prepare" 663 (.ref 257), E P "get_ready" 673 (.ref 264), E P "is_active" 680 (.ref 271), E P "__bool__" 687 (.ref 278), E P "done" 701 (.ref 285), E P "_find_cycle" 714 (.ref 292), E P "static_order" 721 (.ref 299), E P "__static_attributes__" 726 (.ref 300), E P "__dict__" 728 (.ref 303), E P "__weakref__" 730 (.ref 304), E P "__doc__" 731 .none] 4), #[]⟩),
  (302, ⟨(.type "type"), none, (.cls ⟨(S "TopologicalSorter"), [(.type "object")], [(.ref 302), (.type "object")], 301, (S "TopologicalSorter"), true, [], [], false, none, false⟩), #[none, none, (some (.str (S "TopologicalSorter") 615)), (some (.str (S "TopologicalSorter") 623)), (some (.builtin "object.__new__")), (some (.bool true))]⟩),
  (303, ⟨(.type "getset_descriptor"), none, (.fields #[(.str (S "__dict__") 727), (.ref 302), (.builtin "function.__dict__"), (.builtin "function.__dict__#set")]), #[]⟩),
  (304, ⟨(.type "getset_descriptor"), none, (.fields #[(.str (S "__weakref__") 729), (.ref 302), (.builtin "ExceptionGroup.__weakref__"), .none]), #[]⟩),
  (312, ⟨(.type "code"), none, (.fields #[(.str (S "heappush") 736), (.str (S "heappush") 737), (.str (S "/claim/cut.py") 738), (.int 219 0), (.int 2 0), (.int 0 0), (.int 0 0), (.int 3 0), (.ref 307), (.bool true), (.int 276 0), (.ref 308), .none, (.ref 309), (.ref 310), (.ref 311), (.int 741 0), (.int 219 0), (.str (S "/claim/cut.py") 742)]), #[]⟩),
  (313, ⟨(.type "function"), none, (.func (fnD (fnAt p 15) (S "heappush") (S "heappush") .none .none .none (.str (S "cpy313.heapq") 734) (.ref 312) .none)), #[]⟩),
  (319, ⟨(.type "code"), none, (.fields #[(.str (S "heappop") 744), (.str (S "heappop") 745), (.str (S "/claim/cut.py") 746), (.int 222 0), (.int 1 0), (.int 0 0), (.int 0 0), (.int 3 0), (.ref 314), (.bool true), (.int 276 0), (.ref 315), .none, (.ref 316), (.ref 317), (.ref 318), (.int 750 0), (.int 222 0), (.str (S "/claim/cut.py") 751)]), #[]⟩),
  (320, ⟨(.type "function"), none, (.func (fnD (fnAt p 16) (S "heappop") (S "heappop") .none .none .none (.str (S "cpy313.heapq") 734) (.ref 319) .none)), #[]⟩),
  (326, ⟨(.type "code"), none, (.fields #[(.str (S "_siftdown") 753), (.str (S "_siftdown") 754), (.str (S "/claim/cut.py") 755), (.int 230 0), (.int 3 0), (.int 0 0), (.int 0 0), (.int 3 0), (.ref 321), (.bool true), (.int 276 0), (.ref 322), .none, (.ref 323), (.ref 324), (.ref 325), (.int 762 0), (.int 230 0), (.str (S "/claim/cut.py") 763)]), #[]⟩),
  (327, ⟨(.type "function"), none, (.func (fnD (fnAt p 17) (S "_siftdown") (S "_siftdown") .none .none .none (.str (S "cpy313.heapq") 734) (.ref 326) .none)), #[]⟩),
  (333, ⟨(.type "code"), none, (.fields #[(.str (S "_siftup") 765), (.str (S "_siftup") 766), (.str (S "/claim/cut.py") 767), (.int 241 0), (.int 2 0), (.int 0 0), (.int 0 0), (.int 3 0), (.ref 328), (.bool true), (.int 276 0), (.ref 329), .none, (.ref 330), (.ref 331), (.ref 332), (.int 775 0), (.int 241 0), (.str (S "/claim/cut.py") 776)]), #[]⟩),
  (334, ⟨(.type "function"), none, (.func (fnD (fnAt p 18) (S "_siftup") (S "_siftup") .none .none .none (.str (S "cpy313.heapq") 734) (.ref 333) .none)), #[]⟩),
  (340, ⟨(.type "code"), none, (.fields #[(.str (S "_law_tree") 780), (.str (S "_law_tree") 781), (.str (S "/claim/cut.py") 782), (.int 256 0), (.int 1 0), (.int 0 0), (.int 0 0), (.int 3 0), (.ref 335), (.bool true), (.int 276 0), (.ref 336), .none, (.ref 337), (.ref 338), (.ref 339), (.int 789 0), (.int 256 0), (.str (S "/claim/cut.py") 790)]), #[]⟩),
  (341, ⟨(.type "function"), none, (.func (fnD (fnAt p 20) (S "_law_tree") (S "_law_tree") .none .none .none (.str (S "law_op0268_05") 778) (.ref 340) .none)), #[]⟩),
  (347, ⟨(.type "code"), none, (.fields #[(.str (S "_law_told") 792), (.str (S "_law_told") 793), (.str (S "/claim/cut.py") 794), (.int 265 0), (.int 1 0), (.int 0 0), (.int 0 0), (.int 3 0), (.ref 342), (.bool true), (.int 276 0), (.ref 343), .none, (.ref 344), (.ref 345), (.ref 346), (.int 801 0), (.int 265 0), (.str (S "/claim/cut.py") 802)]), #[]⟩),
  (348, ⟨(.type "function"), none, (.func (fnD (fnAt p 21) (S "_law_told") (S "_law_told") .none .none .none (.str (S "law_op0268_05") 778) (.ref 347) .none)), #[]⟩),
  (354, ⟨(.type "code"), none, (.fields #[(.str (S "_law_spread") 804), (.str (S "_law_spread") 805), (.str (S "/claim/cut.py") 806), (.int 280 0), (.int 1 0), (.int 0 0), (.int 0 0), (.int 3 0), (.ref 349), (.bool true), (.int 276 0), (.ref 350), .none, (.ref 351), (.ref 352), (.ref 353), (.int 810 0), (.int 280 0), (.str (S "/claim/cut.py") 811)]), #[]⟩),
  (355, ⟨(.type "function"), none, (.func (fnD (fnAt p 22) (S "_law_spread") (S "_law_spread") .none .none .none (.str (S "law_op0268_05") 778) (.ref 354) .none)), #[]⟩),
  (361, ⟨(.type "code"), none, (.fields #[(.str (S "_law_walk") 813), (.str (S "_law_walk") 814), (.str (S "/claim/cut.py") 815), (.int 285 0), (.int 1 0), (.int 0 0), (.int 0 0), (.int 3 0), (.ref 356), (.bool true), (.int 276 0), (.ref 357), .none, (.ref 358), (.ref 359), (.ref 360), (.int 822 0), (.int 285 0), (.str (S "/claim/cut.py") 823)]), #[]⟩),
  (362, ⟨(.type "function"), none, (.func (fnD (fnAt p 23) (S "_law_walk") (S "_law_walk") .none .none .none (.str (S "law_op0268_05") 778) (.ref 361) .none)), #[]⟩),
  (366, ⟨(.type "code"), none, (.fields #[(.str (S "_law_places") 825), (.str (S "_law_places") 826), (.str (S "/claim/cut.py") 827), (.int 297 0), (.int 1 0), (.int 0 0), (.int 0 0), (.int 3 0), (.ref 363), (.bool true), (.int 276 0), (.ref 364), .none, .none, .none, (.ref 365), (.int 828 0), (.int 297 0), (.str (S "/claim/cut.py") 829)]), #[]⟩),
  (367, ⟨(.type "function"), none, (.func (fnD (fnAt p 24) (S "_law_places") (S "_law_places") .none .none .none (.str (S "law_op0268_05") 778) (.ref 366) .none)), #[]⟩),
  (371, ⟨(.type "code"), none, (.fields #[(.str (S "law") 831), (.str (S "law") 832), (.str (S "/claim/cut.py") 833), (.int 302 0), (.int 1 0), (.int 0 0), (.int 0 0), (.int 3 0), (.ref 368), (.bool true), (.int 276 0), (.ref 369), .none, .none, .none, (.ref 370), (.int 834 0), (.int 302 0), (.str (S "/claim/cut.py") 835)]), #[]⟩),
  (372, ⟨(.type "function"), none, (.func (fnD (fnAt p 25) (S "law") (S "law") .none .none .none (.str (S "law_op0268_05") 778) (.ref 371) .none)), #[]⟩)]
noncomputable def kAddrs : List Addr := [3, 37, 38, 42, 43, 47, 48, 52, 53, 54, 60, 61, 69, 75, 76, 82, 83, 89, 90, 96, 97, 101, 102, 108, 109, 115, 116, 120, 121, 122, 128, 129, 133, 134, 138, 139, 145, 146, 152, 153, 157, 158, 164, 165, 171, 172, 178, 179, 181, 182, 183, 184, 200, 201, 204, 205, 206, 207, 208, 219, 220, 221, 231, 237, 238, 244, 245, 251, 252, 256, 257, 263, 264, 270, 271, 277, 278, 284, 285, 291, 292, 298, 299, 301, 302, 303, 304, 312, 313, 319, 320, 326, 327, 333, 334, 340, 341, 347, 348, 354, 355, 361, 362, 366, 367, 371, 372]
noncomputable def qv : Program := view PySem.Challenge.pw_op0268_05 [0, 25]
noncomputable def looseK : List Str := [S "_wall", S "tspecials", S "_name_disallowed_re", S "_value_disallowed_re", S "_formatparam", S "Headers", S "_NODE_OUT", S "_NODE_DONE", S "_NodeInfo", S "CycleError", S "TopologicalSorter", S "heappush", S "heappop", S "_siftdown", S "_siftup", S "_law_tree", S "_law_told", S "_law_spread", S "_law_walk", S "_law_places"]
noncomputable def xtK : Shared → Bool := fun s => xlAt qv [] s && recOk [] s
noncomputable def obsK : Shared → List (Option Obj) := fun s => kAddrs.map s.heap.get?
noncomputable def valK : World → List (Option Obj) := fun w => (heapK PySem.Challenge.pw_op0268_05 w.params).map fun p => some p.2
set_option maxHeartbeats 0 in
theorem leftK : LeftO PySem.Challenge.pw_op0268_05 qv looseK xtK obsK valK 6000 := by
  intro w
  unfold openEnds fencedOpening topFrom
  rw [PySem.W.Fast.te4187177175401517315, PySem.W.Fast.te5923862056798008813, PySem.W.Fast.te10274390034422433532, PySem.W.Fast.te14364793385576792824, PySem.W.Fast.te1435165496053646825, PySem.W.Fast.te14289696077712309145, PySem.W.Fast.te14082659384304107361, PySem.W.Fast.te8920871248978507458]
  kernel_rfl
theorem keysK (P : Params) : kAddrs = (heapK PySem.Challenge.pw_op0268_05 P).map (fun x => x.1) := by kernel_rfl
theorem ofK (w : World) (s : Shared) (h : obsK s = valK w) : (heapK PySem.Challenge.pw_op0268_05 w.params).In s.heap := Frag.in_of (keysK _) h
end Mine
open PySem PySem.W PySem.W.X PyProof.Rows
set_option Elab.async false
set_option maxRecDepth 1000000
set_option maxHeartbeats 0
namespace Mine
theorem head05 (walk : ∀ (w : World) (s₁ : Shared) (mg mb : Str → Option Value) (ns : List Int) (vs : List Value) (a : Addr),
    s₁.heap.Ns mainGlobals mg → s₁.heap.Ns builtinsNs mb → s₁.heap.NoLimit → (∀ x : Str, x ≠ "__name__" → mb x = bootBuiltins x) → (heapK PySem.Challenge.pw_op0268_05 w.params).In s₁.heap →
    s₁.heap.get? a = some { cls := .type "list", data := .seq vs.toArray } → IntsAre vs ns → ns.length < 2 ^ 20 → s₁.gens = #[] →
    ∀ (Q E : Value → Shared → Prop), (∀ h' tk, (∀ b o, s₁.heap.get? b = some o → h'.get? b = some o) → Q (.bool true) { s₁ with heap := h', toks := tk }) →
      wpAny (model PySem.Challenge.pw_op0268_05 w) callerA (call (.ref 372) [.ref a]) Q E s₁) : PySem.Challenge.rw_op0268_05.Holds := by
  w_on
  refine holds_law (by kernel_rfl) fun said => ?_
  refine holds_openX (q := qv) (loose := looseK) (Xt := xtK) (XP := XL qv []) (Yf := obsK) (Ya := valK) (N := 6000) leftK (fun s e => xl_of s (Bool.and_eq_true_iff.mp e).1) XL.keeps (by rfl) (by rfl) (by rfl) (fun s e => recFacts_of (Bool.and_eq_true_iff.mp e).2) (by rfl) (by assumption) (by decide +kernel) ⟨rfl, rfl, rfl, rfl, rfl, by decide +kernel⟩ ?hw ?hc
  case hw => w_witness2
  case hc =>
    intro w s₀ s₁ mg mb G y fa o pm cd doc dV kV ho hd hcd hD hmg hg args vals as L hpre hlay hrd hwl hlo
    have ZI := ofK w s₀ y
    have KX := Frag.In.keeps ZI (Laid.keeps L)
    refine Ground.open G ?_
    intro T B D TE TW
    wrow_args hpre hlay hrd hwl hlo
    x_fa T KX hmg
    all_lens
    refine walk w s₁ mg mb _ _ _ T.g T.b T.nolimit T.builtins KX (script_obj L (by assumption)) (by assumption) (by omega) hg _ _ fun h' tk keep => ?_
    refine GoodW.toG ⟨.inl ⟨_, .bool true, [], rfl, fun cls => rfl, .bool true, ?_, unshared_nil⟩, keep, rfl, hg⟩
    wrow_post
end Mine
open PySem PySem.W PyProof.Rows
set_option Elab.async false
set_option maxRecDepth 100000
namespace Mine
noncomputable abbrev PP : Program := PySem.Challenge.pw_op0268_05
structure Good (P : Params) (C : Cx) : Prop where
  K : C.K = heapK PP P
  ok : Cx.Ok C.toBx
  calm : C.calm = true
theorem Good.push {P : Params} {C : Cx} (g : Good P C) (env : Env) : Good P (C.push env) := ⟨g.K, g.ok, g.calm⟩
theorem Good.kin {P : Params} {C : Cx} (g : Good P C) : (heapK PP P).In C.h₀ := g.K ▸ g.ok.k
theorem Good.hotK {P : Params} {C : Cx} (g : Good P C) : C.hot.K = heapK PP P := g.K
noncomputable def attrT : Tab := [((205, S "node"), some 0), ((205, S "npredecessors"), some 1), ((205, S "successors"), some 2), ((302, S "_node2info"), none), ((302, S "_ready_nodes"), none), ((302, S "_npassedout"), none), ((302, S "_nfinished"), none), ((182, S "_headers"), none)]
theorem tab_ok {P : Params} {C : Cx} (g : Good P C) : tabOk C.K attrT = true := by rw [g.K]; kernel_rfl
noncomputable def patL : List Addr := [48, 53]
theorem pats_ok {P : Params} {C : Cx} (g : Good P C) : patL.all (patOk C.K) = true := by rw [g.K]; kernel_rfl
theorem len_ok {P : Params} {C : Cx} (g : Good P C) : lenIn C.K 182 90 = true := by rw [g.K]; kernel_rfl
noncomputable abbrev st_Hd_init : Stmt := (inCls (fnAt PP 7) 0)
theorem fd_Hd_init {P : Params} {C : Cx} (g : Good P C) : FdOk C 76 (fnD (inCls (fnAt PP 7) 0) (S "__init__") (S "Headers.__init__") (.ref 69) .none .none (.str (S "cpy313.wsgiref.headers") 289) (.ref 75) .none) (dBody st_Hd_init) :=
  ⟨⟨_, g.kin _ _ (by rfl), by rfl⟩, by rfl, codeRec_of g.kin (by rfl), by rfl, by rfl, by rfl, by rfl, by rfl, by rfl, by rfl⟩
noncomputable abbrev st_Hd_convert_string_type : Stmt := (inCls (fnAt PP 7) 1)
theorem fd_Hd_convert_string_type {P : Params} {C : Cx} (g : Good P C) : FdOk C 83 (fnD (inCls (fnAt PP 7) 1) (S "_convert_string_type") (S "Headers._convert_string_type") .none .none .none (.str (S "cpy313.wsgiref.headers") 289) (.ref 82) .none) (dBody st_Hd_convert_string_type) :=
  ⟨⟨_, g.kin _ _ (by rfl), by rfl⟩, by rfl, codeRec_of g.kin (by rfl), by rfl, by rfl, by rfl, by rfl, by rfl, by rfl, by rfl⟩
noncomputable abbrev st_Hd_len : Stmt := (inCls (fnAt PP 7) 2)
theorem fd_Hd_len {P : Params} {C : Cx} (g : Good P C) : FdOk C 90 (fnD (inCls (fnAt PP 7) 2) (S "__len__") (S "Headers.__len__") .none .none .none (.str (S "cpy313.wsgiref.headers") 289) (.ref 89) .none) (dBody st_Hd_len) :=
  ⟨⟨_, g.kin _ _ (by rfl), by rfl⟩, by rfl, codeRec_of g.kin (by rfl), by rfl, by rfl, by rfl, by rfl, by rfl, by rfl, by rfl⟩
noncomputable abbrev st_Hd_get_all : Stmt := (inCls (fnAt PP 7) 7)
theorem fd_Hd_get_all {P : Params} {C : Cx} (g : Good P C) : FdOk C 121 (fnD (inCls (fnAt PP 7) 7) (S "get_all") (S "Headers.get_all") .none .none .none (.str (S "cpy313.wsgiref.headers") 289) (.ref 120) .none) (dBody st_Hd_get_all) :=
  ⟨⟨_, g.kin _ _ (by rfl), by rfl⟩, by rfl, codeRec_of g.kin (by rfl), by rfl, by rfl, by rfl, by rfl, by rfl, by rfl, by rfl⟩
noncomputable abbrev st_Hd_items : Stmt := (inCls (fnAt PP 7) 11)
theorem fd_Hd_items {P : Params} {C : Cx} (g : Good P C) : FdOk C 146 (fnD (inCls (fnAt PP 7) 11) (S "items") (S "Headers.items") .none .none .none (.str (S "cpy313.wsgiref.headers") 289) (.ref 145) .none) (dBody st_Hd_items) :=
  ⟨⟨_, g.kin _ _ (by rfl), by rfl⟩, by rfl, codeRec_of g.kin (by rfl), by rfl, by rfl, by rfl, by rfl, by rfl, by rfl, by rfl⟩
noncomputable abbrev st_Hd_add_header : Stmt := (inCls (fnAt PP 7) 16)
theorem fd_Hd_add_header {P : Params} {C : Cx} (g : Good P C) : FdOk C 179 (fnD (inCls (fnAt PP 7) 16) (S "add_header") (S "Headers.add_header") .none .none .none (.str (S "cpy313.wsgiref.headers") 289) (.ref 178) .none) (dBody st_Hd_add_header) :=
  ⟨⟨_, g.kin _ _ (by rfl), by rfl⟩, by rfl, codeRec_of g.kin (by rfl), by rfl, by rfl, by rfl, by rfl, by rfl, by rfl, by rfl⟩
noncomputable abbrev st_Ni_init : Stmt := (inCls (fnAt PP 11) 1)
theorem fd_Ni_init {P : Params} {C : Cx} (g : Good P C) : FdOk C 201 (fnD (inCls (fnAt PP 11) 1) (S "__init__") (S "_NodeInfo.__init__") .none .none .none (.str (S "cpy313.graphlib") 552) (.ref 200) .none) (dBody st_Ni_init) :=
  ⟨⟨_, g.kin _ _ (by rfl), by rfl⟩, by rfl, codeRec_of g.kin (by rfl), by rfl, by rfl, by rfl, by rfl, by rfl, by rfl, by rfl⟩
noncomputable abbrev st_Ts_init : Stmt := (inCls (fnAt PP 13) 0)
theorem fd_Ts_init {P : Params} {C : Cx} (g : Good P C) : FdOk C 238 (fnD (inCls (fnAt PP 13) 0) (S "__init__") (S "TopologicalSorter.__init__") (.ref 231) .none .none (.str (S "cpy313.graphlib") 552) (.ref 237) .none) (dBody st_Ts_init) :=
  ⟨⟨_, g.kin _ _ (by rfl), by rfl⟩, by rfl, codeRec_of g.kin (by rfl), by rfl, by rfl, by rfl, by rfl, by rfl, by rfl, by rfl⟩
noncomputable abbrev st_Ts_get_nodeinfo : Stmt := (inCls (fnAt PP 13) 1)
theorem fd_Ts_get_nodeinfo {P : Params} {C : Cx} (g : Good P C) : FdOk C 245 (fnD (inCls (fnAt PP 13) 1) (S "_get_nodeinfo") (S "TopologicalSorter._get_nodeinfo") .none .none .none (.str (S "cpy313.graphlib") 552) (.ref 244) .none) (dBody st_Ts_get_nodeinfo) :=
  ⟨⟨_, g.kin _ _ (by rfl), by rfl⟩, by rfl, codeRec_of g.kin (by rfl), by rfl, by rfl, by rfl, by rfl, by rfl, by rfl, by rfl⟩
noncomputable abbrev st_Ts_add : Stmt := (inCls (fnAt PP 13) 2)
theorem fd_Ts_add {P : Params} {C : Cx} (g : Good P C) : FdOk C 252 (fnD (inCls (fnAt PP 13) 2) (S "add") (S "TopologicalSorter.add") .none .none .none (.str (S "cpy313.graphlib") 552) (.ref 251) .none) (dBody st_Ts_add) :=
  ⟨⟨_, g.kin _ _ (by rfl), by rfl⟩, by rfl, codeRec_of g.kin (by rfl), by rfl, by rfl, by rfl, by rfl, by rfl, by rfl, by rfl⟩
noncomputable abbrev st_Ts_prepare : Stmt := (inCls (fnAt PP 13) 3)
theorem fd_Ts_prepare {P : Params} {C : Cx} (g : Good P C) : FdOk C 257 (fnD (inCls (fnAt PP 13) 3) (S "prepare") (S "TopologicalSorter.prepare") .none .none .none (.str (S "cpy313.graphlib") 552) (.ref 256) .none) (dBody st_Ts_prepare) :=
  ⟨⟨_, g.kin _ _ (by rfl), by rfl⟩, by rfl, codeRec_of g.kin (by rfl), by rfl, by rfl, by rfl, by rfl, by rfl, by rfl, by rfl⟩
noncomputable abbrev st_Ts_get_ready : Stmt := (inCls (fnAt PP 13) 4)
theorem fd_Ts_get_ready {P : Params} {C : Cx} (g : Good P C) : FdOk C 264 (fnD (inCls (fnAt PP 13) 4) (S "get_ready") (S "TopologicalSorter.get_ready") .none .none .none (.str (S "cpy313.graphlib") 552) (.ref 263) .none) (dBody st_Ts_get_ready) :=
  ⟨⟨_, g.kin _ _ (by rfl), by rfl⟩, by rfl, codeRec_of g.kin (by rfl), by rfl, by rfl, by rfl, by rfl, by rfl, by rfl, by rfl⟩
noncomputable abbrev st_Ts_done : Stmt := (inCls (fnAt PP 13) 7)
theorem fd_Ts_done {P : Params} {C : Cx} (g : Good P C) : FdOk C 285 (fnD (inCls (fnAt PP 13) 7) (S "done") (S "TopologicalSorter.done") .none .none .none (.str (S "cpy313.graphlib") 552) (.ref 284) .none) (dBody st_Ts_done) :=
  ⟨⟨_, g.kin _ _ (by rfl), by rfl⟩, by rfl, codeRec_of g.kin (by rfl), by rfl, by rfl, by rfl, by rfl, by rfl, by rfl, by rfl⟩
noncomputable abbrev st_Ts_find_cycle : Stmt := (inCls (fnAt PP 13) 8)
theorem fd_Ts_find_cycle {P : Params} {C : Cx} (g : Good P C) : FdOk C 292 (fnD (inCls (fnAt PP 13) 8) (S "_find_cycle") (S "TopologicalSorter._find_cycle") .none .none .none (.str (S "cpy313.graphlib") 552) (.ref 291) .none) (dBody st_Ts_find_cycle) :=
  ⟨⟨_, g.kin _ _ (by rfl), by rfl⟩, by rfl, codeRec_of g.kin (by rfl), by rfl, by rfl, by rfl, by rfl, by rfl, by rfl, by rfl⟩
noncomputable abbrev st_heappush : Stmt := (fnAt PP 15)
theorem fd_heappush {P : Params} {C : Cx} (g : Good P C) : FdOk C 313 (fnD (fnAt PP 15) (S "heappush") (S "heappush") .none .none .none (.str (S "cpy313.heapq") 734) (.ref 312) .none) (dBody st_heappush) :=
  ⟨⟨_, g.kin _ _ (by rfl), by rfl⟩, by rfl, codeRec_of g.kin (by rfl), by rfl, by rfl, by rfl, by rfl, by rfl, by rfl, by rfl⟩
noncomputable abbrev st_heappop : Stmt := (fnAt PP 16)
theorem fd_heappop {P : Params} {C : Cx} (g : Good P C) : FdOk C 320 (fnD (fnAt PP 16) (S "heappop") (S "heappop") .none .none .none (.str (S "cpy313.heapq") 734) (.ref 319) .none) (dBody st_heappop) :=
  ⟨⟨_, g.kin _ _ (by rfl), by rfl⟩, by rfl, codeRec_of g.kin (by rfl), by rfl, by rfl, by rfl, by rfl, by rfl, by rfl, by rfl⟩
noncomputable abbrev st_siftdown : Stmt := (fnAt PP 17)
theorem fd_siftdown {P : Params} {C : Cx} (g : Good P C) : FdOk C 327 (fnD (fnAt PP 17) (S "_siftdown") (S "_siftdown") .none .none .none (.str (S "cpy313.heapq") 734) (.ref 326) .none) (dBody st_siftdown) :=
  ⟨⟨_, g.kin _ _ (by rfl), by rfl⟩, by rfl, codeRec_of g.kin (by rfl), by rfl, by rfl, by rfl, by rfl, by rfl, by rfl, by rfl⟩
noncomputable abbrev st_siftup : Stmt := (fnAt PP 18)
theorem fd_siftup {P : Params} {C : Cx} (g : Good P C) : FdOk C 334 (fnD (fnAt PP 18) (S "_siftup") (S "_siftup") .none .none .none (.str (S "cpy313.heapq") 734) (.ref 333) .none) (dBody st_siftup) :=
  ⟨⟨_, g.kin _ _ (by rfl), by rfl⟩, by rfl, codeRec_of g.kin (by rfl), by rfl, by rfl, by rfl, by rfl, by rfl, by rfl, by rfl⟩
noncomputable abbrev st_law_tree : Stmt := (fnAt PP 20)
theorem fd_law_tree {P : Params} {C : Cx} (g : Good P C) : FdOk C 341 (fnD (fnAt PP 20) (S "_law_tree") (S "_law_tree") .none .none .none (.str (S "law_op0268_05") 778) (.ref 340) .none) (dBody st_law_tree) :=
  ⟨⟨_, g.kin _ _ (by rfl), by rfl⟩, by rfl, codeRec_of g.kin (by rfl), by rfl, by rfl, by rfl, by rfl, by rfl, by rfl, by rfl⟩
noncomputable abbrev st_law_told : Stmt := (fnAt PP 21)
theorem fd_law_told {P : Params} {C : Cx} (g : Good P C) : FdOk C 348 (fnD (fnAt PP 21) (S "_law_told") (S "_law_told") .none .none .none (.str (S "law_op0268_05") 778) (.ref 347) .none) (dBody st_law_told) :=
  ⟨⟨_, g.kin _ _ (by rfl), by rfl⟩, by rfl, codeRec_of g.kin (by rfl), by rfl, by rfl, by rfl, by rfl, by rfl, by rfl, by rfl⟩
noncomputable abbrev st_law_spread : Stmt := (fnAt PP 22)
theorem fd_law_spread {P : Params} {C : Cx} (g : Good P C) : FdOk C 355 (fnD (fnAt PP 22) (S "_law_spread") (S "_law_spread") .none .none .none (.str (S "law_op0268_05") 778) (.ref 354) .none) (dBody st_law_spread) :=
  ⟨⟨_, g.kin _ _ (by rfl), by rfl⟩, by rfl, codeRec_of g.kin (by rfl), by rfl, by rfl, by rfl, by rfl, by rfl, by rfl, by rfl⟩
noncomputable abbrev st_law_walk : Stmt := (fnAt PP 23)
theorem fd_law_walk {P : Params} {C : Cx} (g : Good P C) : FdOk C 362 (fnD (fnAt PP 23) (S "_law_walk") (S "_law_walk") .none .none .none (.str (S "law_op0268_05") 778) (.ref 361) .none) (dBody st_law_walk) :=
  ⟨⟨_, g.kin _ _ (by rfl), by rfl⟩, by rfl, codeRec_of g.kin (by rfl), by rfl, by rfl, by rfl, by rfl, by rfl, by rfl, by rfl⟩
noncomputable abbrev st_law_places : Stmt := (fnAt PP 24)
theorem fd_law_places {P : Params} {C : Cx} (g : Good P C) : FdOk C 367 (fnD (fnAt PP 24) (S "_law_places") (S "_law_places") .none .none .none (.str (S "law_op0268_05") 778) (.ref 366) .none) (dBody st_law_places) :=
  ⟨⟨_, g.kin _ _ (by rfl), by rfl⟩, by rfl, codeRec_of g.kin (by rfl), by rfl, by rfl, by rfl, by rfl, by rfl, by rfl, by rfl⟩
noncomputable abbrev st_law : Stmt := (fnAt PP 25)
theorem fd_law {P : Params} {C : Cx} (g : Good P C) : FdOk C 372 (fnD (fnAt PP 25) (S "law") (S "law") .none .none .none (.str (S "law_op0268_05") 778) (.ref 371) .none) (dBody st_law) :=
  ⟨⟨_, g.kin _ _ (by rfl), by rfl⟩, by rfl, codeRec_of g.kin (by rfl), by rfl, by rfl, by rfl, by rfl, by rfl, by rfl, by rfl⟩
noncomputable def D_siftdown : { f : K Fl // ∀ P C, Good P C → Exs C 0 (scx (dScope st_siftdown)) (dBody st_siftdown) f } := by
  apply Subtype.mk
  intro P C g
  exact (Exs.cons (Ex.assign (Ev.suba (Ev.loc (by rfl) (by rfl)) (Ev.loc (by rfl) (by rfl)) (by rfl)) (Sto.loc (by rfl)) (fun u1 => rfl)) (Exs.cons (Ex.while (Te.cmpb (Ev.loc (by rfl) (by rfl)) (Ev.loc (by rfl) (by rfl)) (by rfl)) (Exs.cons (Ex.assign (Ev.bina (Ev.bina (Ev.loc (by rfl) (by rfl)) Ev.int) Ev.int) (Sto.loc (by rfl)) (fun u1 => rfl)) (Exs.cons (Ex.assign (Ev.suba (Ev.loc (by rfl) (by rfl)) (Ev.loc (by rfl) (by rfl)) (by rfl)) (Sto.loc (by rfl)) (fun u1 => rfl)) (Exs.cons (Ex.ite (Te.cmpb (Ev.loc (by rfl) (by rfl)) (Ev.loc (by rfl) (by rfl)) (by rfl)) (Exs.cons (Ex.assignSuba (Ev.loc (by rfl) (by rfl)) (Ev.loc (by rfl) (by rfl)) (Ev.loc (by rfl) (by rfl)) (fun u1 => rfl)) (Exs.cons (Ex.assign (Ev.loc (by rfl) (by rfl)) (Sto.loc (by rfl)) (fun u1 => rfl)) (Exs.cons Ex.cont Exs.nil))) Exs.nil) (Exs.cons Ex.brk Exs.nil)))) Exs.nil) (Exs.cons (Ex.assignSuba (Ev.loc (by rfl) (by rfl)) (Ev.loc (by rfl) (by rfl)) (Ev.loc (by rfl) (by rfl)) (fun u1 => rfl)) Exs.nil)))
noncomputable def F_siftdown := Fof (bP3 (S "heap") (S "startpos") (S "pos")) (dScope st_siftdown) D_siftdown.1
theorem fnk_siftdown {P : Params} {C : Cx} (g : Good P C) : FnK C 1 (.ref 327) F_siftdown :=
  FnK.ofB (fd_siftdown g) (Binds.p3 (fun u1 u2 u3 => rfl)) (fun env => D_siftdown.2 P _ (g.push env))
noncomputable def D_siftup : { f : K Fl // ∀ P C, Good P C → Exs C 1 (scx (dScope st_siftup)) (dBody st_siftup) f } := by
  apply Subtype.mk
  intro P C g
  exact (Exs.cons (Ex.assign (Ev.call (f := .builtin "len") (Ev.bkW g.K (by rfl) (by rfl) (by rfl) (by rfl) (by rfl)) Callee.builtin (Eas.cons (Ev.loc (by rfl) (by rfl)) Eas.nil (fun u1 => rfl)) (by rfl) Cal.len) (Sto.loc (by rfl)) (fun u1 => rfl)) (Exs.cons (Ex.assign (Ev.loc (by rfl) (by rfl)) (Sto.loc (by rfl)) (fun u1 => rfl)) (Exs.cons (Ex.assign (Ev.suba (Ev.loc (by rfl) (by rfl)) (Ev.loc (by rfl) (by rfl)) (by rfl)) (Sto.loc (by rfl)) (fun u1 => rfl)) (Exs.cons (Ex.assign (Ev.bina (Ev.bina Ev.int (Ev.loc (by rfl) (by rfl))) Ev.int) (Sto.loc (by rfl)) (fun u1 => rfl)) (Exs.cons (Ex.while (Te.cmpb (Ev.loc (by rfl) (by rfl)) (Ev.loc (by rfl) (by rfl)) (by rfl)) (Exs.cons (Ex.assign (Ev.bina (Ev.loc (by rfl) (by rfl)) Ev.int) (Sto.loc (by rfl)) (fun u1 => rfl)) (Exs.cons (Ex.ite (Te.all (Tes.and (Te.cmpb (Ev.loc (by rfl) (by rfl)) (Ev.loc (by rfl) (by rfl)) (by rfl)) (Tes.and (Te.not (Te.cmpb (Ev.suba (Ev.loc (by rfl) (by rfl)) (Ev.loc (by rfl) (by rfl)) (by rfl)) (Ev.suba (Ev.loc (by rfl) (by rfl)) (Ev.loc (by rfl) (by rfl)) (by rfl)) (by rfl))) Tes.and0))) (Exs.cons (Ex.assign (Ev.loc (by rfl) (by rfl)) (Sto.loc (by rfl)) (fun u1 => rfl)) Exs.nil) Exs.nil) (Exs.cons (Ex.assignSuba (Ev.suba (Ev.loc (by rfl) (by rfl)) (Ev.loc (by rfl) (by rfl)) (by rfl)) (Ev.loc (by rfl) (by rfl)) (Ev.loc (by rfl) (by rfl)) (fun u1 => rfl)) (Exs.cons (Ex.assign (Ev.loc (by rfl) (by rfl)) (Sto.loc (by rfl)) (fun u1 => rfl)) (Exs.cons (Ex.assign (Ev.bina (Ev.bina Ev.int (Ev.loc (by rfl) (by rfl))) Ev.int) (Sto.loc (by rfl)) (fun u1 => rfl)) Exs.nil))))) Exs.nil) (Exs.cons (Ex.assignSuba (Ev.loc (by rfl) (by rfl)) (Ev.loc (by rfl) (by rfl)) (Ev.loc (by rfl) (by rfl)) (fun u1 => rfl)) (Exs.cons (Ex.expr (Ev.fnCall g.K g.ok (by rfl) ((fnk_siftdown g).less (by decide)) (Ev.gkW g.K (by rfl) (by rfl) (fun u1 => VR.val _) (by rfl)) (Eas.cons (Ev.loc (by rfl) (by rfl)) (Eas.cons (Ev.loc (by rfl) (by rfl)) (Eas.cons (Ev.loc (by rfl) (by rfl)) Eas.nil (fun u1 => rfl)) (fun u1 => rfl)) (fun u1 => rfl)) (by rfl)) (fun u1 => rfl)) Exs.nil)))))))
noncomputable def F_siftup := Fof (bP2 (S "heap") (S "pos")) (dScope st_siftup) D_siftup.1
theorem fnk_siftup {P : Params} {C : Cx} (g : Good P C) : FnK C 2 (.ref 334) F_siftup :=
  FnK.ofB (fd_siftup g) (Binds.p2 (fun u1 u2 => rfl)) (fun env => D_siftup.2 P _ (g.push env))
noncomputable def D_heappush : { f : K Fl // ∀ P C, Good P C → Exs C 1 (scx (dScope st_heappush)) (dBody st_heappush) f } := by
  apply Subtype.mk
  intro P C g
  exact (Exs.cons (Ex.expr (Ev.mAppend (Ev.loc (by rfl) (by rfl)) (Eas.cons (Ev.loc (by rfl) (by rfl)) Eas.nil (fun u1 => rfl)) (by rfl) (by rfl) (by rfl) (by rfl)) (fun u1 => rfl)) (Exs.cons (Ex.expr (Ev.fnCall g.K g.ok (by rfl) ((fnk_siftdown g).less (by decide)) (Ev.gkW g.K (by rfl) (by rfl) (fun u1 => VR.val _) (by rfl)) (Eas.cons (Ev.loc (by rfl) (by rfl)) (Eas.cons Ev.int (Eas.cons (Ev.bina (Ev.call (f := .builtin "len") (Ev.bkW g.K (by rfl) (by rfl) (by rfl) (by rfl) (by rfl)) Callee.builtin (Eas.cons (Ev.loc (by rfl) (by rfl)) Eas.nil (fun u1 => rfl)) (by rfl) Cal.len) Ev.int) Eas.nil (fun u1 => rfl)) (fun u1 => rfl)) (fun u1 => rfl)) (by rfl)) (fun u1 => rfl)) Exs.nil))
noncomputable def F_heappush := Fof (bP2 (S "heap") (S "item")) (dScope st_heappush) D_heappush.1
theorem fnk_heappush {P : Params} {C : Cx} (g : Good P C) : FnK C 2 (.ref 313) F_heappush :=
  FnK.ofB (fd_heappush g) (Binds.p2 (fun u1 u2 => rfl)) (fun env => D_heappush.2 P _ (g.push env))
noncomputable def D_heappop : { f : K Fl // ∀ P C, Good P C → Exs C 2 (scx (dScope st_heappop)) (dBody st_heappop) f } := by
  apply Subtype.mk
  intro P C g
  exact (Exs.cons (Ex.assign (Ev.mPop (Ev.loc (by rfl) (by rfl)) Eas.nil (by rfl) (by rfl) (by rfl) (by rfl)) (Sto.loc (by rfl)) (fun u1 => rfl)) (Exs.cons (Ex.ite (Te.val (Ev.loc (by rfl) (by rfl)) (fun u1 u2 => rfl)) (Exs.cons (Ex.assign (Ev.suba (Ev.loc (by rfl) (by rfl)) Ev.int (by rfl)) (Sto.loc (by rfl)) (fun u1 => rfl)) (Exs.cons (Ex.assignSuba (Ev.loc (by rfl) (by rfl)) (Ev.loc (by rfl) (by rfl)) Ev.int (fun u1 => rfl)) (Exs.cons (Ex.expr (Ev.fnCall g.K g.ok (by rfl) ((fnk_siftup g).less (by decide)) (Ev.gkW g.K (by rfl) (by rfl) (fun u1 => VR.val _) (by rfl)) (Eas.cons (Ev.loc (by rfl) (by rfl)) (Eas.cons Ev.int Eas.nil (fun u1 => rfl)) (fun u1 => rfl)) (by rfl)) (fun u1 => rfl)) (Exs.cons (Ex.ret (Ev.loc (by rfl) (by rfl))) Exs.nil)))) Exs.nil) (Exs.cons (Ex.ret (Ev.loc (by rfl) (by rfl))) Exs.nil)))
noncomputable def F_heappop := Fof (bP1 (S "heap")) (dScope st_heappop) D_heappop.1
theorem fnk_heappop {P : Params} {C : Cx} (g : Good P C) : FnK C 3 (.ref 320) F_heappop :=
  FnK.ofB (fd_heappop g) (Binds.p1 (fun u1 => rfl)) (fun env => D_heappop.2 P _ (g.push env))
noncomputable def D_Ni_init : { f : K Fl // ∀ P C, Good P C → Exs C 0 (scx (dScope st_Ni_init)) (dBody st_Ni_init) f } := by
  apply Subtype.mk
  intro P C g
  exact (Exs.cons (Ex.assign1 (Ev.loc (by rfl) (by rfl)) (As.attr (tab_ok g) (Ev.loc (by rfl) (by rfl))) (fun u1 => rfl) (fun u1 => rfl) (fun u1 => rfl)) (Exs.cons (Ex.assign1 Ev.int (As.attr (tab_ok g) (Ev.loc (by rfl) (by rfl))) (fun u1 => rfl) (fun u1 => rfl) (fun u1 => rfl)) (Exs.cons (Ex.assign1 (Ev.list Eas.nil) (As.attr (tab_ok g) (Ev.loc (by rfl) (by rfl))) (fun u1 => rfl) (fun u1 => rfl) (fun u1 => rfl)) Exs.nil)))
noncomputable def F_Ni_init := Fof (bP2 (S "self") (S "node")) (dScope st_Ni_init) D_Ni_init.1
theorem fnk_Ni_init {P : Params} {C : Cx} (g : Good P C) : FnK C 1 (.ref 201) F_Ni_init :=
  FnK.ofB (fd_Ni_init g) (Binds.p2 (fun u1 u2 => rfl)) (fun env => D_Ni_init.2 P _ (g.push env))
noncomputable def F_Ni := makeS 205 F_Ni_init
theorem fnk_Ni {P : Params} {C : Cx} (g : Good P C) : FnK C 2 (.ref 205) F_Ni := FnK.clsSW g.K (by rfl) (by rfl) (by rfl) (fnk_Ni_init g)
noncomputable def D_Ts_init : { f : K Fl // ∀ P C, Good P C → Exs C 0 (scx (dScope st_Ts_init)) (dBody st_Ts_init) f } := by
  apply Subtype.mk
  intro P C g
  exact (Exs.cons (Ex.assign1 Ev.dict0 (As.attr (tab_ok g) (Ev.loc (by rfl) (by rfl))) (fun u1 => rfl) (fun u1 => rfl) (fun u1 => rfl)) (Exs.cons (Ex.assign1 Ev.noneC (As.attr (tab_ok g) (Ev.loc (by rfl) (by rfl))) (fun u1 => rfl) (fun u1 => rfl) (fun u1 => rfl)) (Exs.cons (Ex.assign1 Ev.int (As.attr (tab_ok g) (Ev.loc (by rfl) (by rfl))) (fun u1 => rfl) (fun u1 => rfl) (fun u1 => rfl)) (Exs.cons (Ex.assign1 Ev.int (As.attr (tab_ok g) (Ev.loc (by rfl) (by rfl))) (fun u1 => rfl) (fun u1 => rfl) (fun u1 => rfl)) (Exs.cons (Ex.ite (Te.cmpb (Ev.loc (by rfl) (by rfl)) Ev.noneC (by rfl)) (Exs.cons Ex.failFor Exs.nil) Exs.nil) Exs.nil)))))
noncomputable def F_Ts_init := Fof (bD1 (S "self") (S "graph")) (dScope st_Ts_init) D_Ts_init.1
theorem fnk_Ts_init {P : Params} {C : Cx} (g : Good P C) : FnK C 1 (.ref 238) F_Ts_init :=
  FnK.ofB (fd_Ts_init g) (Binds.d1W g.K (by rfl) (by rfl) (by rfl) (fun u1 => rfl) (fun u1 => rfl)) (fun env => D_Ts_init.2 P _ (g.push env))
noncomputable def F_Ts := makeF 302 F_Ts_init
theorem fnk_Ts {P : Params} {C : Cx} (g : Good P C) : FnK C 2 (.ref 302) F_Ts := FnK.clsW g.K (by rfl) (by rfl) (by rfl) (fnk_Ts_init g)
noncomputable def D_Ts_get_nodeinfo : { f : K Fl // ∀ P C, Good P C → Exs C 2 (scx (dScope st_Ts_get_nodeinfo)) (dBody st_Ts_get_nodeinfo) f } := by
  apply Subtype.mk
  intro P C g
  exact (Exs.cons (Ex.ite (Te.cmpb (Ev.walrus (Ev.mDget (Ev.attr (tab_ok g) (Ev.loc (by rfl) (by rfl)) (by rfl)) (Eas.cons (Ev.loc (by rfl) (by rfl)) Eas.nil (fun u1 => rfl)) (by rfl) (by rfl) (by rfl) (by rfl)) (As.name (Sto.loc (by rfl)))) Ev.noneC (by rfl)) (Exs.cons (Ex.assign2 (Ev.fnCall g.K g.ok (by rfl) ((fnk_Ni g).less (by decide)) (Ev.gkW g.K (by rfl) (by rfl) (fun u1 => VR.val _) (by rfl)) (Eas.cons (Ev.loc (by rfl) (by rfl)) Eas.nil (fun u1 => rfl)) (by rfl)) (As.suba (Ev.attr (tab_ok g) (Ev.loc (by rfl) (by rfl)) (by rfl)) (Ev.loc (by rfl) (by rfl))) (As.name (Sto.loc (by rfl))) (fun u1 => rfl) (fun u1 => rfl)) Exs.nil) Exs.nil) (Exs.cons (Ex.ret (Ev.loc (by rfl) (by rfl))) Exs.nil))
noncomputable def F_Ts_get_nodeinfo := Fof (bP2 (S "self") (S "node")) (dScope st_Ts_get_nodeinfo) D_Ts_get_nodeinfo.1
theorem fnk_Ts_get_nodeinfo {P : Params} {C : Cx} (g : Good P C) : FnK C 3 (.ref 245) F_Ts_get_nodeinfo :=
  FnK.ofB (fd_Ts_get_nodeinfo g) (Binds.p2 (fun u1 u2 => rfl)) (fun env => D_Ts_get_nodeinfo.2 P _ (g.push env))
noncomputable def D_Ts_add : { f : K Fl // ∀ P C, Good P C → Exs C 3 (scx (dScope st_Ts_add)) (dBody st_Ts_add) f } := by
  apply Subtype.mk
  intro P C g
  exact (Exs.cons (Ex.ite (Te.cmpb (Ev.attr (tab_ok g) (Ev.loc (by rfl) (by rfl)) (by rfl)) Ev.noneC (by rfl)) (Exs.cons Ex.failRaise Exs.nil) Exs.nil) (Exs.cons (Ex.assign (Ev.mOwn (Cl := 302) g.K g.ok (by rfl) (by rfl) ((fnk_Ts_get_nodeinfo g).less (by decide)) (Ev.loc (by rfl) (by rfl)) (Eas.cons (Ev.loc (by rfl) (by rfl)) Eas.nil (fun u1 => rfl)) (by rfl) (by rfl) (by rfl) (by rfl)) (Sto.loc (by rfl)) (fun u1 => rfl)) (Exs.cons (Ex.augAttr (tab_ok g) (Ev.loc (by rfl) (by rfl)) (Ev.call (f := .builtin "len") (Ev.bkW g.K (by rfl) (by rfl) (by rfl) (by rfl) (by rfl)) Callee.builtin (Eas.cons (Ev.loc (by rfl) (by rfl)) Eas.nil (fun u1 => rfl)) (by rfl) Cal.len)) (Exs.cons (Ex.for (Itb.val (Ev.loc (by rfl) (by rfl))) (As.name (Sto.loc (by rfl))) (Exs.cons (Ex.assign (Ev.mOwn (Cl := 302) g.K g.ok (by rfl) (by rfl) ((fnk_Ts_get_nodeinfo g).less (by decide)) (Ev.loc (by rfl) (by rfl)) (Eas.cons (Ev.loc (by rfl) (by rfl)) Eas.nil (fun u1 => rfl)) (by rfl) (by rfl) (by rfl) (by rfl)) (Sto.loc (by rfl)) (fun u1 => rfl)) (Exs.cons (Ex.expr (Ev.mAppend (Ev.attr (tab_ok g) (Ev.loc (by rfl) (by rfl)) (by rfl)) (Eas.cons (Ev.loc (by rfl) (by rfl)) Eas.nil (fun u1 => rfl)) (by rfl) (by rfl) (by rfl) (by rfl)) (fun u1 => rfl)) Exs.nil)) Exs.nil (fun u1 u2 => rfl) g.calm) Exs.nil))))
noncomputable def F_Ts_add := Fof (bV2 (S "self") (S "node") (S "predecessors")) (dScope st_Ts_add) D_Ts_add.1
theorem fnk_Ts_add {P : Params} {C : Cx} (g : Good P C) : FnK C 4 (.ref 252) F_Ts_add :=
  FnK.ofB (fd_Ts_add g) (Binds.v2 (fun u1 u2 r => by cases r <;> rfl)) (fun env => D_Ts_add.2 P _ (g.push env))
noncomputable def D_Ts_find_cycle : { f : K Fl // ∀ P C, Good P C → Exs C 0 (scx (dScope st_Ts_find_cycle)) (dBody st_Ts_find_cycle) f } := by
  apply Subtype.mk
  intro P C g
  exact (Exs.cons (Ex.assign (Ev.attr (tab_ok g) (Ev.loc (by rfl) (by rfl)) (by rfl)) (Sto.loc (by rfl)) (fun u1 => rfl)) (Exs.cons (Ex.assign (Ev.list Eas.nil) (Sto.loc (by rfl)) (fun u1 => rfl)) (Exs.cons (Ex.assign (Ev.list Eas.nil) (Sto.loc (by rfl)) (fun u1 => rfl)) (Exs.cons (Ex.assign (Ev.call (f := .type "set") (Ev.bkW g.K (by rfl) (by rfl) (by rfl) (by rfl) (by rfl)) Callee.type Eas.nil (by rfl) Cal.set) (Sto.loc (by rfl)) (fun u1 => rfl)) (Exs.cons (Ex.assign Ev.dict0 (Sto.loc (by rfl)) (fun u1 => rfl)) (Exs.cons (Ex.for (Itb.val (Ev.loc (by rfl) (by rfl))) (As.name (Sto.loc (by rfl))) (Exs.cons (Ex.ite (Te.cmpb (Ev.loc (by rfl) (by rfl)) (Ev.loc (by rfl) (by rfl)) (by rfl)) (Exs.cons Ex.cont Exs.nil) Exs.nil) (Exs.cons (Ex.while (Te.val Ev.boolC (fun u1 u2 => rfl)) (Exs.cons (Ex.ite (Te.cmpb (Ev.loc (by rfl) (by rfl)) (Ev.loc (by rfl) (by rfl)) (by rfl)) (Exs.cons (Ex.ite (Te.cmpb (Ev.loc (by rfl) (by rfl)) (Ev.loc (by rfl) (by rfl)) (by rfl)) (Exs.cons (Ex.ret (Ev.bina (Ev.slice (Ev.loc (by rfl) (by rfl)) (Pt.some (Ev.suba (Ev.loc (by rfl) (by rfl)) (Ev.loc (by rfl) (by rfl)) (by rfl))) Pt.none Pt.none) (Ev.list (Eas.cons (Ev.loc (by rfl) (by rfl)) Eas.nil (fun u1 => rfl))))) Exs.nil) Exs.nil) Exs.nil) (Exs.cons (Ex.expr (Ev.mSadd (Ev.loc (by rfl) (by rfl)) (Eas.cons (Ev.loc (by rfl) (by rfl)) Eas.nil (fun u1 => rfl)) (by rfl) (by rfl) (by rfl) (by rfl)) (fun u1 => rfl)) (Exs.cons (Ex.expr (Ev.mAppend (Ev.loc (by rfl) (by rfl)) (Eas.cons (Ev.nextAttr (Ev.call (f := .builtin "iter") (Ev.bkW g.K (by rfl) (by rfl) (by rfl) (by rfl) (by rfl)) Callee.builtin (Eas.cons (Ev.attr (tab_ok g) (Ev.suba (Ev.loc (by rfl) (by rfl)) (Ev.loc (by rfl) (by rfl)) (by rfl)) (by rfl)) Eas.nil (fun u1 => rfl)) (by rfl) Cal.iter) (by rfl)) Eas.nil (fun u1 => rfl)) (by rfl) (by rfl) (by rfl) (by rfl)) (fun u1 => rfl)) (Exs.cons (Ex.assignSuba (Ev.call (f := .builtin "len") (Ev.bkW g.K (by rfl) (by rfl) (by rfl) (by rfl) (by rfl)) Callee.builtin (Eas.cons (Ev.loc (by rfl) (by rfl)) Eas.nil (fun u1 => rfl)) (by rfl) Cal.len) (Ev.loc (by rfl) (by rfl)) (Ev.loc (by rfl) (by rfl)) (fun u1 => rfl)) (Exs.cons (Ex.expr (Ev.mAppend (Ev.loc (by rfl) (by rfl)) (Eas.cons (Ev.loc (by rfl) (by rfl)) Eas.nil (fun u1 => rfl)) (by rfl) (by rfl) (by rfl) (by rfl)) (fun u1 => rfl)) Exs.nil))))) (Exs.cons (Ex.while (Te.val (Ev.loc (by rfl) (by rfl)) (fun u1 u2 => rfl)) (Exs.cons (Ex.tryNextW g.calm g.K (by rfl) (Nx.call (Ev.suba (Ev.loc (by rfl) (by rfl)) (Ev.neg Ev.int) (by rfl))) (by rfl) (fun u1 => rfl) (Exs.cons (Ex.delSub (Ev.loc (by rfl) (by rfl)) (Ev.mPop (Ev.loc (by rfl) (by rfl)) Eas.nil (by rfl) (by rfl) (by rfl) (by rfl))) (Exs.cons (Ex.expr (Ev.mPop (Ev.loc (by rfl) (by rfl)) Eas.nil (by rfl) (by rfl) (by rfl) (by rfl)) (fun u1 => rfl)) Exs.nil)) (by rfl) (by rfl)) Exs.nil) (Exs.cons Ex.brk Exs.nil)) Exs.nil)) Exs.nil) Exs.nil)) Exs.nil (fun u1 u2 => rfl) g.calm) (Exs.cons (Ex.ret Ev.noneC) Exs.nil)))))))
noncomputable def F_Ts_find_cycle := Fof (bP1 (S "self")) (dScope st_Ts_find_cycle) D_Ts_find_cycle.1
theorem fnk_Ts_find_cycle {P : Params} {C : Cx} (g : Good P C) : FnK C 1 (.ref 292) F_Ts_find_cycle :=
  FnK.ofB (fd_Ts_find_cycle g) (Binds.p1 (fun u1 => rfl)) (fun env => D_Ts_find_cycle.2 P _ (g.push env))
noncomputable def D_Ts_prepare : { f : K Fl // ∀ P C, Good P C → Exs C 1 (scx (dScope st_Ts_prepare)) (dBody st_Ts_prepare) f } := by
  apply Subtype.mk
  intro P C g
  exact (Exs.cons (Ex.ite (Te.cmpb (Ev.attr (tab_ok g) (Ev.loc (by rfl) (by rfl)) (by rfl)) Ev.noneC (by rfl)) (Exs.cons Ex.failRaise Exs.nil) Exs.nil) (Exs.cons (Ex.assign1 (Ev.comp (Itb.values (Ev.attr (tab_ok g) (Ev.loc (by rfl) (by rfl)) (by rfl)) (by rfl) (by rfl)) (Lp.last g.calm (by rfl) (by rfl) (As.name (Sto.loc (by rfl))) (Ifs.cons (Te.cmpb (Ev.attr (tab_ok g) (Ev.loc (by rfl) (by rfl)) (by rfl)) Ev.int (by rfl)) Ifs.nil) (Ev.attr (tab_ok g) (Ev.loc (by rfl) (by rfl)) (by rfl))) (by rfl) (fun u1 u2 => rfl)) (As.attr (tab_ok g) (Ev.loc (by rfl) (by rfl))) (fun u1 => rfl) (fun u1 => rfl) (fun u1 => rfl)) (Exs.cons (Ex.assign (Ev.mOwn (Cl := 302) g.K g.ok (by rfl) (by rfl) ((fnk_Ts_find_cycle g).less (by decide)) (Ev.loc (by rfl) (by rfl)) Eas.nil (by rfl) (by rfl) (by rfl) (by rfl)) (Sto.loc (by rfl)) (fun u1 => rfl)) (Exs.cons (Ex.ite (Te.val (Ev.loc (by rfl) (by rfl)) (fun u1 u2 => rfl)) (Exs.cons Ex.failRaise Exs.nil) Exs.nil) Exs.nil))))
noncomputable def F_Ts_prepare := Fof (bP1 (S "self")) (dScope st_Ts_prepare) D_Ts_prepare.1
theorem fnk_Ts_prepare {P : Params} {C : Cx} (g : Good P C) : FnK C 2 (.ref 257) F_Ts_prepare :=
  FnK.ofB (fd_Ts_prepare g) (Binds.p1 (fun u1 => rfl)) (fun env => D_Ts_prepare.2 P _ (g.push env))
noncomputable def D_Ts_get_ready : { f : K Fl // ∀ P C, Good P C → Exs C 0 (scx (dScope st_Ts_get_ready)) (dBody st_Ts_get_ready) f } := by
  apply Subtype.mk
  intro P C g
  exact (Exs.cons (Ex.ite (Te.cmpb (Ev.attr (tab_ok g) (Ev.loc (by rfl) (by rfl)) (by rfl)) Ev.noneC (by rfl)) (Exs.cons Ex.failRaise Exs.nil) Exs.nil) (Exs.cons (Ex.assign (Ev.call (f := .type "tuple") (Ev.bkW g.K (by rfl) (by rfl) (by rfl) (by rfl) (by rfl)) Callee.type (Eas.cons (Ev.attr (tab_ok g) (Ev.loc (by rfl) (by rfl)) (by rfl)) Eas.nil (fun u1 => rfl)) (by rfl) Cal.tuple) (Sto.loc (by rfl)) (fun u1 => rfl)) (Exs.cons (Ex.assign (Ev.attr (tab_ok g) (Ev.loc (by rfl) (by rfl)) (by rfl)) (Sto.loc (by rfl)) (fun u1 => rfl)) (Exs.cons (Ex.for (Itb.val (Ev.loc (by rfl) (by rfl))) (As.name (Sto.loc (by rfl))) (Exs.cons (Ex.assign1 (Ev.gkW g.K (by rfl) (by rfl) (fun u1 => VR.int _ _) (by rfl)) (As.attr (tab_ok g) (Ev.suba (Ev.loc (by rfl) (by rfl)) (Ev.loc (by rfl) (by rfl)) (by rfl))) (fun u1 => rfl) (fun u1 => rfl) (fun u1 => rfl)) Exs.nil) Exs.nil (fun u1 u2 => rfl) g.calm) (Exs.cons (Ex.expr (Ev.mClear (Ev.attr (tab_ok g) (Ev.loc (by rfl) (by rfl)) (by rfl)) Eas.nil (by rfl) (by rfl) (by rfl) (by rfl)) (fun u1 => rfl)) (Exs.cons (Ex.augAttr (tab_ok g) (Ev.loc (by rfl) (by rfl)) (Ev.call (f := .builtin "len") (Ev.bkW g.K (by rfl) (by rfl) (by rfl) (by rfl) (by rfl)) Callee.builtin (Eas.cons (Ev.loc (by rfl) (by rfl)) Eas.nil (fun u1 => rfl)) (by rfl) Cal.len)) (Exs.cons (Ex.ret (Ev.loc (by rfl) (by rfl))) Exs.nil)))))))
noncomputable def F_Ts_get_ready := Fof (bP1 (S "self")) (dScope st_Ts_get_ready) D_Ts_get_ready.1
theorem fnk_Ts_get_ready {P : Params} {C : Cx} (g : Good P C) : FnK C 1 (.ref 264) F_Ts_get_ready :=
  FnK.ofB (fd_Ts_get_ready g) (Binds.p1 (fun u1 => rfl)) (fun env => D_Ts_get_ready.2 P _ (g.push env))
noncomputable def D_Ts_done : { f : K Fl // ∀ P C, Good P C → Exs C 0 (scx (dScope st_Ts_done)) (dBody st_Ts_done) f } := by
  apply Subtype.mk
  intro P C g
  exact (Exs.cons (Ex.ite (Te.cmpb (Ev.attr (tab_ok g) (Ev.loc (by rfl) (by rfl)) (by rfl)) Ev.noneC (by rfl)) (Exs.cons Ex.failRaise Exs.nil) Exs.nil) (Exs.cons (Ex.assign (Ev.attr (tab_ok g) (Ev.loc (by rfl) (by rfl)) (by rfl)) (Sto.loc (by rfl)) (fun u1 => rfl)) (Exs.cons (Ex.for (Itb.val (Ev.loc (by rfl) (by rfl))) (As.name (Sto.loc (by rfl))) (Exs.cons (Ex.ite (Te.cmpb (Ev.walrus (Ev.mDget (Ev.loc (by rfl) (by rfl)) (Eas.cons (Ev.loc (by rfl) (by rfl)) Eas.nil (fun u1 => rfl)) (by rfl) (by rfl) (by rfl) (by rfl)) (As.name (Sto.loc (by rfl)))) Ev.noneC (by rfl)) (Exs.cons Ex.failRaise Exs.nil) Exs.nil) (Exs.cons (Ex.assign (Ev.attr (tab_ok g) (Ev.loc (by rfl) (by rfl)) (by rfl)) (Sto.loc (by rfl)) (fun u1 => rfl)) (Exs.cons (Ex.ite (Te.cmpb (Ev.loc (by rfl) (by rfl)) (Ev.gkW g.K (by rfl) (by rfl) (fun u1 => VR.int _ _) (by rfl)) (by rfl)) (Exs.cons (Ex.ite (Te.cmpb (Ev.loc (by rfl) (by rfl)) Ev.int (by rfl)) (Exs.cons Ex.failRaise Exs.nil) (Exs.cons (Ex.ite (Te.cmpb (Ev.loc (by rfl) (by rfl)) (Ev.gkW g.K (by rfl) (by rfl) (fun u1 => VR.int _ _) (by rfl)) (by rfl)) (Exs.cons Ex.failRaise Exs.nil) (Exs.cons Ex.failAssert Exs.nil)) Exs.nil)) Exs.nil) Exs.nil) (Exs.cons (Ex.assign1 (Ev.gkW g.K (by rfl) (by rfl) (fun u1 => VR.int _ _) (by rfl)) (As.attr (tab_ok g) (Ev.loc (by rfl) (by rfl))) (fun u1 => rfl) (fun u1 => rfl) (fun u1 => rfl)) (Exs.cons (Ex.for (Itb.val (Ev.attr (tab_ok g) (Ev.loc (by rfl) (by rfl)) (by rfl))) (As.name (Sto.loc (by rfl))) (Exs.cons (Ex.assign (Ev.suba (Ev.loc (by rfl) (by rfl)) (Ev.loc (by rfl) (by rfl)) (by rfl)) (Sto.loc (by rfl)) (fun u1 => rfl)) (Exs.cons (Ex.augAttr (tab_ok g) (Ev.loc (by rfl) (by rfl)) Ev.int) (Exs.cons (Ex.ite (Te.cmpb (Ev.attr (tab_ok g) (Ev.loc (by rfl) (by rfl)) (by rfl)) Ev.int (by rfl)) (Exs.cons (Ex.expr (Ev.mAppend (Ev.attr (tab_ok g) (Ev.loc (by rfl) (by rfl)) (by rfl)) (Eas.cons (Ev.loc (by rfl) (by rfl)) Eas.nil (fun u1 => rfl)) (by rfl) (by rfl) (by rfl) (by rfl)) (fun u1 => rfl)) Exs.nil) Exs.nil) Exs.nil))) Exs.nil (fun u1 u2 => rfl) g.calm) (Exs.cons (Ex.augAttr (tab_ok g) (Ev.loc (by rfl) (by rfl)) Ev.int) Exs.nil)))))) Exs.nil (fun u1 u2 => rfl) g.calm) Exs.nil)))
noncomputable def F_Ts_done := Fof (bV1 (S "self") (S "nodes")) (dScope st_Ts_done) D_Ts_done.1
theorem fnk_Ts_done {P : Params} {C : Cx} (g : Good P C) : FnK C 1 (.ref 285) F_Ts_done :=
  FnK.ofB (fd_Ts_done g) (Binds.v1 (fun u1 r => by cases r <;> rfl)) (fun env => D_Ts_done.2 P _ (g.push env))
noncomputable def D_Hd_convert_string_type : { f : K Fl // ∀ P C, Good P C → Exs C 0 (scx (dScope st_Hd_convert_string_type)) (dBody st_Hd_convert_string_type) f } := by
  apply Subtype.mk
  intro P C g
  exact (Exs.cons (Ex.ite (Te.cmpb (Ev.call (f := .type "type") (Ev.bkW g.K (by rfl) (by rfl) (by rfl) (by rfl) (by rfl)) Callee.type (Eas.cons (Ev.loc (by rfl) (by rfl)) Eas.nil (fun u1 => rfl)) (by rfl) Cal.typ) (Ev.bkW g.K (by rfl) (by rfl) (by rfl) (by rfl) (by rfl)) (by rfl)) (Exs.cons (Ex.assign (Ev.ifx (Te.val (Ev.loc (by rfl) (by rfl)) (fun u1 u2 => rfl)) (Ev.gkW g.K (by rfl) (by rfl) (fun u1 => VR.val _) (by rfl)) (Ev.gkW g.K (by rfl) (by rfl) (fun u1 => VR.val _) (by rfl))) (Sto.loc (by rfl)) (fun u1 => rfl)) (Exs.cons (Ex.ite (Te.val (Ev.mSearch (pats_ok g) (Ev.loc (by rfl) (by rfl)) (Eas.cons (Ev.loc (by rfl) (by rfl)) Eas.nil (fun u1 => rfl)) (by rfl) (by rfl) (by rfl) (by rfl)) (fun u1 u2 => rfl)) (Exs.cons Ex.failRaise Exs.nil) Exs.nil) (Exs.cons (Ex.ret (Ev.loc (by rfl) (by rfl))) Exs.nil))) Exs.nil) (Exs.cons Ex.failRaise Exs.nil))
noncomputable def F_Hd_convert_string_type := Fof (bP2k1 (S "self") (S "value") (S "name")) (dScope st_Hd_convert_string_type) D_Hd_convert_string_type.1
theorem fnk_Hd_convert_string_type {P : Params} {C : Cx} (g : Good P C) : FnK C 1 (.ref 83) F_Hd_convert_string_type :=
  FnK.ofB (fd_Hd_convert_string_type g) (Binds.p2k1 (fun u1 u2 u3 => rfl)) (fun env => D_Hd_convert_string_type.2 P _ (g.push env))
noncomputable def D_Hd_init : { f : K Fl // ∀ P C, Good P C → Exs C 1 (scx (dScope st_Hd_init)) (dBody st_Hd_init) f } := by
  apply Subtype.mk
  intro P C g
  exact (Exs.cons (Ex.assign (Ev.ifx (Te.cmpb (Ev.loc (by rfl) (by rfl)) Ev.noneC (by rfl)) (Ev.loc (by rfl) (by rfl)) (Ev.list Eas.nil)) (Sto.loc (by rfl)) (fun u1 => rfl)) (Exs.cons (Ex.ite (Te.cmpb (Ev.call (f := .type "type") (Ev.bkW g.K (by rfl) (by rfl) (by rfl) (by rfl) (by rfl)) Callee.type (Eas.cons (Ev.loc (by rfl) (by rfl)) Eas.nil (fun u1 => rfl)) (by rfl) Cal.typ) (Ev.bkW g.K (by rfl) (by rfl) (by rfl) (by rfl) (by rfl)) (by rfl)) (Exs.cons Ex.failRaise Exs.nil) Exs.nil) (Exs.cons (Ex.assign1 (Ev.loc (by rfl) (by rfl)) (As.attr (tab_ok g) (Ev.loc (by rfl) (by rfl))) (fun u1 => rfl) (fun u1 => rfl) (fun u1 => rfl)) (Exs.cons (Ex.ite (Te.val Ev.boolC (fun u1 u2 => rfl)) (Exs.cons (Ex.for (Itb.val (Ev.loc (by rfl) (by rfl))) (As.tuple (Ass.cons (As.name (Sto.loc (by rfl))) (Ass.cons (As.name (Sto.loc (by rfl))) Ass.nil (fun u1 => rfl)) (fun u1 => rfl)) g.calm) (Exs.cons (Ex.expr (Ev.mOwnK (Cl := 182) g.K g.ok (by rfl) (by rfl) ((fnk_Hd_convert_string_type g).less (by decide)) (Ev.loc (by rfl) (by rfl)) (Ear.kw (Eas.cons (Ev.loc (by rfl) (by rfl)) Eas.nil (fun u1 => rfl)) (Kws.cons Ev.boolC Kws.nil) (by rfl)) (by rfl) (by rfl) (by rfl) (by rfl) (by rfl)) (fun u1 => rfl)) (Exs.cons (Ex.expr (Ev.mOwnK (Cl := 182) g.K g.ok (by rfl) (by rfl) ((fnk_Hd_convert_string_type g).less (by decide)) (Ev.loc (by rfl) (by rfl)) (Ear.kw (Eas.cons (Ev.loc (by rfl) (by rfl)) Eas.nil (fun u1 => rfl)) (Kws.cons Ev.boolC Kws.nil) (by rfl)) (by rfl) (by rfl) (by rfl) (by rfl) (by rfl)) (fun u1 => rfl)) Exs.nil)) Exs.nil (fun u1 u2 => rfl) g.calm) Exs.nil) Exs.nil) Exs.nil))))
noncomputable def F_Hd_init := Fof (bD1 (S "self") (S "headers")) (dScope st_Hd_init) D_Hd_init.1
theorem fnk_Hd_init {P : Params} {C : Cx} (g : Good P C) : FnK C 2 (.ref 76) F_Hd_init :=
  FnK.ofB (fd_Hd_init g) (Binds.d1W g.K (by rfl) (by rfl) (by rfl) (fun u1 => rfl) (fun u1 => rfl)) (fun env => D_Hd_init.2 P _ (g.push env))
noncomputable def F_Hd := makeF 182 F_Hd_init
theorem fnk_Hd {P : Params} {C : Cx} (g : Good P C) : FnK C 3 (.ref 182) F_Hd := FnK.clsW g.K (by rfl) (by rfl) (by rfl) (fnk_Hd_init g)
noncomputable def D_Hd_len : { f : K Fl // ∀ P C, Good P C → Exs C 0 (scx (dScope st_Hd_len)) (dBody st_Hd_len) f } := by
  apply Subtype.mk
  intro P C g
  exact (Exs.cons (Ex.ret (Ev.call (f := .builtin "len") (Ev.bkW g.K (by rfl) (by rfl) (by rfl) (by rfl) (by rfl)) Callee.builtin (Eas.cons (Ev.attr (tab_ok g) (Ev.loc (by rfl) (by rfl)) (by rfl)) Eas.nil (fun u1 => rfl)) (by rfl) Cal.len)) Exs.nil)
noncomputable def F_Hd_len := Fof (bP1 (S "self")) (dScope st_Hd_len) D_Hd_len.1
theorem fnk_Hd_len {P : Params} {C : Cx} (g : Good P C) : FnK C 1 (.ref 90) F_Hd_len :=
  FnK.ofB (fd_Hd_len g) (Binds.p1 (fun u1 => rfl)) (fun env => D_Hd_len.2 P _ (g.push env))
noncomputable def D_Hd_get_all : { f : K Fl // ∀ P C, Good P C → Exs C 1 (scx (dScope st_Hd_get_all)) (dBody st_Hd_get_all) f } := by
  apply Subtype.mk
  intro P C g
  exact (Exs.cons (Ex.assign (Ev.mOwnK (Cl := 182) g.K g.ok (by rfl) (by rfl) ((fnk_Hd_convert_string_type g).less (by decide)) (Ev.loc (by rfl) (by rfl)) (Ear.kw (Eas.cons (Ev.mLower (Ev.cell (by rfl) (by rfl)) Eas.nil (by rfl) (by rfl) (by rfl) (by rfl)) Eas.nil (fun u1 => rfl)) (Kws.cons Ev.boolC Kws.nil) (by rfl)) (by rfl) (by rfl) (by rfl) (by rfl) (by rfl)) (Sto.cell (by rfl) (by decide)) (fun u1 => rfl)) (Exs.cons (Ex.ret (Ev.comp (Itb.val (Ev.attr (tab_ok g) (Ev.loc (by rfl) (by rfl)) (by rfl))) (Lp.last g.calm (by rfl) (by rfl) (As.name (Sto.loc (by rfl))) (Ifs.cons (Te.cmpb (Ev.mLower (Ev.suba (Ev.loc (by rfl) (by rfl)) Ev.int (by rfl)) Eas.nil (by rfl) (by rfl) (by rfl) (by rfl)) (Ev.cell (by rfl) (by rfl)) (by rfl)) Ifs.nil) (Ev.suba (Ev.loc (by rfl) (by rfl)) Ev.int (by rfl))) (by rfl) (fun u1 u2 => rfl))) Exs.nil))
noncomputable def F_Hd_get_all := Fof (bP2 (S "self") (S "name")) (dScope st_Hd_get_all) D_Hd_get_all.1
theorem fnk_Hd_get_all {P : Params} {C : Cx} (g : Good P C) : FnK C 2 (.ref 121) F_Hd_get_all :=
  FnK.ofB (fd_Hd_get_all g) (Binds.p2 (fun u1 u2 => rfl)) (fun env => D_Hd_get_all.2 P _ (g.push env))
noncomputable def D_Hd_items : { f : K Fl // ∀ P C, Good P C → Exs C 0 (scx (dScope st_Hd_items)) (dBody st_Hd_items) f } := by
  apply Subtype.mk
  intro P C g
  exact (Exs.cons (Ex.ret (Ev.slice (Ev.attr (tab_ok g) (Ev.loc (by rfl) (by rfl)) (by rfl)) Pt.none Pt.none Pt.none)) Exs.nil)
noncomputable def F_Hd_items := Fof (bP1 (S "self")) (dScope st_Hd_items) D_Hd_items.1
theorem fnk_Hd_items {P : Params} {C : Cx} (g : Good P C) : FnK C 1 (.ref 146) F_Hd_items :=
  FnK.ofB (fd_Hd_items g) (Binds.p1 (fun u1 => rfl)) (fun env => D_Hd_items.2 P _ (g.push env))
noncomputable def D_Hd_add_header : { f : K Fl // ∀ P C, Good P C → Exs C 1 (scx (dScope st_Hd_add_header)) (dBody st_Hd_add_header) f } := by
  apply Subtype.mk
  intro P C g
  exact (Exs.cons (Ex.assign (Ev.list Eas.nil) (Sto.loc (by rfl)) (fun u1 => rfl)) (Exs.cons (Ex.ite (Te.cmpb (Ev.loc (by rfl) (by rfl)) Ev.noneC (by rfl)) (Exs.cons (Ex.assign (Ev.mOwnK (Cl := 182) g.K g.ok (by rfl) (by rfl) ((fnk_Hd_convert_string_type g).less (by decide)) (Ev.loc (by rfl) (by rfl)) (Ear.kw (Eas.cons (Ev.loc (by rfl) (by rfl)) Eas.nil (fun u1 => rfl)) (Kws.cons Ev.boolC Kws.nil) (by rfl)) (by rfl) (by rfl) (by rfl) (by rfl) (by rfl)) (Sto.loc (by rfl)) (fun u1 => rfl)) (Exs.cons (Ex.expr (Ev.mAppend (Ev.loc (by rfl) (by rfl)) (Eas.cons (Ev.loc (by rfl) (by rfl)) Eas.nil (fun u1 => rfl)) (by rfl) (by rfl) (by rfl) (by rfl)) (fun u1 => rfl)) Exs.nil)) Exs.nil) (Exs.cons (Ex.forItems0 (Ev.loc (by rfl) (by rfl)) Exs.nil g.calm (by rfl) (by rfl) (fun u1 u2 => rfl)) (Exs.cons (Ex.expr (Ev.mAppend (Ev.attr (tab_ok g) (Ev.loc (by rfl) (by rfl)) (by rfl)) (Eas.cons (Ev.tuple (Eas.cons (Ev.mOwnK (Cl := 182) g.K g.ok (by rfl) (by rfl) ((fnk_Hd_convert_string_type g).less (by decide)) (Ev.loc (by rfl) (by rfl)) (Ear.kw (Eas.cons (Ev.loc (by rfl) (by rfl)) Eas.nil (fun u1 => rfl)) (Kws.cons Ev.boolC Kws.nil) (by rfl)) (by rfl) (by rfl) (by rfl) (by rfl) (by rfl)) (Eas.cons (Ev.mJoin Ev.str (Eas.cons (Ev.loc (by rfl) (by rfl)) Eas.nil (fun u1 => rfl)) (by rfl) (by rfl) (by rfl) (by rfl)) Eas.nil (fun u1 => rfl)) (fun u1 => rfl))) Eas.nil (fun u1 => rfl)) (by rfl) (by rfl) (by rfl) (by rfl)) (fun u1 => rfl)) Exs.nil))))
noncomputable def F_Hd_add_header := Fof (bK3 (S "self") (S "_name") (S "_value") (S "_params")) (dScope st_Hd_add_header) D_Hd_add_header.1
theorem fnk_Hd_add_header {P : Params} {C : Cx} (g : Good P C) : FnK C 2 (.ref 179) F_Hd_add_header :=
  FnK.ofB (fd_Hd_add_header g) (Binds.k3 (fun u1 u2 u3 => rfl)) (fun env => D_Hd_add_header.2 P _ (g.push env))
noncomputable def D_law_tree : { f : K Fl // ∀ P C, Good P C → Exs C 0 (scx (dScope st_law_tree)) (dBody st_law_tree) f } := by
  apply Subtype.mk
  intro P C g
  exact (Exs.cons (Ex.assign (Ev.bina (Ev.list (Eas.cons Ev.int Eas.nil (fun u1 => rfl))) Ev.int) (Sto.loc (by rfl)) (fun u1 => rfl)) (Exs.cons (Ex.assign (Ev.list (Eas.cons Ev.int (Eas.cons Ev.int (Eas.cons Ev.int (Eas.cons Ev.int (Eas.cons Ev.int (Eas.cons Ev.int Eas.nil (fun u1 => rfl)) (fun u1 => rfl)) (fun u1 => rfl)) (fun u1 => rfl)) (fun u1 => rfl)) (fun u1 => rfl))) (Sto.loc (by rfl)) (fun u1 => rfl)) (Exs.cons (Ex.assign (Ev.list (Eas.cons Ev.int Eas.nil (fun u1 => rfl))) (Sto.loc (by rfl)) (fun u1 => rfl)) (Exs.cons (Ex.for (Itb.val (Ev.loc (by rfl) (by rfl))) (As.name (Sto.loc (by rfl))) (Exs.cons (Ex.assign (Ev.mPop (Ev.loc (by rfl) (by rfl)) (Eas.cons (Ev.bina (Ev.loc (by rfl) (by rfl)) (Ev.call (f := .builtin "len") (Ev.bkW g.K (by rfl) (by rfl) (by rfl) (by rfl) (by rfl)) Callee.builtin (Eas.cons (Ev.loc (by rfl) (by rfl)) Eas.nil (fun u1 => rfl)) (by rfl) Cal.len)) Eas.nil (fun u1 => rfl)) (by rfl) (by rfl) (by rfl) (by rfl)) (Sto.loc (by rfl)) (fun u1 => rfl)) (Exs.cons (Ex.assignSuba (Ev.suba (Ev.loc (by rfl) (by rfl)) (Ev.bina (Ev.bina (Ev.loc (by rfl) (by rfl)) Ev.int) (Ev.call (f := .builtin "len") (Ev.bkW g.K (by rfl) (by rfl) (by rfl) (by rfl) (by rfl)) Callee.builtin (Eas.cons (Ev.loc (by rfl) (by rfl)) Eas.nil (fun u1 => rfl)) (by rfl) Cal.len)) (by rfl)) (Ev.loc (by rfl) (by rfl)) (Ev.loc (by rfl) (by rfl)) (fun u1 => rfl)) (Exs.cons (Ex.expr (Ev.mAppend (Ev.loc (by rfl) (by rfl)) (Eas.cons (Ev.loc (by rfl) (by rfl)) Eas.nil (fun u1 => rfl)) (by rfl) (by rfl) (by rfl) (by rfl)) (fun u1 => rfl)) Exs.nil))) Exs.nil (fun u1 u2 => rfl) g.calm) (Exs.cons (Ex.ret (Ev.loc (by rfl) (by rfl))) Exs.nil)))))
noncomputable def F_law_tree := Fof (bP1 (S "draws")) (dScope st_law_tree) D_law_tree.1
theorem fnk_law_tree {P : Params} {C : Cx} (g : Good P C) : FnK C 1 (.ref 341) F_law_tree :=
  FnK.ofB (fd_law_tree g) (Binds.p1 (fun u1 => rfl)) (fun env => D_law_tree.2 P _ (g.push env))
noncomputable def D_law_told : { f : K Fl // ∀ P C, Good P C → Exs C 4 (scx (dScope st_law_told)) (dBody st_law_told) f } := by
  apply Subtype.mk
  intro P C g
  exact (Exs.cons (Ex.assign (Ev.fnCall g.K g.ok (by rfl) ((fnk_Ts g).less (by decide)) (Ev.gkW g.K (by rfl) (by rfl) (fun u1 => VR.val _) (by rfl)) Eas.nil (by rfl)) (Sto.loc (by rfl)) (fun u1 => rfl)) (Exs.cons (Ex.for (Itb.val (Ev.call (f := .type "range") (Ev.bkW g.K (by rfl) (by rfl) (by rfl) (by rfl) (by rfl)) Callee.type (Eas.cons Ev.int (Eas.cons Ev.int Eas.nil (fun u1 => rfl)) (fun u1 => rfl)) (by rfl) Cal.range)) (As.name (Sto.loc (by rfl))) (Exs.cons (Ex.expr (Ev.mOwn (Cl := 302) g.K g.ok (by rfl) (by rfl) ((fnk_Ts_add g).less (by decide)) (Ev.loc (by rfl) (by rfl)) (Eas.cons (Ev.loc (by rfl) (by rfl)) (Eas.cons (Ev.suba (Ev.loc (by rfl) (by rfl)) (Ev.loc (by rfl) (by rfl)) (by rfl)) Eas.nil (fun u1 => rfl)) (fun u1 => rfl)) (by rfl) (by rfl) (by rfl) (by rfl)) (fun u1 => rfl)) Exs.nil) Exs.nil (fun u1 u2 => rfl) g.calm) (Exs.cons (Ex.expr (Ev.mOwn (Cl := 302) g.K g.ok (by rfl) (by rfl) ((fnk_Ts_prepare g).less (by decide)) (Ev.loc (by rfl) (by rfl)) Eas.nil (by rfl) (by rfl) (by rfl) (by rfl)) (fun u1 => rfl)) (Exs.cons (Ex.assign (Ev.fnCall g.K g.ok (by rfl) ((fnk_Hd g).less (by decide)) (Ev.gkW g.K (by rfl) (by rfl) (fun u1 => VR.val _) (by rfl)) Eas.nil (by rfl)) (Sto.loc (by rfl)) (fun u1 => rfl)) (Exs.cons (Ex.assign (Ev.list Eas.nil) (Sto.loc (by rfl)) (fun u1 => rfl)) (Exs.cons (Ex.for (Itb.val (Ev.mOwn (Cl := 302) g.K g.ok (by rfl) (by rfl) ((fnk_Ts_get_ready g).less (by decide)) (Ev.loc (by rfl) (by rfl)) Eas.nil (by rfl) (by rfl) (by rfl) (by rfl))) (As.name (Sto.loc (by rfl))) (Exs.cons (Ex.expr (Ev.fnCall g.K g.ok (by rfl) ((fnk_heappush g).less (by decide)) (Ev.gkW g.K (by rfl) (by rfl) (fun u1 => VR.val _) (by rfl)) (Eas.cons (Ev.loc (by rfl) (by rfl)) (Eas.cons (Ev.loc (by rfl) (by rfl)) Eas.nil (fun u1 => rfl)) (fun u1 => rfl)) (by rfl)) (fun u1 => rfl)) Exs.nil) Exs.nil (fun u1 u2 => rfl) g.calm) (Exs.cons (Ex.for (Itb.val Ev.str) (As.name (Sto.loc (by rfl))) (Exs.cons (Ex.expr (Ev.mOwn (Cl := 302) g.K g.ok (by rfl) (by rfl) ((fnk_Ts_done g).less (by decide)) (Ev.loc (by rfl) (by rfl)) (Eas.cons (Ev.fnCall g.K g.ok (by rfl) ((fnk_heappop g).less (by decide)) (Ev.gkW g.K (by rfl) (by rfl) (fun u1 => VR.val _) (by rfl)) (Eas.cons (Ev.loc (by rfl) (by rfl)) Eas.nil (fun u1 => rfl)) (by rfl)) Eas.nil (fun u1 => rfl)) (by rfl) (by rfl) (by rfl) (by rfl)) (fun u1 => rfl)) (Exs.cons (Ex.for (Itb.val (Ev.mOwn (Cl := 302) g.K g.ok (by rfl) (by rfl) ((fnk_Ts_get_ready g).less (by decide)) (Ev.loc (by rfl) (by rfl)) Eas.nil (by rfl) (by rfl) (by rfl) (by rfl))) (As.name (Sto.loc (by rfl))) (Exs.cons (Ex.expr (Ev.mOwn (Cl := 182) g.K g.ok (by rfl) (by rfl) ((fnk_Hd_add_header g).less (by decide)) (Ev.loc (by rfl) (by rfl)) (Eas.cons (Ev.suba (Ev.tuple (Eas.cons (Ev.loc (by rfl) (by rfl)) (Eas.cons (Ev.mUpper (Ev.loc (by rfl) (by rfl)) Eas.nil (by rfl) (by rfl) (by rfl) (by rfl)) Eas.nil (fun u1 => rfl)) (fun u1 => rfl))) (Ev.bina (Ev.loc (by rfl) (by rfl)) Ev.int) (by rfl)) (Eas.cons (Ev.call (f := .type "str") (Ev.bkW g.K (by rfl) (by rfl) (by rfl) (by rfl) (by rfl)) Callee.type (Eas.cons (Ev.loc (by rfl) (by rfl)) Eas.nil (fun u1 => rfl)) (by rfl) Cal.str) Eas.nil (fun u1 => rfl)) (fun u1 => rfl)) (by rfl) (by rfl) (by rfl) (by rfl)) (fun u1 => rfl)) (Exs.cons (Ex.expr (Ev.fnCall g.K g.ok (by rfl) ((fnk_heappush g).less (by decide)) (Ev.gkW g.K (by rfl) (by rfl) (fun u1 => VR.val _) (by rfl)) (Eas.cons (Ev.loc (by rfl) (by rfl)) (Eas.cons (Ev.loc (by rfl) (by rfl)) Eas.nil (fun u1 => rfl)) (fun u1 => rfl)) (by rfl)) (fun u1 => rfl)) Exs.nil)) Exs.nil (fun u1 u2 => rfl) g.calm) Exs.nil)) Exs.nil (fun u1 u2 => rfl) g.calm) (Exs.cons (Ex.ret (Ev.loc (by rfl) (by rfl))) Exs.nil))))))))
noncomputable def F_law_told := Fof (bP1 (S "above")) (dScope st_law_told) D_law_told.1
theorem fnk_law_told {P : Params} {C : Cx} (g : Good P C) : FnK C 5 (.ref 348) F_law_told :=
  FnK.ofB (fd_law_told g) (Binds.p1 (fun u1 => rfl)) (fun env => D_law_told.2 P _ (g.push env))
noncomputable def D_law_spread : { f : K Fl // ∀ P C, Good P C → Exs C 3 (scx (dScope st_law_spread)) (dBody st_law_spread) f } := by
  apply Subtype.mk
  intro P C g
  exact (Exs.cons (Ex.assign (Ev.fnCall g.K g.ok (by rfl) ((fnk_Hd g).less (by decide)) (Ev.gkW g.K (by rfl) (by rfl) (fun u1 => VR.val _) (by rfl)) Eas.nil (by rfl)) (Sto.loc (by rfl)) (fun u1 => rfl)) (Exs.cons (Ex.for (Itb.val (Ev.call (f := .type "range") (Ev.bkW g.K (by rfl) (by rfl) (by rfl) (by rfl) (by rfl)) Callee.type (Eas.cons Ev.int (Eas.cons Ev.int Eas.nil (fun u1 => rfl)) (fun u1 => rfl)) (by rfl) Cal.range)) (As.name (Sto.loc (by rfl))) (Exs.cons (Ex.expr (Ev.mOwn (Cl := 182) g.K g.ok (by rfl) (by rfl) ((fnk_Hd_add_header g).less (by decide)) (Ev.loc (by rfl) (by rfl)) (Eas.cons (Ev.suba (Ev.suba (Ev.tuple (Eas.cons Ev.str (Eas.cons Ev.str Eas.nil (fun u1 => rfl)) (fun u1 => rfl))) (Ev.bina (Ev.loc (by rfl) (by rfl)) Ev.int) (by rfl)) (Ev.suba (Ev.loc (by rfl) (by rfl)) (Ev.loc (by rfl) (by rfl)) (by rfl)) (by rfl)) (Eas.cons (Ev.call (f := .type "str") (Ev.bkW g.K (by rfl) (by rfl) (by rfl) (by rfl) (by rfl)) Callee.type (Eas.cons (Ev.loc (by rfl) (by rfl)) Eas.nil (fun u1 => rfl)) (by rfl) Cal.str) Eas.nil (fun u1 => rfl)) (fun u1 => rfl)) (by rfl) (by rfl) (by rfl) (by rfl)) (fun u1 => rfl)) Exs.nil) Exs.nil (fun u1 u2 => rfl) g.calm) (Exs.cons (Ex.ret (Ev.loc (by rfl) (by rfl))) Exs.nil)))
noncomputable def F_law_spread := Fof (bP1 (S "wishes")) (dScope st_law_spread) D_law_spread.1
theorem fnk_law_spread {P : Params} {C : Cx} (g : Good P C) : FnK C 4 (.ref 355) F_law_spread :=
  FnK.ofB (fd_law_spread g) (Binds.p1 (fun u1 => rfl)) (fun env => D_law_spread.2 P _ (g.push env))
noncomputable def D_law_walk : { f : K Fl // ∀ P C, Good P C → Exs C 3 (scx (dScope st_law_walk)) (dBody st_law_walk) f } := by
  apply Subtype.mk
  intro P C g
  exact (Exs.cons (Ex.assign (Ev.bina (Ev.list (Eas.cons Ev.int Eas.nil (fun u1 => rfl))) Ev.int) (Sto.loc (by rfl)) (fun u1 => rfl)) (Exs.cons (Ex.assign (Ev.list (Eas.cons Ev.int Eas.nil (fun u1 => rfl))) (Sto.loc (by rfl)) (fun u1 => rfl)) (Exs.cons (Ex.assign (Ev.list Eas.nil) (Sto.loc (by rfl)) (fun u1 => rfl)) (Exs.cons (Ex.for (Itb.val Ev.str) (As.name (Sto.loc (by rfl))) (Exs.cons (Ex.for (Itb.val (Ev.mOwn (Cl := 182) g.K g.ok (by rfl) (by rfl) ((fnk_Hd_get_all g).less (by decide)) (Ev.loc (by rfl) (by rfl)) (Eas.cons (Ev.loc (by rfl) (by rfl)) Eas.nil (fun u1 => rfl)) (by rfl) (by rfl) (by rfl) (by rfl))) (As.name (Sto.loc (by rfl))) (Exs.cons (Ex.assignSuba (Ev.suba (Ev.loc (by rfl) (by rfl)) (Ev.neg Ev.int) (by rfl)) (Ev.loc (by rfl) (by rfl)) (Ev.call (f := .type "int") (Ev.bkW g.K (by rfl) (by rfl) (by rfl) (by rfl) (by rfl)) Callee.type (Eas.cons (Ev.loc (by rfl) (by rfl)) Eas.nil (fun u1 => rfl)) (by rfl) Cal.int) (fun u1 => rfl)) (Exs.cons (Ex.expr (Ev.fnCall g.K g.ok (by rfl) ((fnk_heappush g).less (by decide)) (Ev.gkW g.K (by rfl) (by rfl) (fun u1 => VR.val _) (by rfl)) (Eas.cons (Ev.loc (by rfl) (by rfl)) (Eas.cons (Ev.call (f := .type "int") (Ev.bkW g.K (by rfl) (by rfl) (by rfl) (by rfl) (by rfl)) Callee.type (Eas.cons (Ev.loc (by rfl) (by rfl)) Eas.nil (fun u1 => rfl)) (by rfl) Cal.int) Eas.nil (fun u1 => rfl)) (fun u1 => rfl)) (by rfl)) (fun u1 => rfl)) Exs.nil)) Exs.nil (fun u1 u2 => rfl) g.calm) (Exs.cons (Ex.ite (Te.cmpb (Ev.loc (by rfl) (by rfl)) (Ev.list Eas.nil) (by rfl)) (Exs.cons (Ex.ret Ev.noneC) Exs.nil) Exs.nil) (Exs.cons (Ex.expr (Ev.mAppend (Ev.loc (by rfl) (by rfl)) (Eas.cons (Ev.fnCall g.K g.ok (by rfl) ((fnk_heappop g).less (by decide)) (Ev.gkW g.K (by rfl) (by rfl) (fun u1 => VR.val _) (by rfl)) (Eas.cons (Ev.loc (by rfl) (by rfl)) Eas.nil (fun u1 => rfl)) (by rfl)) Eas.nil (fun u1 => rfl)) (by rfl) (by rfl) (by rfl) (by rfl)) (fun u1 => rfl)) Exs.nil))) Exs.nil (fun u1 u2 => rfl) g.calm) (Exs.cons (Ex.ret (Ev.tuple (Eas.cons (Ev.loc (by rfl) (by rfl)) (Eas.cons (Ev.loc (by rfl) (by rfl)) Eas.nil (fun u1 => rfl)) (fun u1 => rfl)))) Exs.nil)))))
noncomputable def F_law_walk := Fof (bP1 (S "table")) (dScope st_law_walk) D_law_walk.1
theorem fnk_law_walk {P : Params} {C : Cx} (g : Good P C) : FnK C 4 (.ref 362) F_law_walk :=
  FnK.ofB (fd_law_walk g) (Binds.p1 (fun u1 => rfl)) (fun env => D_law_walk.2 P _ (g.push env))
noncomputable def D_law_places : { f : K Fl // ∀ P C, Good P C → Exs C 0 (scx (dScope st_law_places)) (dBody st_law_places) f } := by
  apply Subtype.mk
  intro P C g
  exact (Exs.cons (Ex.assign (Ev.list Eas.nil) (Sto.cell (by rfl) (by decide)) (fun u1 => rfl)) (Exs.cons (Ex.for (Itb.val (Ev.slice (Ev.loc (by rfl) (by rfl)) (Pt.some Ev.int) Pt.none Pt.none)) (As.name (Sto.loc (by rfl))) (Exs.cons (Ex.expr (Ev.mAppend (Ev.cell (by rfl) (by rfl)) (Eas.cons (Ev.suba (Ev.comp (Itb.val (Ev.call (f := .type "range") (Ev.bkW g.K (by rfl) (by rfl) (by rfl) (by rfl) (by rfl)) Callee.type (Eas.cons (Ev.loc (by rfl) (by rfl)) (Eas.cons Ev.int Eas.nil (fun u1 => rfl)) (fun u1 => rfl)) (by rfl) Cal.range)) (Lp.last g.calm (by rfl) (by rfl) (As.name (Sto.loc (by rfl))) (Ifs.cons (Te.cmpb (Ev.loc (by rfl) (by rfl)) (Ev.cell (by rfl) (by rfl)) (by rfl)) Ifs.nil) (Ev.loc (by rfl) (by rfl))) (by rfl) (fun u1 u2 => rfl)) Ev.int (by rfl)) Eas.nil (fun u1 => rfl)) (by rfl) (by rfl) (by rfl) (by rfl)) (fun u1 => rfl)) Exs.nil) Exs.nil (fun u1 u2 => rfl) g.calm) (Exs.cons (Ex.ret (Ev.cell (by rfl) (by rfl))) Exs.nil)))
noncomputable def F_law_places := Fof (bP1 (S "wishes")) (dScope st_law_places) D_law_places.1
theorem fnk_law_places {P : Params} {C : Cx} (g : Good P C) : FnK C 1 (.ref 367) F_law_places :=
  FnK.ofB (fd_law_places g) (Binds.p1 (fun u1 => rfl)) (fun env => D_law_places.2 P _ (g.push env))
noncomputable def D_law : { f : K Fl // ∀ P C, Good P C → Exs C 5 (scx (dScope st_law)) (dBody st_law) f } := by
  apply Subtype.mk
  intro P C g
  exact (Exs.cons (Ex.assign (Ev.bina (Ev.slice (Ev.loc (by rfl) (by rfl)) Pt.none (Pt.some Ev.int) Pt.none) (Ev.slice (Ev.list (Eas.cons Ev.int (Eas.cons Ev.int (Eas.cons Ev.int (Eas.cons Ev.int (Eas.cons Ev.int (Eas.cons Ev.int (Eas.cons Ev.int (Eas.cons Ev.int (Eas.cons Ev.int (Eas.cons Ev.int (Eas.cons Ev.int (Eas.cons Ev.int Eas.nil (fun u1 => rfl)) (fun u1 => rfl)) (fun u1 => rfl)) (fun u1 => rfl)) (fun u1 => rfl)) (fun u1 => rfl)) (fun u1 => rfl)) (fun u1 => rfl)) (fun u1 => rfl)) (fun u1 => rfl)) (fun u1 => rfl)) (fun u1 => rfl))) (Pt.some (Ev.call (f := .builtin "len") (Ev.bkW g.K (by rfl) (by rfl) (by rfl) (by rfl) (by rfl)) Callee.builtin (Eas.cons (Ev.loc (by rfl) (by rfl)) Eas.nil (fun u1 => rfl)) (by rfl) (Cal.lenI (len_ok g) Cal.len ((fnk_Hd_len g).less (by decide)).fn))) Pt.none Pt.none)) (Sto.loc (by rfl)) (fun u1 => rfl)) (Exs.cons (Ex.assign (Ev.fnCall g.K g.ok (by rfl) ((fnk_law_tree g).less (by decide)) (Ev.gkW g.K (by rfl) (by rfl) (fun u1 => VR.val _) (by rfl)) (Eas.cons (Ev.slice (Ev.loc (by rfl) (by rfl)) Pt.none (Pt.some Ev.int) Pt.none) Eas.nil (fun u1 => rfl)) (by rfl)) (Sto.loc (by rfl)) (fun u1 => rfl)) (Exs.cons (Ex.assign (Ev.fnCall g.K g.ok (by rfl) ((fnk_law_told g).less (by decide)) (Ev.gkW g.K (by rfl) (by rfl) (fun u1 => VR.val _) (by rfl)) (Eas.cons (Ev.loc (by rfl) (by rfl)) Eas.nil (fun u1 => rfl)) (by rfl)) (Sto.loc (by rfl)) (fun u1 => rfl)) (Exs.cons (Ex.assign (Ev.fnCall g.K g.ok (by rfl) ((fnk_law_walk g).less (by decide)) (Ev.gkW g.K (by rfl) (by rfl) (fun u1 => VR.val _) (by rfl)) (Eas.cons (Ev.loc (by rfl) (by rfl)) Eas.nil (fun u1 => rfl)) (by rfl)) (Sto.loc (by rfl)) (fun u1 => rfl)) (Exs.cons (Ex.ite (Te.all (Tes.or (Te.cmpb (Ev.loc (by rfl) (by rfl)) Ev.noneC (by rfl)) (Tes.or (Te.cmpb (Ev.suba (Ev.loc (by rfl) (by rfl)) Ev.int (by rfl)) (Ev.loc (by rfl) (by rfl)) (by rfl)) (Tes.or (Te.cmpb (Ev.call (f := .builtin "len") (Ev.bkW g.K (by rfl) (by rfl) (by rfl) (by rfl) (by rfl)) Callee.builtin (Eas.cons (Ev.loc (by rfl) (by rfl)) Eas.nil (fun u1 => rfl)) (by rfl) (Cal.lenI (len_ok g) Cal.len ((fnk_Hd_len g).less (by decide)).fn)) Ev.int (by rfl)) Tes.or0)))) (Exs.cons (Ex.ret Ev.boolC) Exs.nil) Exs.nil) (Exs.cons (Ex.assign (Ev.bina (Ev.list (Eas.cons Ev.int Eas.nil (fun u1 => rfl))) (Ev.comp (Itb.val (Ev.slice (Ev.loc (by rfl) (by rfl)) (Pt.some Ev.int) Pt.none Pt.none)) (Lp.last g.calm (by rfl) (by rfl) (As.name (Sto.loc (by rfl))) Ifs.nil (Ev.bina (Ev.loc (by rfl) (by rfl)) Ev.int)) (by rfl) (fun u1 u2 => rfl))) (Sto.cell (by rfl) (by decide)) (fun u1 => rfl)) (Exs.cons (Ex.assign (Ev.fnCall g.K g.ok (by rfl) ((fnk_law_walk g).less (by decide)) (Ev.gkW g.K (by rfl) (by rfl) (fun u1 => VR.val _) (by rfl)) (Eas.cons (Ev.fnCall g.K g.ok (by rfl) ((fnk_law_spread g).less (by decide)) (Ev.gkW g.K (by rfl) (by rfl) (fun u1 => VR.val _) (by rfl)) (Eas.cons (Ev.cell (by rfl) (by rfl)) Eas.nil (fun u1 => rfl)) (by rfl)) Eas.nil (fun u1 => rfl)) (by rfl)) (Sto.loc (by rfl)) (fun u1 => rfl)) (Exs.cons (Ex.assignComp (Itb.val (Ev.call (f := .type "range") (Ev.bkW g.K (by rfl) (by rfl) (by rfl) (by rfl) (by rfl)) Callee.type (Eas.cons Ev.int (Eas.cons Ev.int Eas.nil (fun u1 => rfl)) (fun u1 => rfl)) (by rfl) Cal.range)) (Lp.last g.calm (by rfl) (by rfl) (As.name (Sto.cell (by rfl) (by decide))) (Ifs.cons (Te.cmpb (Ev.call (f := .builtin "len") (Ev.bkW g.K (by rfl) (by rfl) (by rfl) (by rfl) (by rfl)) Callee.builtin (Eas.cons (Ev.comp (Itb.val (Ev.slice (Ev.cell (by rfl) (by rfl)) (Pt.some Ev.int) Pt.none Pt.none)) (Lp.last g.calm (by rfl) (by rfl) (As.name (Sto.loc (by rfl))) (Ifs.cons (Te.cmpb (Ev.loc (by rfl) (by rfl)) (Ev.cell (by rfl) (by rfl)) (by rfl)) Ifs.nil) (Ev.loc (by rfl) (by rfl))) (by rfl) (fun u1 u2 => rfl)) Eas.nil (fun u1 => rfl)) (by rfl) (Cal.lenI (len_ok g) Cal.len ((fnk_Hd_len g).less (by decide)).fn)) (Ev.cell (by rfl) (by rfl)) (by rfl)) Ifs.nil) (Ev.cell (by rfl) (by rfl))) (by rfl) (fun u1 u2 => rfl) (by rfl) (by rfl) (by rfl)) (Exs.cons (Ex.ite (Te.cmpb (Ev.loc (by rfl) (by rfl)) (Ev.list Eas.nil) (by rfl)) (Exs.cons (Ex.ret (Ev.cmpb (Ev.loc (by rfl) (by rfl)) Ev.noneC (by rfl))) Exs.nil) Exs.nil) (Exs.cons (Ex.ite (Te.cmpb (Ev.loc (by rfl) (by rfl)) Ev.noneC (by rfl)) (Exs.cons (Ex.ret Ev.boolC) Exs.nil) Exs.nil) (Exs.cons (Ex.assign1 (Ev.loc (by rfl) (by rfl)) (As.tuple (Ass.cons (As.name (Sto.loc (by rfl))) (Ass.cons (As.name (Sto.loc (by rfl))) Ass.nil (fun u1 => rfl)) (fun u1 => rfl)) g.calm) (fun u1 => rfl) (fun u1 => rfl) (fun u1 => rfl)) (Exs.cons (Ex.assign (Ev.fnCall g.K g.ok (by rfl) ((fnk_law_places g).less (by decide)) (Ev.gkW g.K (by rfl) (by rfl) (fun u1 => VR.val _) (by rfl)) (Eas.cons (Ev.cell (by rfl) (by rfl)) Eas.nil (fun u1 => rfl)) (by rfl)) (Sto.cell (by rfl) (by decide)) (fun u1 => rfl)) (Exs.cons (Ex.ite (Te.cmpb (Ev.loc (by rfl) (by rfl)) (Ev.bina (Ev.list (Eas.cons Ev.int Eas.nil (fun u1 => rfl))) (Ev.comp (Itb.val (Ev.call (f := .type "range") (Ev.bkW g.K (by rfl) (by rfl) (by rfl) (by rfl) (by rfl)) Callee.type (Eas.cons Ev.int Eas.nil (fun u1 => rfl)) (by rfl) Cal.range)) (Lp.last g.calm (by rfl) (by rfl) (As.name (Sto.loc (by rfl))) Ifs.nil (Ev.bina (Ev.mIndex (Ev.cell (by rfl) (by rfl)) (Eas.cons (Ev.loc (by rfl) (by rfl)) Eas.nil (fun u1 => rfl)) (by rfl) (by rfl) (by rfl) (by rfl)) Ev.int)) (by rfl) (fun u1 u2 => rfl))) (by rfl)) (Exs.cons (Ex.ret Ev.boolC) Exs.nil) Exs.nil) (Exs.cons (Ex.ret (Ev.cmpb (Ev.mOwn (Cl := 182) g.K g.ok (by rfl) (by rfl) ((fnk_Hd_items g).less (by decide)) (Ev.fnCall g.K g.ok (by rfl) ((fnk_law_told g).less (by decide)) (Ev.gkW g.K (by rfl) (by rfl) (fun u1 => VR.val _) (by rfl)) (Eas.cons (Ev.loc (by rfl) (by rfl)) Eas.nil (fun u1 => rfl)) (by rfl)) Eas.nil (by rfl) (by rfl) (by rfl) (by rfl)) (Ev.comp (Itb.val (Ev.call (f := .type "range") (Ev.bkW g.K (by rfl) (by rfl) (by rfl) (by rfl) (by rfl)) Callee.type (Eas.cons Ev.int Eas.nil (fun u1 => rfl)) (by rfl) Cal.range)) (Lp.more g.calm (by rfl) (by rfl) (As.name (Sto.loc (by rfl))) Ifs.nil (Itb.val (Ev.call (f := .type "range") (Ev.bkW g.K (by rfl) (by rfl) (by rfl) (by rfl) (by rfl)) Callee.type (Eas.cons Ev.int (Eas.cons Ev.int Eas.nil (fun u1 => rfl)) (fun u1 => rfl)) (by rfl) Cal.range)) (fun u1 u2 => rfl) (Lp.last g.calm (by rfl) (by rfl) (As.name (Sto.loc (by rfl))) (Ifs.cons (Te.cmpb (Ev.suba (Ev.cell (by rfl) (by rfl)) (Ev.loc (by rfl) (by rfl)) (by rfl)) (Ev.loc (by rfl) (by rfl)) (by rfl)) Ifs.nil) (Ev.tuple (Eas.cons (Ev.suba (Ev.suba (Ev.tuple (Eas.cons Ev.str (Eas.cons Ev.str Eas.nil (fun u1 => rfl)) (fun u1 => rfl))) (Ev.bina (Ev.loc (by rfl) (by rfl)) Ev.int) (by rfl)) (Ev.loc (by rfl) (by rfl)) (by rfl)) (Eas.cons (Ev.call (f := .type "str") (Ev.bkW g.K (by rfl) (by rfl) (by rfl) (by rfl) (by rfl)) Callee.type (Eas.cons (Ev.loc (by rfl) (by rfl)) Eas.nil (fun u1 => rfl)) (by rfl) Cal.str) Eas.nil (fun u1 => rfl)) (fun u1 => rfl))))) (by rfl) (fun u1 u2 => rfl)) (by rfl))) Exs.nil))))))))))))))
noncomputable def F_law := Fof (bP1 (S "script")) (dScope st_law) D_law.1
theorem fnk_law {P : Params} {C : Cx} (g : Good P C) : FnK C 6 (.ref 372) F_law :=
  FnK.ofB (fd_law g) (Binds.p1 (fun u1 => rfl)) (fun env => D_law.2 P _ (g.push env))
end Mine
set_option Elab.async false
set_option maxRecDepth 100000
namespace Mine
open PySem PyProof.Rows PySem.W PySem.SeqAt
noncomputable abbrev aTS : Nat := 302
noncomputable abbrev aNI : Nat := 205
noncomputable abbrev aHD : Nat := 182
section

theorem sA_node : attrT.lookup (aNI, (S "node")) = some (some 0) := by kernel_rfl
theorem sA_np : attrT.lookup (aNI, (S "npredecessors")) = some (some 1) := by kernel_rfl
theorem sA_su : attrT.lookup (aNI, (S "successors")) = some (some 2) := by kernel_rfl
theorem sS_node : attrT.lookup (aNI, (S "node")) = some (some 0) := by kernel_rfl
theorem sS_np : attrT.lookup (aNI, (S "npredecessors")) = some (some 1) := by kernel_rfl
theorem sS_su : attrT.lookup (aNI, (S "successors")) = some (some 2) := by kernel_rfl
theorem dA_n2i : attrT.lookup (aTS, (S "_node2info")) = some none := by kernel_rfl
theorem dA_rdy : attrT.lookup (aTS, (S "_ready_nodes")) = some none := by kernel_rfl
theorem dA_po : attrT.lookup (aTS, (S "_npassedout")) = some none := by kernel_rfl
theorem dA_nf : attrT.lookup (aTS, (S "_nfinished")) = some none := by kernel_rfl
theorem dS_n2i : attrT.lookup (aTS, (S "_node2info")) = some none := by kernel_rfl
theorem dS_rdy : attrT.lookup (aTS, (S "_ready_nodes")) = some none := by kernel_rfl
theorem dS_po : attrT.lookup (aTS, (S "_npassedout")) = some none := by kernel_rfl
theorem dS_nf : attrT.lookup (aTS, (S "_nfinished")) = some none := by kernel_rfl
theorem dA_hd : attrT.lookup (aHD, (S "_headers")) = some none := by kernel_rfl
theorem dS_hd : attrT.lookup (aHD, (S "_headers")) = some none := by kernel_rfl
end
noncomputable def tsA (m : AV) (r : AV) (po nf : Int) : List (Str × AV) := [(S "_node2info", m), (S "_ready_nodes", r), (S "_npassedout", .int po), (S "_nfinished", .int nf)]
section
variable {m r v : AV} {po nf x : Int}
theorem tsA_m : (tsA m r po nf).lookup (S "_node2info") = some m := by rfl
theorem tsA_r : (tsA m r po nf).lookup (S "_ready_nodes") = some r := by rfl
theorem tsA_po : (tsA m r po nf).lookup (S "_npassedout") = some (.int po) := by rfl
theorem tsA_nf : (tsA m r po nf).lookup (S "_nfinished") = some (.int nf) := by rfl
theorem tsA_gni : (tsA m r po nf).lookup (S "_get_nodeinfo") = none := by rfl
theorem tsA_fc : (tsA m r po nf).lookup (S "_find_cycle") = none := by rfl
theorem tsA_add : (tsA m r po nf).lookup (S "add") = none := by rfl
theorem tsA_prep : (tsA m r po nf).lookup (S "prepare") = none := by rfl
theorem tsA_gr : (tsA m r po nf).lookup (S "get_ready") = none := by rfl
theorem tsA_done : (tsA m r po nf).lookup (S "done") = none := by rfl
theorem tsA_len : (tsA m r po nf).length < 900 := by show 4 < 900; decide
theorem tsA_put_r : putA (S "_ready_nodes") v (tsA m r po nf) = tsA m v po nf := by rfl
theorem tsA_put_po : putA (S "_npassedout") (.int x) (tsA m r po nf) = tsA m r x nf := by rfl
theorem tsA_put_nf : putA (S "_nfinished") (.int x) (tsA m r po nf) = tsA m r po x := by rfl
end
theorem at_set {σ : List AO} {h : Nat} {o o' : AO} (e : σ[h]? = some o) : (σ.set h o')[h]? = some o' := List.getElem?_set_self (List.getElem?_eq_some_iff.mp e).1
noncomputable def niO (k v : Int) (l : Nat) : AO := .slots aNI [some (.int k), some (.int v), some (.obj l)]
end Mine
set_option Elab.async false
set_option maxRecDepth 100000
namespace Mine
open PySem PyProof.Rows PySem.W PySem.SeqAt

local macro_rules | `(tactic| walk_at "w") => `(tactic| first
  | with_reducible refine wp_bind ?_ | ((with_reducible refine wp_getv (a := ?a) ?h ?hq); (case h => rfl)) | ((with_reducible refine wp_setv ?_ ?_); · rfl) | with_reducible refine wp_ret ?_ | with_reducible refine thenQ_next ?_ | with_reducible refine wp_then ?_
  | with_reducible refine thenQ_brk ?_ | with_reducible refine thenQ_cont ?_ | with_reducible refine thenQ_ret ?_ | with_reducible refine whileQ_next ?_ | with_reducible refine whileQ_cont ?_ | with_reducible refine whileQ_brk ?_ | with_reducible refine whileQ_ret ?_
  | with_reducible refine forQ_next ?_ | with_reducible refine forQ_cont ?_ | with_reducible refine forQ_brk ?_ | with_reducible refine forQ_ret ?_)

local macro_rules | `(tactic| walk_at "w1") => `(tactic| first
  | with_reducible refine wp_bind ?_ | ((with_reducible refine wp_getv (a := ?a) ?h ?hq); (case h => rfl)) | ((with_reducible refine wp_setv ?_ ?_); · rfl) | with_reducible refine wp_ret ?_ | with_reducible refine thenQ_next ?_
  | with_reducible refine thenQ_brk ?_ | with_reducible refine thenQ_cont ?_ | with_reducible refine thenQ_ret ?_ | with_reducible refine whileQ_next ?_ | with_reducible refine whileQ_cont ?_ | with_reducible refine whileQ_brk ?_ | with_reducible refine whileQ_ret ?_
  | with_reducible refine forQ_next ?_ | with_reducible refine forQ_cont ?_ | with_reducible refine forQ_brk ?_ | with_reducible refine forQ_ret ?_)

theorem set_same {σ : List AO} {h : Nat} {o : AO} (e : σ[h]? = some o) : σ.set h o = σ := by
  obtain ⟨hl, rfl⟩ := List.getElem?_eq_some_iff.mp e
  exact List.set_getElem_self hl
theorem half_int (p : Nat) : ((p + 1 : Nat) : Int) - 1 = (p : Int) := by omega
theorem shr_one (p : Nat) (hp : 0 < p) : ((p : Int) - 1).fdiv (2 ^ (1 : Int).toNat) = ((p - 1) / 2 : Nat) := by
  rw [Int.fdiv_eq_ediv_of_nonneg _ (by decide)]
  show ((p : Int) - 1) / 2 = _
  omega

structure HOrd {α : Type} (em : α → AV) (lt : α → α → Bool) : Prop where
  ord : Order lt
  cmp : ∀ a b st (Q : AV → St → Prop), Q (.bool (lt a b)) st → wp (cmpB .Lt (em a) (em b)) st Q

section
variable {α : Type} {em : α → AV} {lt : α → α → Bool} {h : Nat} {σ : List AO} {xs : List α} {x : α}
theorem map_at {p : Nat} (e : xs[p]? = some x) : (xs.map em)[p]? = some (em x) := by rw [List.getElem?_map, e]; rfl

theorem siftdown_spec (ho : HOrd em lt) {p : Nat} (hσ : σ[h]? = some (.list (xs.map em))) (hx : xs[p]? = some x) (hlen : xs.length < 2 ^ 20) (hd : Down lt (fun i => xs[i]?) p) :
    wpF (F_siftdown [.obj h, .int 0, .int p] [] σ) fun r σ' => r = .none ∧ ∃ ys : List α, σ' = σ.set h (.list (ys.map em)) ∧ ys.Perm xs ∧ Heaped lt fun i => ys[i]? := by
  have hp := (List.getElem?_eq_some_iff.mp hx).1
  have hself : xs.set p x = xs := by
    obtain ⟨h1, rfl⟩ := List.getElem?_eq_some_iff.mp hx
    exact List.set_getElem_self h1
  refine wpF_of (l := [some (.obj h), some (.int 0), some (.int p), none, none, none]) 6 (by rfl) (by rfl) (by rfl) (by rfl) (wp_then ?_)
  repeat walk_at "w"
  refine wp_sub_list hσ (itemAt_nat (map_at hx) (by omega)) ?_
  repeat walk_at "w"
  refine wp_while (fun n st => ∃ (ys : List α) (p : Nat) (l4 l5 : Option AV), n = p ∧ st = ⟨th [some (.obj h), some (.int 0), some (.int p), some (em x), l4, l5], σ.set h (.list (ys.map em))⟩ ∧
    p < ys.length ∧ ys.length = xs.length ∧ (ys.set p x).Perm xs ∧ Down lt (fun i => (ys.set p x)[i]?) p) p ⟨xs, p, none, none, rfl, by rw [set_same hσ]; rfl, hp, rfl, ?_, ?_⟩ ?_
  · rw [hself]
  · rw [hself]; exact hd
  rintro n _ ⟨ys, p, l4, l5, rfl, rfl, hp, hys, hperm, hdn⟩
  have fin : (∀ q, Par q n → Edge lt (fun i => (ys.set n x)[i]?) q n) → ∀ l4 l5, wp (setItemA (.obj h) (.int n) (em x)) ⟨th [some (.obj h), some (.int 0), some (.int n), some (em x), l4, l5], σ.set h (.list (ys.map em))⟩ fun u1 st' => wp (K.ret .next) st' (thenQ (K.ret .next)
      fun fl st' => retOf fl = .none ∧ ∃ ys : List α, st'.σ = σ.set h (.list (ys.map em)) ∧ ys.Perm xs ∧ Heaped lt fun i => ys[i]?) := fun hq l4 l5 => by
    refine wp_setItem (at_set hσ) (by simp <;> omega) ?_
    repeat walk_at "w"
    refine ⟨rfl, ys.set n x, ?_, hperm, hdn.heap hq⟩
    dsimp only
    rw [List.set_set, Int.toNat_natCast, List.map_set]
  repeat walk_at "w"
  refine wp_gt (wp_truth ?_)
  by_cases h0 : (0 : Int) < (n : Int)
  · rw [decide_eq_true h0, if_pos rfl]
    have hn : 0 < n := by omega
    have hq : Par ((n - 1) / 2) n := .up hn
    have hql := hq.less
    have hy := List.getElem?_eq_getElem (show (n - 1) / 2 < ys.length by omega)
    repeat walk_at "w"
    refine wp_subt ?_
    repeat walk_at "w"
    refine wp_shr (by decide) ?_
    rw [shr_one n hn]
    repeat walk_at "w"
    refine wp_sub_list (at_set hσ) (itemAt_nat (map_at hy) (by omega)) ?_
    repeat walk_at "w"
    refine ho.cmp _ _ _ _ (wp_truth ?_)
    generalize hyy : ys[(n - 1) / 2] = y at *
    have hxn : (fun i => (ys.set n x)[i]?) n = some x := List.getElem?_set_self hp
    have hyn : (fun i => (ys.set n x)[i]?) ((n - 1) / 2) = some y := (List.getElem?_set_ne (by omega)).trans hy
    refine wp_iteB (fun hl => ?_) fun hl => ?_
    · repeat walk_at "w"
      refine wp_setItem (at_set hσ) (by simp <;> omega) ?_
      repeat walk_at "w"
      refine ⟨(n - 1) / 2, hql, ys.set n y, (n - 1) / 2, some (.int ((n - 1) / 2 : Nat)), some (em y), rfl, ?_, by simp <;> omega, by simpa using hys, (move_perm hp (Nat.ne_of_lt hql) hy).trans hperm, ?_⟩
      · rw [List.set_set, Int.toNat_natCast, List.map_set]; rfl
      · rw [move_sw hp (Nat.ne_of_lt hql) hy]
        exact hdn.step ho.ord hq hxn hyn hl
    · repeat walk_at "w"
      refine fin (fun q hq' => ?_) _ _
      rw [hq'.inj hq]
      intro u v hu hv
      rw [hyn] at hu; rw [hxn] at hv; cases hu; cases hv
      exact hl
  · rw [decide_eq_false h0, if_neg (by decide)]
    repeat walk_at "w"
    exact fin (fun q hq => by have := hq.less; omega) _ _

theorem siftup_spec (ho : HOrd em lt) (hσ : σ[h]? = some (.list (xs.map em))) (hx : xs[0]? = some x) (hlen : xs.length < 2 ^ 20) (hd : Up lt (fun i => xs[i]?) 0) :
    wpF (F_siftup [.obj h, .int 0] [] σ) fun r σ' => r = .none ∧ ∃ ys : List α, σ' = σ.set h (.list (ys.map em)) ∧ ys.Perm xs ∧ Heaped lt fun i => ys[i]? := by
  have hp := (List.getElem?_eq_some_iff.mp hx).1
  have hself : xs.set 0 x = xs := by
    obtain ⟨h1, rfl⟩ := List.getElem?_eq_some_iff.mp hx
    exact List.set_getElem_self h1
  refine wpF_of (l := [some (.obj h), some (.int 0), none, none, none, none, none, none, none]) 9 (by rfl) (by rfl) (by rfl) (by rfl) (wp_then ?_)
  repeat walk_at "w"
  refine wp_len hσ (by simp <;> omega) ?_
  repeat walk_at "w"
  refine wp_sub_list hσ (itemAt_nat (k := 0) (map_at hx) (by omega)) ?_
  repeat walk_at "w"
  refine wp_mul (by decide) ?_
  repeat walk_at "w"
  refine wp_add ?_
  repeat walk_at "w"
  rw [List.length_map]
  refine wp_while (fun n st => ∃ (ys : List α) (p : Nat) (l6 : Option AV), n = xs.length - p ∧ st = ⟨th [some (.obj h), some (.int p), some (.int xs.length), some (.int 0), some (em x), some (.int (2 * p + 1)), l6, none, none], σ.set h (.list (ys.map em))⟩ ∧
    p < ys.length ∧ ys.length = xs.length ∧ (ys.set p x).Perm xs ∧ Up lt (fun i => (ys.set p x)[i]?) p) xs.length ⟨xs, 0, none, rfl, by rw [set_same hσ]; rfl, hp, rfl, ?_, ?_⟩ ?_
  · rw [hself]
  · rw [hself]; exact hd
  rintro n _ ⟨ys, p, l6, rfl, rfl, hp, hys, hperm, hup⟩
  repeat walk_at "w"
  refine wp_lt (wp_truth ?_)
  by_cases h0 : (2 * (p : Int) + 1) < (xs.length : Int)
  · rw [decide_eq_true h0, if_pos rfl]
    repeat walk_at "w"
    refine wp_add ?_
    repeat walk_at "w1"
    have hc := List.getElem?_eq_getElem (show 2 * p + 1 < ys.length by omega)
    generalize hy1 : ys[2 * p + 1] = y1 at hc
    refine wp_seq (fun st' => ∃ (c : Nat) (y : α) (l6 : Option AV), st' = ⟨th [some (.obj h), some (.int p), some (.int xs.length), some (.int 0), some (em x), some (.int c), l6, none, none], σ.set h (.list (ys.map em))⟩ ∧
      Par p c ∧ ys[c]? = some y ∧ ∀ s z, Par p s → ys[s]? = some z → lt z y = false) ?_ ?_
    · have irr : ∀ y, lt y y = false := fun y => by
        cases e : lt y y with
        | false => rfl
        | true => exact absurd (ho.ord.asymm e) (by rw [e]; decide)
      repeat walk_at "w"
      refine wp_lt (wp_truth ?_)
      by_cases h1 : (2 * (p : Int) + 1 + 1) < (xs.length : Int)
      · rw [decide_eq_true h1, if_pos rfl]
        have hd' := List.getElem?_eq_getElem (show 2 * p + 2 < ys.length by omega)
        generalize hy2 : ys[2 * p + 2] = y2 at hd'
        repeat walk_at "w"
        refine wp_sub_list (at_set hσ) (itemAt_nat (k := 2 * p + 1) (map_at hc) (by omega)) ?_
        repeat walk_at "w"
        refine wp_sub_list (at_set hσ) (itemAt_nat (k := 2 * p + 2) (map_at hd') (by omega)) ?_
        repeat walk_at "w"
        refine ho.cmp _ _ _ _ (wp_truth ?_)
        repeat walk_at "w"
        cases hl : lt y1 y2 with
        | true =>
          rw [if_neg (by decide)]
          repeat walk_at "w"
          rw [if_neg (by decide)]
          repeat walk_at "w"
          refine ⟨rfl, 2 * p + 1, y1, _, rfl, .inl rfl, hc, fun s z hs hz => ?_⟩
          rcases hs with rfl | rfl
          · rw [hc] at hz; cases hz; exact irr _
          · rw [hd'] at hz; cases hz; exact ho.ord.asymm hl
        | false =>
          rw [if_pos (by decide)]
          repeat walk_at "w"
          rw [if_pos (by decide)]
          repeat walk_at "w"
          refine ⟨rfl, 2 * p + 2, y2, _, rfl, .inr rfl, hd', fun s z hs hz => ?_⟩
          rcases hs with rfl | rfl
          · rw [hc] at hz; cases hz; exact hl
          · rw [hd'] at hz; cases hz; exact irr _
      · rw [decide_eq_false h1, if_neg (by decide)]
        repeat walk_at "w"
        rw [if_neg (by decide)]
        repeat walk_at "w"
        refine ⟨rfl, 2 * p + 1, y1, _, rfl, .inl rfl, hc, fun s z hs hz => ?_⟩
        rcases hs with rfl | rfl
        · rw [hc] at hz; cases hz; exact irr _
        · rw [List.getElem?_eq_none (by omega)] at hz; cases hz
    · rintro _ ⟨c, y, l6, rfl, hpc, hy, hm⟩
      have hcl := (List.getElem?_eq_some_iff.mp hy).1
      have hlt := hpc.less
      have hyn : (fun i => (ys.set p x)[i]?) c = some y := (List.getElem?_set_ne (by omega)).trans hy
      repeat walk_at "w"
      refine wp_sub_list (at_set hσ) (itemAt_nat (map_at hy) (by omega)) ?_
      repeat walk_at "w"
      refine wp_setItem (at_set hσ) (by simp <;> omega) ?_
      repeat walk_at "w"
      refine wp_mul (by decide) ?_
      repeat walk_at "w"
      refine wp_add ?_
      repeat walk_at "w"
      refine ⟨xs.length - c, by omega, ys.set p y, c, l6, rfl, ?_, by simp <;> omega, by simpa using hys, (move_perm hp (Nat.ne_of_gt hlt) hy).trans hperm, ?_⟩
      · rw [List.set_set, Int.toNat_natCast, List.map_set]; rfl
      · rw [move_sw hp (Nat.ne_of_gt hlt) hy]
        refine hup.step ho.ord hpc hyn fun s z hs hz => hm s z hs ?_
        have := hs.less
        exact (List.getElem?_set_ne (by omega)).symm.trans hz
  · rw [decide_eq_false h0, if_neg (by decide)]
    repeat walk_at "w"
    refine wp_setItem (at_set hσ) (by simp <;> omega) ?_
    repeat walk_at "w"
    refine wp_liftF ?_
    rw [List.set_set, Int.toNat_natCast, ← List.map_set]
    have hdn := hup.down fun c hc => by
      have : 2 * p + 1 ≤ c := by rcases hc with h | h <;> omega
      exact List.getElem?_eq_none (by simp <;> omega)
    refine wpF_mono (siftdown_spec ho (at_set hσ) (List.getElem?_set_self hp) (by simp <;> omega) hdn) fun r σ' hh => ?_
    obtain ⟨rfl, zs, rfl, hz1, hz2⟩ := hh
    repeat walk_at "w"
    exact ⟨rfl, zs, by dsimp only; rw [List.set_set], hz1.trans hperm, hz2⟩

theorem heappush_spec (ho : HOrd em lt) (hσ : σ[h]? = some (.list (xs.map em))) (hlen : xs.length < 2 ^ 18) (hh : Heaped lt fun i => xs[i]?) :
    wpF (F_heappush [.obj h, em x] [] σ) fun r σ' => r = .none ∧ ∃ ys : List α, σ' = σ.set h (.list (ys.map em)) ∧ ys.Perm (x :: xs) ∧ Heaped lt fun i => ys[i]? := by
  refine wpF_of (l := [some (.obj h), some (em x), none, none]) 4 (by rfl) (by rfl) (by rfl) (by rfl) (wp_then ?_)
  repeat walk_at "w"
  refine wp_guard (isLst_of hσ) ?_
  repeat walk_at "w"
  refine wp_append hσ (by simp <;> omega) ?_
  repeat walk_at "w"
  refine wp_len (at_set hσ) (by simp <;> omega) ?_
  repeat walk_at "w"
  refine wp_subt ?_
  repeat walk_at "w"
  refine wp_liftF ?_
  have e : (((xs.map em ++ [em x]).length : Nat) : Int) - 1 = (xs.length : Nat) := by simp <;> omega
  have e2 : xs.map em ++ [em x] = (xs ++ [x]).map em := by simp
  rw [e, e2]
  have hd : Down lt (fun i => (xs ++ [x])[i]?) xs.length := by
    refine ⟨fun i j hp hj u v hu hv => ?_, fun q c hq hc u v hu hv => ?_⟩
    · have hjl := (List.getElem?_eq_some_iff.mp hv).1
      have := hp.less
      simp at hjl
      rw [List.getElem?_append_left (by omega)] at hu hv
      exact hh i j hp _ _ hu hv
    · have hcl := (List.getElem?_eq_some_iff.mp hv).1
      have := hc.less
      simp at hcl
      omega
  refine wpF_mono (siftdown_spec ho (at_set hσ) (x := x) (by simp) (by simp <;> omega) hd) fun r σ' hh => ?_
  obtain ⟨rfl, zs, rfl, hz1, hz2⟩ := hh
  repeat walk_at "w"
  exact ⟨rfl, zs, by dsimp only; rw [List.set_set], hz1.trans (List.perm_append_singleton x xs), hz2⟩

theorem heappop_spec (ho : HOrd em lt) (hσ : σ[h]? = some (.list (xs.map em))) (hlen : xs.length < 2 ^ 18) (hne : xs ≠ []) (hh : Heaped lt fun i => xs[i]?) :
    wpF (F_heappop [.obj h] [] σ) fun r σ' => ∃ (m : α) (ys : List α), r = em m ∧ σ' = σ.set h (.list (ys.map em)) ∧ (m :: ys).Perm xs ∧ (∀ y ∈ ys, lt y m = false) ∧ Heaped lt fun i => ys[i]? := by
  obtain ⟨zs, z, rfl⟩ : ∃ zs z, xs = zs ++ [z] := ⟨xs.dropLast, xs.getLast hne, (List.dropLast_concat_getLast hne).symm⟩
  have hzl : zs.length < 2 ^ 18 := by simp at hlen; omega
  have hz : Heaped lt fun i => zs[i]? := fun i j hp u v hu hv => by
    have h1 := (List.getElem?_eq_some_iff.mp hu).1
    have h2 := (List.getElem?_eq_some_iff.mp hv).1
    exact hh i j hp u v ((List.getElem?_append_left h1).trans hu) ((List.getElem?_append_left h2).trans hv)
  refine wpF_of (l := [some (.obj h), none, none, none]) 4 (by rfl) (by rfl) (by rfl) (by rfl) (wp_then ?_)
  repeat walk_at "w"
  refine wp_guard (isLst_of hσ) ?_
  repeat walk_at "w"
  refine wp_pop (x := em z) hσ (by simp <;> omega) (by simp) ?_
  repeat walk_at "w"
  have e : ((zs ++ [z]).map em).dropLast = zs.map em := by simp
  rw [e]
  refine wp_truthL (at_set hσ) (by simp <;> omega) ?_
  cases zs with
  | nil =>
    rw [if_neg (by simp)]
    repeat walk_at "w"
    exact ⟨z, [], rfl, rfl, .refl _, by simp, fun i j u1 u v hu => by simp at hu⟩
  | cons r zs =>
    rw [if_pos (by simp)]
    repeat walk_at "w"
    refine wp_sub_list (at_set hσ) (itemAt_nat (k := 0) (v := em r) rfl (by omega)) ?_
    repeat walk_at "w"
    refine wp_setItem (at_set hσ) (by simp <;> omega) ?_
    repeat walk_at "w"
    refine wp_liftF ?_
    have e3 : ((r :: zs).map em).set (0 : Int).toNat (em z) = (z :: zs).map em := rfl
    rw [List.set_set, e3]
    have hu : Up lt (fun i => (z :: zs)[i]?) 0 := by
      refine ⟨fun i j hp hi hj u v hu hv => ?_, fun q c hq => absurd hq.less (Nat.not_lt_zero _)⟩
      cases i with
      | zero => exact absurd rfl hi
      | succ i =>
        cases j with
        | zero => exact absurd rfl hj
        | succ j => exact hz _ _ hp u v hu hv
    have hl' : (z :: zs).length < 2 ^ 20 := by simp at hzl ⊢; omega
    refine wpF_mono (siftup_spec ho (at_set hσ) (x := z) rfl hl' hu) fun u1 σ' hh => ?_
    obtain ⟨rfl, ws, rfl, hw1, hw2⟩ := hh
    repeat walk_at "w"
    refine ⟨r, ws, rfl, by dsimp only; rw [List.set_set], ?_, fun y hy => ?_, hw2⟩
    · exact (List.Perm.cons r (hw1.trans (List.perm_append_singleton z zs).symm)).trans (.refl _)
    · have : y ∈ r :: zs ++ [z] := by
        rcases List.mem_cons.mp (hw1.mem_iff.mp hy) with rfl | h'
        · simp
        · simp [h']
      obtain ⟨i, hi⟩ := List.mem_iff_getElem?.mp this
      exact hh.root ho.ord (r := r) rfl (i + 1) i y (Nat.lt_succ_self i) hi
end
end Mine
set_option Elab.async false
set_option maxRecDepth 100000
namespace Mine
open PySem PyProof.Rows PySem.W PySem.SeqAt
local macro_rules | `(tactic| walk_at "w") => `(tactic| first
  | with_reducible refine wp_bind ?_ | ((with_reducible refine wp_getv (a := ?a) ?h ?hq); (case h => rfl)) | ((with_reducible refine wp_setv ?_ ?_); · rfl) | with_reducible refine wp_ret ?_ | with_reducible refine thenQ_next ?_ | with_reducible refine wp_then ?_
  | with_reducible refine thenQ_brk ?_ | with_reducible refine thenQ_cont ?_ | with_reducible refine thenQ_ret ?_ | with_reducible refine whileQ_next ?_ | with_reducible refine whileQ_cont ?_ | with_reducible refine whileQ_brk ?_ | with_reducible refine whileQ_ret ?_
  | with_reducible refine forQ_next ?_ | with_reducible refine forQ_cont ?_ | with_reducible refine forQ_brk ?_ | with_reducible refine forQ_ret ?_)
local macro_rules | `(tactic| walk_at "w1") => `(tactic| first
  | with_reducible refine wp_bind ?_ | ((with_reducible refine wp_getv (a := ?a) ?h ?hq); (case h => rfl)) | ((with_reducible refine wp_setv ?_ ?_); · rfl) | with_reducible refine wp_ret ?_ | with_reducible refine thenQ_next ?_)

structure TsD where
  s : Nat
  d : Nat
  m : Nat
  ep : Nat
  L : List (Int × Nat × Nat)
  np : Int → Int
  su : Int → List Int
  r : AV
  po : Int
  nf : Int
  cnt : Nat
noncomputable def TsD.np' (T : TsD) (f : Int → Int) : TsD := { T with np := f }
noncomputable def TsD.su' (T : TsD) (f : Int → List Int) : TsD := { T with su := f, cnt := T.cnt + 1 }
noncomputable def TsD.at' (T : TsD) (r : AV) (po nf : Int) : TsD := { T with r := r, po := po, nf := nf }
noncomputable def TsD.ks (T : TsD) : List Int := T.L.map (fun x => x.1)
noncomputable def TsD.es (T : TsD) : List (Int × AV) := T.L.map fun x => (x.1, .obj x.2.1)
structure TsR (σ : List AO) (T : TsD) : Prop where
  hs : σ[T.s]? = some (.inst aTS T.d)
  hd : σ[T.d]? = some (.attrs (tsA (.obj T.m) T.r T.po T.nf))
  hm : σ[T.m]? = some (.dict T.es T.ep)
  hi : ∀ x ∈ T.L, σ[x.2.1]? = some (niO x.1 (T.np x.1) x.2.2)
  hl : ∀ x ∈ T.L, σ[x.2.2]? = some (.list ((T.su x.1).map .int))
  nd : T.ks.Nodup
  ls : ∀ x ∈ T.L, ∀ y ∈ T.L, x.2.2 = y.2.2 → x.1 = y.1
  out : ∀ k, k ∉ T.ks → T.np k = 0 ∧ T.su k = []
  sz : ∀ k, (T.su k).length ≤ T.cnt
  len : T.L.length ≤ T.cnt
noncomputable def TsD.foot (T : TsD) : List Nat := T.s :: T.d :: T.m :: T.L.flatMap fun x => [x.2.1, x.2.2]
structure Frm (σ σ' : List AO) (S : List Nat) : Prop where
  len : σ.length ≤ σ'.length
  same : ∀ (i : Nat) (o : AO), i ∉ S → σ[i]? = some o → σ'[i]? = some o

section
variable {σ σ' : List AO} {T : TsD} {k : Int} {x : Int × Nat × Nat}
theorem Frm.refl (σ : List AO) (S : List Nat) : Frm σ σ S := ⟨Nat.le_refl _, fun u1 u2 u3 e => e⟩
theorem Frm.trans {σ'' : List AO} {S S' : List Nat} (x : Frm σ σ' S) (y : Frm σ' σ'' S') (h : ∀ i ∈ S', i ∈ S ∨ σ.length ≤ i) : Frm σ σ'' S :=
  ⟨Nat.le_trans x.len y.len, fun i o n e => y.same i o (fun q => (h i q).elim n fun q' => Nat.not_lt.mpr q' (lt_of_get e)) (x.same i o n e)⟩
theorem Frm.push (o : AO) (S : List Nat) : Frm σ (σ ++ [o]) S := ⟨by simp, fun u1 u2 u3 e => get_app e⟩
theorem Frm.set {i : Nat} (o : AO) {S : List Nat} (h : i ∈ S) : Frm σ (σ.set i o) S := ⟨by simp, fun j u1 n e => get_put e fun q => n (q ▸ h)⟩

theorem mem_foot (hx : x ∈ T.L) : x.2.1 ∈ T.foot ∧ x.2.2 ∈ T.foot := by
  have : ∀ y, y ∈ [x.2.1, x.2.2] → y ∈ T.foot := fun y hy => List.mem_cons_of_mem _ (List.mem_cons_of_mem _ (List.mem_cons_of_mem _ (List.mem_flatMap.mpr ⟨x, hx, hy⟩)))
  exact ⟨this _ (by simp), this _ (by simp)⟩
theorem foot_iff {i : Nat} : i ∈ T.foot ↔ i = T.s ∨ i = T.d ∨ i = T.m ∨ ∃ x ∈ T.L, i = x.2.1 ∨ i = x.2.2 := by
  unfold TsD.foot
  simp only [List.mem_cons, List.mem_flatMap, List.not_mem_nil, or_false]
theorem TsR.foot_lt (h : TsR σ T) {i : Nat} (hi : i ∈ T.foot) : i < σ.length := by
  rcases foot_iff.mp hi with rfl | rfl | rfl | ⟨x, hx, rfl | rfl⟩
  · exact lt_of_get h.hs
  · exact lt_of_get h.hd
  · exact lt_of_get h.hm
  · exact lt_of_get (h.hi x hx)
  · exact lt_of_get (h.hl x hx)
theorem TsR.keep (h : TsR σ T) (hk : ∀ i o, i ∈ T.foot → σ[i]? = some o → σ'[i]? = some o) : TsR σ' T :=
  ⟨hk _ _ (foot_iff.mpr (.inl rfl)) h.hs, hk _ _ (foot_iff.mpr (.inr (.inl rfl))) h.hd, hk _ _ (foot_iff.mpr (.inr (.inr (.inl rfl)))) h.hm, fun x hx => hk _ _ (mem_foot hx).1 (h.hi x hx), fun x hx => hk _ _ (mem_foot hx).2 (h.hl x hx), h.nd, h.ls, h.out, h.sz, h.len⟩
theorem TsR.push (h : TsR σ T) (o : AO) : TsR (σ ++ [o]) T := h.keep fun u1 u2 u3 e => get_app e
theorem TsR.put (h : TsR σ T) {i : Nat} (o : AO) (hi : i ∉ T.foot) : TsR (σ.set i o) T := h.keep fun u1 u2 hj e => get_put e fun q => hi (q ▸ hj)

theorem getD_map {f : Int × Nat × Nat → AV} : ∀ {L : List (Int × Nat × Nat)}, (L.map (fun x => x.1)).Nodup → x ∈ L → getD (L.map fun y => (y.1, f y)) x.1 = some (f x)
  | y :: r, hn, hx => by
    unfold getD
    rw [List.map_cons, List.find?_cons]
    rw [List.map_cons, List.nodup_cons] at hn
    rcases List.mem_cons.mp hx with rfl | hx
    · simp
    · have : y.1 ≠ x.1 := fun e => hn.1 (e ▸ List.mem_map_of_mem hx)
      simp only [this, decide_false]
      exact getD_map hn.2 hx
theorem getD_none {es : List (Int × AV)} (h : k ∉ es.map (fun x => x.1)) : getD es k = none := by
  unfold getD
  rw [List.find?_eq_none.mpr fun p hp => by
    have : p.1 ≠ k := fun e => h (e ▸ List.mem_map_of_mem hp)
    simpa using this]
  rfl
theorem putD_new {es : List (Int × AV)} {v : AV} (h : k ∉ es.map (fun x => x.1)) : putD es k v = es ++ [(k, v)] ∧ es.any (fun p => p.1 = k) = false := by
  have : es.any (fun p => p.1 = k) = false := by
    rw [List.any_eq_false]
    intro p hp
    have : p.1 ≠ k := fun e => h (e ▸ List.mem_map_of_mem hp)
    simpa using this
  refine ⟨?_, this⟩
  unfold putD
  rw [this]
  rfl
theorem es_keys : T.es.map (fun x => x.1) = T.ks := by unfold TsD.es TsD.ks; rw [List.map_map]; rfl
theorem mem_ks (h : k ∈ T.ks) : ∃ x ∈ T.L, x.1 = k := List.mem_map.mp h

theorem wpF_makeS {Cl : Addr} {F} {args : List AV} {kws : List (Str × AV)} {Q : AV → List AO → Prop} (h : wpF (F (.obj σ.length :: args) kws (σ ++ [.slots Cl []])) fun r σ' => r = .none ∧ Q (.obj σ.length) σ') : wpF (makeS Cl F args kws σ) Q := by
  obtain ⟨r, σ', e, rfl, hq⟩ := h
  exact ⟨_, _, by unfold makeS; rw [e], hq⟩
theorem wpF_makeF {Cl : Addr} {F} {args : List AV} {kws : List (Str × AV)} {Q : AV → List AO → Prop} (h : wpF (F (.obj (σ.length + 1) :: args) kws (σ ++ [.attrs [], .inst Cl σ.length])) fun r σ' => r = .none ∧ Q (.obj (σ.length + 1)) σ') : wpF (makeF Cl F args kws σ) Q := by
  obtain ⟨r, σ', e, rfl, hq⟩ := h
  exact ⟨_, _, by unfold makeF; rw [e], hq⟩

noncomputable def growT (T : TsD) (k : Int) (n : Nat) : TsD := { T with L := T.L ++ [(k, n, n + 1)], ep := T.ep + 1, cnt := T.cnt + 1 }
theorem node_spec {Q : AV → List AO → Prop} (hq : Q (.obj σ.length) (σ ++ [niO k 0 (σ.length + 1)] ++ [.list []])) : wpF (F_Ni [.int k] [] σ) Q := by
  refine wpF_makeS (wpF_of (l := [some (.obj σ.length), some (.int k)]) 2 (by rfl) (by rfl) (by rfl) (by rfl) (wp_then ?_))
  have h0 : (σ ++ [AO.slots aNI []])[σ.length]? = some (.slots aNI []) := get_new
  repeat walk_at "w"
  refine wp_setSlot h0 sS_node (by decide) ?_
  repeat walk_at "w"
  refine wp_setSlot (List.getElem?_set_self (by simp)) sS_np (by decide) ?_
  repeat walk_at "w"
  refine wp_newL (by decide) ?_
  repeat walk_at "w"
  refine wp_setSlot (get_app (List.getElem?_set_self (by simp))) sS_su (by decide) ?_
  repeat walk_at "w"
  refine ⟨rfl, ?_⟩
  dsimp only [retOf]
  rw [List.set_set, List.set_append_left _ _ (by simp), List.set_set, List.length_set, List.length_append, List.length_singleton]
  have : (σ ++ [AO.slots aNI []]).set σ.length (.slots aNI (putS 2 (.obj (σ.length + 1)) (putS 1 (.int 0) (putS 0 (.int k) [])))) = σ ++ [niO k 0 (σ.length + 1)] := by
    rw [List.set_append_right _ _ (Nat.le_refl _), Nat.sub_self]; rfl
  rw [this]
  exact hq

theorem gni_old {Q : AV → List AO → Prop} (h : TsR σ T) (hx : x ∈ T.L) (hq : Q (.obj x.2.1) σ) : wpF (F_Ts_get_nodeinfo [.obj T.s, .int x.1] [] σ) Q := by
  refine wpF_of (l := [some (.obj T.s), some (.int x.1), none, none]) 4 (by rfl) (by rfl) (by rfl) (by rfl) (wp_then ?_)
  repeat walk_at "w"
  refine wp_attr h.hs h.hd dA_n2i tsA_m rfl ?_
  refine wp_bind (wp_guard (isDct_of h.hm) ?_)
  repeat walk_at "w"
  refine wp_dget h.hm ?_
  rw [show getD T.es x.1 = some (.obj x.2.1) from getD_map h.nd hx]
  repeat walk_at "w"
  refine wp_is (b := false) rfl (wp_truth ?_)
  rw [if_neg (by decide)]
  repeat walk_at "w"
  exact hq
theorem gni_new {Q : AV → List AO → Prop} (h : TsR σ T) (hk : k ∉ T.ks) (hc : T.cnt < 2 ^ 19) (hq : ∀ σ', TsR σ' (growT T k σ.length) → Frm σ σ' T.foot → Q (.obj σ.length) σ') : wpF (F_Ts_get_nodeinfo [.obj T.s, .int k] [] σ) Q := by
  refine wpF_of (l := [some (.obj T.s), some (.int k), none, none]) 4 (by rfl) (by rfl) (by rfl) (by rfl) (wp_then ?_)
  repeat walk_at "w"
  refine wp_attr h.hs h.hd dA_n2i tsA_m rfl ?_
  refine wp_bind (wp_guard (isDct_of h.hm) ?_)
  repeat walk_at "w"
  refine wp_dget h.hm ?_
  rw [getD_none (es_keys ▸ hk)]
  repeat walk_at "w"
  refine wp_is (b := true) rfl (wp_truth ?_)
  rw [if_pos rfl]
  repeat walk_at "w"
  refine wp_liftF (node_spec ?_)
  have h1 := (h.push (niO k 0 (σ.length + 1))).push (.list [])
  repeat walk_at "w"
  refine wp_attr h1.hs h1.hd dA_n2i tsA_m rfl ?_
  repeat walk_at "w"
  obtain ⟨e1, e2⟩ := putD_new (v := .obj σ.length) (es_keys ▸ hk)
  refine wp_setDict h1.hm (by unfold TsD.es; rw [List.length_map]; have := h.len; omega) ?_
  rw [e1, e2, if_neg (by decide)]
  repeat walk_at "w"
  refine hq _ ?_ ?_
  · have hm := h1.hm
    have ne {i : Nat} {o : AO} (e : (σ ++ [niO k 0 (σ.length + 1)] ++ [.list []])[i]? = some o) (hn : (.dict T.es T.ep) ≠ o) : T.m ≠ i := ne_of_get hm e hn
    have gi : (σ ++ [niO k 0 (σ.length + 1)] ++ [.list []])[σ.length]? = some (niO k 0 (σ.length + 1)) := get_app get_new
    have gl : (σ ++ [niO k 0 (σ.length + 1)] ++ [.list []])[σ.length + 1]? = some (.list []) := by
      have := get_new (σ := σ ++ [niO k 0 (σ.length + 1)]) (o := .list [])
      rwa [List.length_append, List.length_singleton] at this
    obtain ⟨o1, o2⟩ := h.out k hk
    refine ⟨get_put h1.hs (ne h1.hs (by nofun)), get_put h1.hd (ne h1.hd (by nofun)), ?_, fun y hy => ?_, fun y hy => ?_, ?_, fun y hy z hz e => ?_, fun j hj => ?_, fun j => Nat.le_succ_of_le (h.sz j), ?_⟩
    · refine (List.getElem?_set_self (lt_of_get hm)).trans ?_
      show _ = some (AO.dict (List.map _ (T.L ++ [(k, σ.length, σ.length + 1)])) _)
      rw [List.map_append]; rfl
    · rcases List.mem_append.mp hy with hy | hy
      · exact get_put (h1.hi y hy) (ne (h1.hi y hy) (by nofun))
      · rw [List.mem_singleton.mp hy]
        show _ = some (niO k (T.np k) (σ.length + 1))
        rw [o1]
        exact get_put gi (ne gi (by nofun))
    · rcases List.mem_append.mp hy with hy | hy
      · exact get_put (h1.hl y hy) (ne (h1.hl y hy) (by nofun))
      · rw [List.mem_singleton.mp hy]
        show _ = some (AO.list ((T.su k).map AV.int))
        rw [o2]
        exact get_put gl (ne gl (by nofun))
    · show ((T.L ++ [(k, σ.length, σ.length + 1)]).map (fun x => x.1)).Nodup
      rw [List.map_append, List.nodup_append]
      refine ⟨h.nd, by simp, fun a ha b hb => ?_⟩
      rw [List.mem_singleton.mp hb]
      intro (e : a = k)
      exact hk (e ▸ ha)
    · have lt : ∀ w ∈ T.L, w.2.2 < σ.length := fun w hw => lt_of_get (h.hl w hw)
      rcases List.mem_append.mp hy with hy | hy <;> rcases List.mem_append.mp hz with hz | hz
      · exact h.ls y hy z hz e
      · rw [List.mem_singleton.mp hz] at e
        have := lt y hy
        dsimp only at e
        omega
      · rw [List.mem_singleton.mp hy] at e
        have := lt z hz
        dsimp only at e
        omega
      · rw [List.mem_singleton.mp hy, List.mem_singleton.mp hz]
    · exact h.out j fun q => hj (by show j ∈ (T.L ++ [(k, σ.length, σ.length + 1)]).map (fun x => x.1); rw [List.map_append]; exact List.mem_append_left _ q)
    · show (T.L ++ [(k, σ.length, σ.length + 1)]).length ≤ T.cnt + 1
      have := h.len
      rw [List.length_append]; exact Nat.add_le_add_right this 1
  · exact ⟨by simp <;> omega, fun i o n e => get_put (get_app (get_app e)) fun q => n (foot_iff.mpr (.inr (.inr (.inl q.symm))))⟩
end
end Mine
set_option Elab.async false
set_option maxRecDepth 100000
namespace Mine
open PySem PyProof.Rows PySem.W PySem.SeqAt
local macro_rules | `(tactic| walk_at "w") => `(tactic| first
  | with_reducible refine wp_bind ?_ | ((with_reducible refine wp_getv (a := ?a) ?h ?hq); (case h => rfl)) | ((with_reducible refine wp_setv ?_ ?_); · rfl) | with_reducible refine wp_ret ?_ | with_reducible refine thenQ_next ?_ | with_reducible refine wp_then ?_
  | with_reducible refine thenQ_brk ?_ | with_reducible refine thenQ_cont ?_ | with_reducible refine thenQ_ret ?_ | with_reducible refine whileQ_next ?_ | with_reducible refine whileQ_cont ?_ | with_reducible refine whileQ_brk ?_ | with_reducible refine whileQ_ret ?_
  | with_reducible refine forQ_next ?_ | with_reducible refine forQ_cont ?_ | with_reducible refine forQ_brk ?_ | with_reducible refine forQ_ret ?_)

noncomputable def nodeAdd (ks : List Int) (k : Int) : List Int := if k ∈ ks then ks else ks ++ [k]
noncomputable def setF (np : Int → Int) (k v : Int) : Int → Int := fun j => if j = k then v else np j
noncomputable def addSu (k : Int) (su : Int → List Int) (p : Int) : Int → List Int := fun j => if j = p then su j ++ [k] else su j
structure Grows (σ : List AO) (T T' : TsD) : Prop where
  s : T'.s = T.s
  d : T'.d = T.d
  m : T'.m = T.m
  r : T'.r = T.r
  po : T'.po = T.po
  nf : T'.nf = T.nf
  foot : ∀ i ∈ T'.foot, i ∈ T.foot ∨ σ.length ≤ i
section
variable {σ σ' : List AO} {T T' : TsD} {k : Int} {x : Int × Nat × Nat}
theorem Grows.refl : Grows σ T T := ⟨rfl, rfl, rfl, rfl, rfl, rfl, fun u1 h => .inl h⟩
theorem Grows.trans {T'' : TsD} (x : Grows σ T T') (f : Frm σ σ' T.foot) (y : Grows σ' T' T'') : Grows σ T T'' :=
  ⟨y.s.trans x.s, y.d.trans x.d, y.m.trans x.m, y.r.trans x.r, y.po.trans x.po, y.nf.trans x.nf, fun i hi => (y.foot i hi).elim (x.foot i) fun q => .inr (Nat.le_trans f.len q)⟩
theorem Frm.go {σ'' : List AO} (f : Frm σ σ' T.foot) (x : Grows σ T T') (f' : Frm σ' σ'' T'.foot) : Frm σ σ'' T.foot := f.trans f' x.foot

theorem niO_key {a b a' b' : Int} {c c' : Nat} (h : niO a b c = niO a' b' c') : a = a' := by unfold niO at h; cases h; rfl
theorem TsR.uniq (h : TsR σ T) {y : Int × Nat × Nat} (hx : x ∈ T.L) (hy : y ∈ T.L) (e : x.1 = y.1) : x = y := by
  obtain ⟨a, b, c⟩ := x
  obtain ⟨a', b', c'⟩ := y
  obtain rfl : a = a' := e
  have h1 := getD_map (f := fun z => AV.tup [.obj z.2.1, .obj z.2.2]) h.nd hx
  have h2 := getD_map (f := fun z => AV.tup [.obj z.2.1, .obj z.2.2]) h.nd hy
  dsimp only at h1 h2
  rw [h1] at h2
  cases h2
  rfl
theorem key_mem (hx : x ∈ T.L) : x.1 ∈ T.ks := List.mem_map_of_mem hx
theorem TsR.setNp (h : TsR σ T) (hx : x ∈ T.L) (v : Int) : TsR (σ.set x.2.1 (niO x.1 v x.2.2)) (T.np' (setF T.np x.1 v)) := by
  have hi := h.hi x hx
  have ne {i : Nat} {o : AO} (e : σ[i]? = some o) (hn : niO x.1 (T.np x.1) x.2.2 ≠ o) : x.2.1 ≠ i := ne_of_get hi e hn
  refine ⟨get_put h.hs (ne h.hs (by nofun)), get_put h.hd (ne h.hd (by nofun)), get_put h.hm (ne h.hm (by nofun)), fun y hy => ?_, fun y hy => get_put (h.hl y hy) (ne (h.hl y hy) (by nofun)), h.nd, h.ls, fun j hj => ?_, h.sz, h.len⟩
  · by_cases e : y.1 = x.1
    · have := h.uniq hy hx e
      subst this
      refine (List.getElem?_set_self (lt_of_get hi)).trans ?_
      show _ = some (niO y.1 (setF T.np y.1 v y.1) y.2.2)
      unfold setF; rw [if_pos rfl]
    · refine (get_put (h.hi y hy) (ne (h.hi y hy) fun q => e (niO_key q).symm)).trans ?_
      show _ = some (niO y.1 (setF T.np x.1 v y.1) y.2.2)
      unfold setF; rw [if_neg e]
  · refine ⟨?_, (h.out j hj).2⟩
    show setF T.np x.1 v j = 0
    unfold setF
    rw [if_neg (fun (e : j = x.1) => hj (e.symm ▸ key_mem hx))]
    exact (h.out j hj).1
theorem TsR.app (h : TsR σ T) (hx : x ∈ T.L) (k : Int) : TsR (σ.set x.2.2 (.list ((T.su x.1).map .int ++ [.int k]))) (T.su' (addSu k T.su x.1)) := by
  have hl := h.hl x hx
  have ne {i : Nat} {o : AO} (e : σ[i]? = some o) (hn : AO.list ((T.su x.1).map .int) ≠ o) : x.2.2 ≠ i := ne_of_get hl e hn
  refine ⟨get_put h.hs (ne h.hs (by nofun)), get_put h.hd (ne h.hd (by nofun)), get_put h.hm (ne h.hm (by nofun)), fun y hy => get_put (h.hi y hy) (ne (h.hi y hy) (by nofun)), fun y hy => ?_, h.nd, h.ls, fun j hj => ⟨(h.out j hj).1, ?_⟩, fun j => ?_, Nat.le_succ_of_le h.len⟩
  · by_cases e : y.1 = x.1
    · have := h.uniq hy hx e
      subst this
      refine (List.getElem?_set_self (lt_of_get hl)).trans ?_
      show _ = some (AO.list ((addSu k T.su y.1 y.1).map .int))
      unfold addSu; rw [if_pos rfl, List.map_append]; rfl
    · refine (get_put (h.hl y hy) fun q => e (h.ls x hx y hy q).symm).trans ?_
      show _ = some (AO.list ((addSu k T.su x.1 y.1).map .int))
      unfold addSu; rw [if_neg e]
  · show addSu k T.su x.1 j = []
    unfold addSu
    rw [if_neg (fun (e : j = x.1) => hj (e.symm ▸ key_mem hx))]
    exact (h.out j hj).2
  · show (addSu k T.su x.1 j).length ≤ T.cnt + 1
    have := h.sz j
    unfold addSu
    split
    · rw [List.length_append]; exact Nat.add_le_add_right this 1
    · exact Nat.le_succ_of_le this

structure NodeOf (σ σ' : List AO) (T T' : TsD) (k : Int) (x : Int × Nat × Nat) : Prop where
  mem : x ∈ T'.L
  key : x.1 = k
  rep : TsR σ' T'
  frm : Frm σ σ' T.foot
  grw : Grows σ T T'
  ks : T'.ks = nodeAdd T.ks k
  np : T'.np = T.np
  su : T'.su = T.su
  cnt : T'.cnt ≤ T.cnt + 1
theorem gni_spec (h : TsR σ T) (hc : T.cnt < 2 ^ 19) : wpF (F_Ts_get_nodeinfo [.obj T.s, .int k] [] σ) fun r σ' => ∃ T' x, r = .obj x.2.1 ∧ NodeOf σ σ' T T' k x := by
  by_cases hk : k ∈ T.ks
  · obtain ⟨x, hx, rfl⟩ := mem_ks hk
    exact gni_old h hx ⟨T, x, rfl, hx, rfl, h, .refl _ _, .refl, by unfold nodeAdd; rw [if_pos hk], rfl, rfl, Nat.le_succ _⟩
  · refine gni_new h hk hc fun σ' h' f => ⟨_, (k, σ.length, σ.length + 1), rfl, ?_, rfl, h', f, ⟨rfl, rfl, rfl, rfl, rfl, rfl, fun i hi => ?_⟩, ?_, rfl, rfl, Nat.le_refl _⟩
    · exact List.mem_append_right _ (List.mem_singleton.mpr rfl)
    · rcases foot_iff.mp hi with e | e | e | ⟨y, hy, e⟩
      · exact .inl (foot_iff.mpr (.inl e))
      · exact .inl (foot_iff.mpr (.inr (.inl e)))
      · exact .inl (foot_iff.mpr (.inr (.inr (.inl e))))
      · rcases List.mem_append.mp hy with hy | hy
        · exact .inl (foot_iff.mpr (.inr (.inr (.inr ⟨y, hy, e⟩))))
        · rw [List.mem_singleton.mp hy] at e
          rcases e with e | e
          · exact .inr (Nat.le_of_eq e.symm)
          · exact .inr (Nat.le_trans (Nat.le_succ _) (Nat.le_of_eq e.symm))
    · unfold nodeAdd; rw [if_neg hk]; unfold TsD.ks growT; rw [List.map_append]; rfl

theorem add_spec {ps : List Int} (h : TsR σ T) (hr : T.r = .none) (hc : T.cnt + 2 * ps.length + 2 < 2 ^ 19) : wpF (F_Ts_add (.obj T.s :: .int k :: ps.map .int) [] σ) fun r σ' => r = .none ∧ ∃ T', TsR σ' T' ∧ Frm σ σ' T.foot ∧ Grows σ T T' ∧
    T'.ks = ps.foldl nodeAdd (nodeAdd T.ks k) ∧ T'.np = setF T.np k (T.np k + ps.length) ∧ T'.su = ps.foldl (addSu k) T.su ∧ T'.cnt ≤ T.cnt + 2 * ps.length + 1 := by
  refine wpF_of (l := [some (.obj T.s), some (.int k), some (.tup (ps.map .int)), none, none, none, none, none]) 8 (by show (if _ then _ else _) = _; rw [if_pos (by simp; omega)]) (by rfl) (by rfl) (by rfl) (wp_then ?_)
  repeat walk_at "w"
  refine wp_attr h.hs h.hd dA_rdy tsA_r (by rw [hr]; rfl) ?_
  rw [hr]
  repeat walk_at "w"
  refine wp_isNot (b := true) rfl (wp_truth ?_)
  rw [if_neg (by decide)]
  repeat walk_at "w"
  refine wp_guard (isInst_of h.hs h.hd tsA_gni) ?_
  repeat walk_at "w"
  refine wp_liftF (wpF_mono (gni_spec h (by omega)) ?_)
  rintro _ σ1 ⟨T1, x, rfl, N⟩
  have h1 := N.rep
  have hx := N.mem
  repeat walk_at "w"
  refine wp_slot (h1.hi x hx) sA_np rfl rfl ?_
  repeat walk_at "w"
  refine wp_lenTup (by simp; omega) ?_
  refine wp_bind (wp_augAdd ?_)
  repeat walk_at "w"
  refine wp_setSlot (h1.hi x hx) sS_np (by decide) ?_
  have h2 := h1.setNp hx (T1.np x.1 + ps.length)
  rw [List.length_map]
  have e2 : AO.slots aNI (putS 1 (.int (T1.np x.1 + ps.length)) [some (.int x.1), some (.int (T1.np x.1)), some (.obj x.2.2)]) = niO x.1 (T1.np x.1 + ps.length) x.2.2 := rfl
  rw [e2]
  repeat walk_at "w"
  refine wp_srcT ?_
  have f2 : Frm σ (σ1.set x.2.1 (niO x.1 (T1.np x.1 + ps.length) x.2.2)) T.foot := N.frm.go N.grw (.set _ (mem_foot hx).1)
  refine wp_forL (fun d r st => ∃ (p1 p2 : List Int) (T2 : TsD) (σ2 : List AO) (l4 l5 : Option AV), d = p1.map .int ∧ r = p2.map .int ∧ p1 ++ p2 = ps ∧ st = ⟨th [some (.obj T.s), some (.int k), some (.tup (ps.map .int)), some (.obj x.2.1), l4, l5, none, none], σ2⟩ ∧
    TsR σ2 T2 ∧ Frm σ σ2 T.foot ∧ Grows σ T T2 ∧ T2.ks = p1.foldl nodeAdd (nodeAdd T.ks k) ∧ T2.np = setF T.np k (T.np k + ps.length) ∧ T2.su = p1.foldl (addSu k) T.su ∧ T2.cnt ≤ T.cnt + 2 * p1.length + 1)
    ⟨[], ps, _, _, none, none, rfl, rfl, rfl, rfl, h2, f2, ⟨N.grw.s, N.grw.d, N.grw.m, N.grw.r, N.grw.po, N.grw.nf, N.grw.foot⟩, N.ks, by show setF T1.np x.1 _ = _; rw [N.np, N.key], N.su, N.cnt⟩ ?_ ?_
  · rintro d a r _ hd ⟨p1, p2, T2, σ2, l4, l5, rfl, hr2, hp, rfl, R2, F2, G2, k2, n2, s2, c2⟩
    cases p2 with
    | nil => cases hr2
    | cons p p2 =>
      rw [List.map_cons, List.cons.injEq] at hr2
      obtain ⟨rfl, rfl⟩ := hr2
      have hlen : ps.length = p1.length + (p2.length + 1) := by rw [← hp]; simp
      refine ⟨gOk_none, ?_⟩
      repeat walk_at "w"
      rw [← G2.s]
      refine wp_guard (isInst_of R2.hs R2.hd tsA_gni) ?_
      repeat walk_at "w"
      refine wp_liftF (wpF_mono (gni_spec R2 (by omega)) ?_)
      rintro _ σ3 ⟨T3, y, rfl, M⟩
      have h3 := M.rep
      repeat walk_at "w"
      refine wp_slot (h3.hi y M.mem) sA_su rfl rfl ?_
      refine wp_bind (wp_guard (isLst_of (h3.hl y M.mem)) ?_)
      repeat walk_at "w"
      refine wp_append (h3.hl y M.mem) (by rw [List.length_map]; have := h3.sz y.1; have := M.cnt; omega) ?_
      repeat walk_at "w"
      refine ⟨p1 ++ [p], p2, _, _, some (.int p), some (.obj y.2.1), by rw [List.map_append]; rfl, rfl, by rw [← hp, List.append_assoc]; rfl, by rw [G2.s]; rfl, h3.app M.mem k, (F2.go G2 M.frm).trans (.set _ (mem_foot M.mem).2) fun i hi => ?_, ?_, ?_, ?_, ?_, ?_⟩
      · exact (G2.trans F2 M.grw).foot i hi
      · have G3 := G2.trans F2 M.grw
        exact ⟨G3.s, G3.d, G3.m, G3.r, G3.po, G3.nf, G3.foot⟩
      · rw [List.foldl_append, ← k2]; exact M.ks
      · exact M.np.trans n2
      · rw [List.foldl_append, ← s2, ← M.su, ← M.key]; rfl
      · have := M.cnt
        show T3.cnt + 1 ≤ _
        rw [List.length_append, List.length_singleton]; omega
  · rintro _ ⟨p1, p2, T2, σ2, l4, l5, hd, hr2, hp, rfl, R2, F2, G2, k2, n2, s2, c2⟩
    have : p2 = [] := by cases p2 with | nil => rfl | cons _ _ => cases hr2
    subst this
    rw [List.append_nil] at hp
    subst hp
    refine ⟨gOk_none, ?_⟩
    repeat walk_at "w"
    exact ⟨rfl, T2, R2, F2, G2, k2, n2, s2, c2⟩
end
end Mine
set_option Elab.async false
set_option maxRecDepth 100000
namespace Mine
open PySem PyProof.Rows PySem.W PySem.SeqAt
local macro_rules | `(tactic| walk_at "w") => `(tactic| first
  | with_reducible refine wp_bind ?_ | ((with_reducible refine wp_getv (a := ?a) ?h ?hq); (case h => rfl)) | ((with_reducible refine wp_setv ?_ ?_); · rfl) | with_reducible refine wp_ret ?_ | with_reducible refine thenQ_next ?_ | with_reducible refine wp_then ?_
  | with_reducible refine thenQ_brk ?_ | with_reducible refine thenQ_cont ?_ | with_reducible refine thenQ_ret ?_ | with_reducible refine whileQ_next ?_ | with_reducible refine whileQ_cont ?_ | with_reducible refine whileQ_brk ?_ | with_reducible refine whileQ_ret ?_
  | with_reducible refine forQ_next ?_ | with_reducible refine forQ_cont ?_ | with_reducible refine forQ_brk ?_ | with_reducible refine forQ_ret ?_)

structure RdyR (σ : List AO) (T : TsD) (r : Nat) (rs : List Int) : Prop where
  at_ : T.r = .obj r
  list : σ[r]? = some (.list (rs.map .int))
  ne : ∀ x ∈ T.L, x.2.2 ≠ r
noncomputable def relax1 (st : (Int → Int) × List Int) (s : Int) : (Int → Int) × List Int := (setF st.1 s (st.1 s - 1), if st.1 s - 1 = 0 then st.2 ++ [s] else st.2)
noncomputable def done1 (su : Int → List Int) (st : (Int → Int) × List Int) (k : Int) : (Int → Int) × List Int := (su k).foldl relax1 (setF st.1 k (-2), st.2)
section
variable {σ σ' : List AO} {T T' : TsD} {k : Int} {x : Int × Nat × Nat} {r : Nat} {rs : List Int}
theorem RdyR.look (hr : RdyR σ T r rs) {m : AV} {po nf : Int} : (tsA m T.r po nf).lookup (S "_ready_nodes") = some (.obj r) := by rw [hr.at_]; exact tsA_r
theorem Frm.mono {S S' : List Nat} (f : Frm σ σ' S) (h : ∀ i ∈ S, i ∈ S') : Frm σ σ' S' := ⟨f.len, fun i o n e => f.same i o (fun q => n (h i q)) e⟩
theorem RdyR.notFoot (h : TsR σ T) (hr : RdyR σ T r rs) : r ∉ T.foot := fun q => by
  rcases foot_iff.mp q with e | e | e | ⟨x, hx, e | e⟩
  · exact absurd (e ▸ hr.list) (by rw [h.hs]; nofun)
  · exact absurd (e ▸ hr.list) (by rw [h.hd]; nofun)
  · exact absurd (e ▸ hr.list) (by rw [h.hm]; nofun)
  · exact absurd (e ▸ hr.list) (by rw [h.hi x hx]; nofun)
  · exact hr.ne x hx e.symm
theorem RdyR.put (hr : RdyR σ T r rs) {i : Nat} {o o' : AO} (e : σ[i]? = some o) (hn : o ≠ .list (rs.map .int)) : RdyR (σ.set i o') T r rs := ⟨hr.at_, get_put hr.list (ne_of_get e hr.list hn), hr.ne⟩
theorem RdyR.same (hr : RdyR σ T r rs) (e : T'.r = T.r) (eL : T'.L = T.L) : RdyR σ T' r rs := ⟨e.trans hr.at_, hr.list, eL ▸ hr.ne⟩
theorem TsR.setA (h : TsR σ T) (r : AV) (po nf : Int) : TsR (σ.set T.d (.attrs (tsA (.obj T.m) r po nf))) (T.at' r po nf) := by
  have hd := h.hd
  have ne {i : Nat} {o : AO} (e : σ[i]? = some o) (hn : AO.attrs (tsA (.obj T.m) T.r T.po T.nf) ≠ o) : T.d ≠ i := ne_of_get hd e hn
  exact ⟨get_put h.hs (ne h.hs (by nofun)), List.getElem?_set_self (lt_of_get hd), get_put h.hm (ne h.hm (by nofun)), fun y hy => get_put (h.hi y hy) (ne (h.hi y hy) (by nofun)), fun y hy => get_put (h.hl y hy) (ne (h.hl y hy) (by nofun)), h.nd, h.ls, h.out, h.sz, h.len⟩

theorem get_ready_spec (h : TsR σ T) (hr : RdyR σ T r rs) (hk : ∀ k ∈ rs, k ∈ T.ks) (hl : rs.length < 2 ^ 20) : wpF (F_Ts_get_ready [.obj T.s] [] σ) fun v σ' => v = .tup (rs.map .int) ∧
    TsR σ' ((T.np' (rs.foldl (fun np k => setF np k (-1)) T.np)).at' T.r (T.po + rs.length) T.nf) ∧ RdyR σ' ((T.np' (rs.foldl (fun np k => setF np k (-1)) T.np)).at' T.r (T.po + rs.length) T.nf) r [] ∧ Frm σ σ' (r :: T.foot) := by
  refine wpF_of (l := [some (.obj T.s), none, none, none, none, none, none, none]) 8 (by rfl) (by rfl) (by rfl) (by rfl) (wp_then ?_)
  repeat walk_at "w"
  refine wp_attr h.hs h.hd dA_rdy hr.look rfl ?_
  repeat walk_at "w"
  refine wp_is (b := false) rfl (wp_truth ?_)
  rw [if_neg (by decide)]
  repeat walk_at "w"
  refine wp_attr h.hs h.hd dA_rdy hr.look rfl ?_
  repeat walk_at "w"
  refine wp_tupleL hr.list (by rw [List.length_map]; exact hl) ?_
  repeat walk_at "w"
  refine wp_attr h.hs h.hd dA_n2i tsA_m rfl ?_
  repeat walk_at "w"
  refine wp_srcT ?_
  refine wp_forL (fun d q st => ∃ (p1 p2 : List Int) (σ2 : List AO) (l3 : Option AV), d = p1.map .int ∧ q = p2.map .int ∧ p1 ++ p2 = rs ∧ st = ⟨th [some (.obj T.s), some (.tup (rs.map .int)), some (.obj T.m), l3, none, none, none, none], σ2⟩ ∧
    TsR σ2 (T.np' (p1.foldl (fun np k => setF np k (-1)) T.np)) ∧ RdyR σ2 T r rs ∧ Frm σ σ2 T.foot) ⟨[], rs, σ, none, rfl, rfl, rfl, rfl, h, hr, .refl _ _⟩ ?_ ?_
  · rintro d a q _ hd ⟨p1, p2, σ2, l3, rfl, hr2, hp, rfl, R2, Y2, F2⟩
    cases p2 with
    | nil => cases hr2
    | cons p p2 =>
      rw [List.map_cons, List.cons.injEq] at hr2
      obtain ⟨rfl, rfl⟩ := hr2
      obtain ⟨x, hx, hxp⟩ := mem_ks (hk p (by rw [← hp]; simp))
      refine ⟨gOk_none, ?_⟩
      repeat walk_at "w"
      refine wp_sub_dict R2.hm (hxp ▸ getD_map R2.nd hx) ?_
      refine wp_setSlot (R2.hi x hx) sS_np (by decide) ?_
      repeat walk_at "w"
      refine ⟨p1 ++ [p], p2, _, some (.int p), by rw [List.map_append]; rfl, rfl, by rw [← hp, List.append_assoc]; rfl, rfl, ?_, Y2.put (R2.hi x hx) (by nofun), F2.trans (.set _ (mem_foot hx).1) fun i hi => .inl hi⟩
      have := R2.setNp hx (-1)
      rw [List.foldl_append]
      show TsR _ (T.np' (setF _ p (-1)))
      rw [← hxp]
      exact this
  · rintro _ ⟨p1, p2, σ2, l3, hd, hr2, hp, rfl, R2, Y2, F2⟩
    have : p2 = [] := by cases p2 with | nil => rfl | cons _ _ => cases hr2
    subst this
    rw [List.append_nil] at hp
    subst hp
    refine ⟨gOk_none, ?_⟩
    repeat walk_at "w"
    refine wp_attr R2.hs R2.hd dA_rdy hr.look rfl ?_
    refine wp_bind (wp_guard (isLst_of Y2.list) ?_)
    repeat walk_at "w"
    refine wp_clear Y2.list (by rw [List.length_map]; exact hl) ?_
    have hnf := Y2.same (T' := (T.np' (p1.foldl (fun np k => setF np k (-1)) T.np))) rfl rfl |>.notFoot R2
    have R3 := R2.put (.list []) hnf
    repeat walk_at "w"
    refine wp_attr R3.hs R3.hd dA_po tsA_po rfl ?_
    repeat walk_at "w"
    refine wp_lenTup (by rw [List.length_map]; omega) ?_
    refine wp_bind (wp_augAdd ?_)
    repeat walk_at "w"
    refine wp_setAttr R3.hs R3.hd dS_po tsA_len ?_
    rw [tsA_put_po, List.length_map]
    repeat walk_at "w"
    refine ⟨rfl, R3.setA T.r (T.po + p1.length) T.nf, ⟨hr.at_, ?_, hr.ne⟩, ?_⟩
    · have h1 : (σ2.set r (.list []))[r]? = some (.list []) := at_set Y2.list
      exact get_put h1 (ne_of_get R3.hd h1 (by nofun))
    · refine ((F2.mono fun i hi => List.mem_cons_of_mem _ hi).trans (.set _ (List.mem_cons_self (l := T.foot))) fun i hi => .inl hi).trans (.set _ (List.mem_cons_of_mem r (foot_iff.mpr (.inr (.inl rfl))))) fun i hi => .inl hi

noncomputable def TsD.run (T : TsD) (f : Int → Int) (nf : Int) : TsD := (T.np' f).at' T.r T.po nf
inductive DoneI (σ : List AO) (T : TsD) (r : Nat) (rs ns : List Int) (d q : List AV) (st : St) : Prop
  | mk (p1 p2 : List Int) (σ2 : List AO) (l3 l4 l5 l6 l7 : Option AV) (e1 : d = p1.map .int) (e2 : q = p2.map .int) (e3 : p1 ++ p2 = ns) (e4 : st = ⟨th [some (.obj T.s), some (.tup (ns.map .int)), some (.obj T.m), l3, l4, l5, l6, l7, none, none, none], σ2⟩)
    (h1 : TsR σ2 (T.run (p1.foldl (done1 T.su) (T.np, rs)).1 (T.nf + p1.length))) (h2 : RdyR σ2 T r (p1.foldl (done1 T.su) (T.np, rs)).2) (h3 : Frm σ σ2 (r :: T.foot)) (h4 : (p1.foldl (done1 T.su) (T.np, rs)).2.length ≤ rs.length + p1.length * T.cnt) : DoneI σ T r rs ns d q st
inductive RelI (σ : List AO) (T : TsD) (r : Nat) (ns : List Int) (p : Int) (xo : Nat) (f0 : Int → Int) (l0 : List Int) (nf : Int) (d q : List AV) (st : St) : Prop
  | mk (q1 q2 : List Int) (σ4 : List AO) (l6 l7 : Option AV) (e1 : d = q1.map .int) (e2 : q = q2.map .int) (e3 : q1 ++ q2 = T.su p) (e4 : st = ⟨th [some (.obj T.s), some (.tup (ns.map .int)), some (.obj T.m), some (.int p), some (.obj xo), some (.int (-1)), l6, l7, none, none, none], σ4⟩)
    (h1 : TsR σ4 (T.run (q1.foldl relax1 (f0, l0)).1 nf)) (h2 : RdyR σ4 T r (q1.foldl relax1 (f0, l0)).2) (h3 : Frm σ σ4 (r :: T.foot)) (h4 : (q1.foldl relax1 (f0, l0)).2.length ≤ l0.length + q1.length) : RelI σ T r ns p xo f0 l0 nf d q st
theorem done_spec {ns : List Int} (h : TsR σ T) (hr : RdyR σ T r rs) (hk : ∀ k ∈ ns, k ∈ T.ks) (hs : ∀ k ∈ ns, ∀ s ∈ T.su k, s ∈ T.ks) (hnp : ∀ p1 k p2, p1 ++ k :: p2 = ns → (p1.foldl (done1 T.su) (T.np, rs)).1 k = -1) (hl : rs.length + ns.length * T.cnt < 2 ^ 19) (hn : ns.length < 2 ^ 20) :
    wpF (F_Ts_done (.obj T.s :: ns.map .int) [] σ) fun v σ' => v = .none ∧ TsR σ' (T.run (ns.foldl (done1 T.su) (T.np, rs)).1 (T.nf + ns.length)) ∧ RdyR σ' T r (ns.foldl (done1 T.su) (T.np, rs)).2 ∧ Frm σ σ' (r :: T.foot) := by
  refine wpF_of (l := [some (.obj T.s), some (.tup (ns.map .int)), none, none, none, none, none, none, none, none, none]) 11 (by show (if _ then _ else _) = _; rw [if_pos (by rw [List.length_map]; exact hn)]) (by rfl) (by rfl) (by rfl) (wp_then ?_)
  repeat walk_at "w"
  refine wp_attr h.hs h.hd dA_rdy hr.look rfl ?_
  repeat walk_at "w"
  refine wp_is (b := false) rfl (wp_truth ?_)
  rw [if_neg (by decide)]
  repeat walk_at "w"
  refine wp_attr h.hs h.hd dA_n2i tsA_m rfl ?_
  repeat walk_at "w"
  refine wp_srcT ?_
  refine wp_forL (DoneI σ T r rs ns)
    ⟨[], ns, σ, none, none, none, none, none, rfl, rfl, rfl, rfl, ?_, hr, .refl _ _, by simp⟩ ?_ ?_
  · show TsR σ (T.run T.np (T.nf + 0))
    rw [Int.add_zero]
    exact h
  · rintro d a q _ hd ⟨p1, p2, σ2, l3, l4, l5, l6, l7, rfl, hr2, hp, rfl, R2, Y2, F2, B2⟩
    cases p2 with
    | nil => cases hr2
    | cons p p2 =>
      rw [List.map_cons, List.cons.injEq] at hr2
      obtain ⟨rfl, rfl⟩ := hr2
      have hpn : p ∈ ns := by rw [← hp]; simp
      obtain ⟨x, hx, hxp⟩ := mem_ks (hk p hpn)
      have hnp2 := hnp p1 p p2 hp
      generalize hst : p1.foldl (done1 T.su) (T.np, rs) = s2 at *
      have hlen : ns.length = p1.length + (p2.length + 1) := by rw [← hp]; simp
      have hcnt : p1.length * T.cnt + T.cnt ≤ ns.length * T.cnt := by rw [hlen, ← Nat.succ_mul]; exact Nat.mul_le_mul_right _ (by omega)
      refine ⟨gOk_none, ?_⟩
      repeat walk_at "w"
      refine wp_guard (isDct_of R2.hm) ?_
      repeat walk_at "w"
      refine wp_dget R2.hm ?_
      rw [show getD (T.run s2.1 (T.nf + p1.length)).es p = some (.obj x.2.1) from hxp ▸ getD_map R2.nd hx]
      repeat walk_at "w"
      refine wp_is (b := false) rfl (wp_truth ?_)
      rw [if_neg (by decide)]
      repeat walk_at "w"
      refine wp_slot (R2.hi x hx) sA_np rfl rfl ?_
      repeat walk_at "w"
      refine wp_ne ?_
      rw [show (T.run s2.1 (T.nf + p1.length)).np x.1 = -1 from hxp ▸ hnp2]
      refine wp_truth ?_
      rw [if_neg (by decide)]
      repeat walk_at "w"
      refine wp_setSlot (R2.hi x hx) sS_np (by decide) ?_
      have R3 : TsR (σ2.set x.2.1 (niO x.1 (-2) x.2.2)) (T.run (setF s2.1 p (-2)) (T.nf + p1.length)) := hxp ▸ R2.setNp hx (-2)
      have Y3 := Y2.put (o' := niO x.1 (-2) x.2.2) (R2.hi x hx) (by nofun)
      have F3 : Frm σ (σ2.set x.2.1 (niO x.1 (-2) x.2.2)) (r :: T.foot) := F2.trans (.set _ (List.mem_cons_of_mem r (mem_foot hx).1)) fun i hi => .inl hi
      rw [show AO.slots aNI (putS 1 (.int (-2)) [some (.int x.1), some (.int ((T.run s2.1 (T.nf + p1.length)).np x.1)), some (.obj x.2.2)]) = niO x.1 (-2) x.2.2 from rfl]
      repeat walk_at "w"
      refine wp_slot (R3.hi x hx) sA_su rfl rfl ?_
      refine wp_srcL (R3.hl x hx) ?_
      refine wp_forL (RelI σ T r ns p x.2.1 (setF s2.1 p (-2)) s2.2 (T.nf + p1.length))
        ⟨[], T.su p, _, l6, l7, rfl, hxp ▸ (rfl : (T.su x.1).map AV.int = _), rfl, rfl, R3, Y3, F3, Nat.le_refl _⟩ ?_ ?_
      · rintro d a q _ hd ⟨q1, q2, σ4, l6, l7, rfl, hq2, hq, rfl, R4, Y4, F4, B4⟩
        cases q2 with
        | nil => cases hq2
        | cons z q2 =>
          rw [List.map_cons, List.cons.injEq] at hq2
          obtain ⟨rfl, rfl⟩ := hq2
          have hz : z ∈ T.su p := by rw [← hq]; simp
          have hsz : (T.su p).length ≤ T.cnt := h.sz p
          have hql : (T.su p).length = q1.length + (q2.length + 1) := by rw [← hq]; simp
          obtain ⟨y, hy, hyz⟩ := mem_ks (hs p hpn z hz)
          generalize hst4 : q1.foldl relax1 (setF s2.1 p (-2), s2.2) = s4 at *
          refine ⟨gOk_of (R4.hl x hx), ?_⟩
          repeat walk_at "w"
          refine wp_sub_dict R4.hm (hyz ▸ getD_map R4.nd hy) ?_
          repeat walk_at "w"
          refine wp_slot (R4.hi y hy) sA_np rfl rfl ?_
          repeat walk_at "w"
          refine wp_augSub ?_
          repeat walk_at "w"
          refine wp_setSlot (R4.hi y hy) sS_np (by decide) ?_
          rw [show AO.slots aNI (putS 1 (.int ((T.run s4.1 (T.nf + p1.length)).np y.1 - 1)) [some (.int y.1), some (.int ((T.run s4.1 (T.nf + p1.length)).np y.1)), some (.obj y.2.2)]) = niO y.1 (s4.1 z - 1) y.2.2 from by rw [← hyz]; rfl]
          have R5 : TsR (σ4.set y.2.1 (niO y.1 (s4.1 z - 1) y.2.2)) (T.run (setF s4.1 z (s4.1 z - 1)) (T.nf + p1.length)) := hyz ▸ R4.setNp hy (s4.1 y.1 - 1)
          have Y5 := Y4.put (o' := niO y.1 (s4.1 z - 1) y.2.2) (R4.hi y hy) (by nofun)
          have F5 : Frm σ (σ4.set y.2.1 (niO y.1 (s4.1 z - 1) y.2.2)) (r :: T.foot) := F4.trans (.set _ (List.mem_cons_of_mem r (mem_foot hy).1)) fun i hi => .inl hi
          repeat walk_at "w"
          refine wp_slot (R5.hi y hy) sA_np rfl rfl ?_
          repeat walk_at "w"
          refine wp_eq (wp_truth ?_)
          rw [show (T.run (setF s4.1 z (s4.1 z - 1)) (T.nf + p1.length)).np y.1 = s4.1 z - 1 from by rw [hyz]; show setF s4.1 z _ z = _; unfold setF; rw [if_pos rfl]]
          by_cases h0 : s4.1 z - 1 = 0
          · rw [if_pos (by rw [h0]; rfl)]
            repeat walk_at "w"
            refine wp_attr R5.hs R5.hd dA_rdy hr.look rfl ?_
            refine wp_bind (wp_guard (isLst_of Y5.list) ?_)
            repeat walk_at "w"
            refine wp_append Y5.list (by rw [List.length_map]; omega) ?_
            repeat walk_at "w"
            have hnf : r ∉ (T.run (setF s4.1 z (s4.1 z - 1)) (T.nf + p1.length)).foot := show r ∉ T.foot from hr.notFoot h
            refine ⟨q1 ++ [z], q2, _, some (.int z), some (.obj y.2.1), by rw [List.map_append]; rfl, rfl, by rw [← hq, List.append_assoc]; rfl, rfl, ?_, ⟨hr.at_, ?_, hr.ne⟩, F5.trans (.set _ (List.mem_cons_self (l := T.foot))) fun i hi => .inl hi, ?_⟩
            · rw [List.foldl_append, hst4]
              exact R5.put _ hnf
            · rw [List.foldl_append, hst4]
              show _ = some (AO.list ((relax1 s4 z).2.map .int))
              unfold relax1
              rw [if_pos h0, List.map_append]
              exact at_set Y5.list
            · rw [List.foldl_append, hst4]
              show (relax1 s4 z).2.length ≤ _
              unfold relax1
              rw [if_pos h0, List.length_append, List.length_append, List.length_singleton]
              omega
          · rw [if_neg (by simpa using h0)]
            repeat walk_at "w"
            refine ⟨q1 ++ [z], q2, _, some (.int z), some (.obj y.2.1), by rw [List.map_append]; rfl, rfl, by rw [← hq, List.append_assoc]; rfl, rfl, ?_, ?_, F5, ?_⟩
            · rw [List.foldl_append, hst4]; exact R5
            · rw [List.foldl_append, hst4]
              show RdyR _ T r (relax1 s4 z).2
              unfold relax1
              rw [if_neg h0]
              exact Y5
            · rw [List.foldl_append, hst4]
              show (relax1 s4 z).2.length ≤ _
              unfold relax1
              rw [if_neg h0, List.length_append, List.length_singleton]
              show s4.2.length ≤ _
              omega
      · rintro _ ⟨q1, q2, σ4, l6, l7, hd4, hq2, hq, rfl, R4, Y4, F4, B4⟩
        have : q2 = [] := by cases q2 with | nil => rfl | cons _ _ => cases hq2
        subst this
        rw [List.append_nil] at hq
        subst hq
        refine ⟨gOk_of (R4.hl x hx), ?_⟩
        repeat walk_at "w"
        refine wp_attr R4.hs R4.hd dA_nf tsA_nf rfl ?_
        repeat walk_at "w"
        refine wp_augAdd ?_
        repeat walk_at "w"
        refine wp_setAttr R4.hs R4.hd dS_nf tsA_len ?_
        rw [tsA_put_nf]
        repeat walk_at "w"
        have hsz : (T.su p).length ≤ T.cnt := h.sz p
        refine ⟨p1 ++ [p], p2, _, some (.int p), some (.obj x.2.1), some (.int (-1)), l6, l7, by rw [List.map_append]; rfl, rfl, by rw [← hp, List.append_assoc]; rfl, rfl, ?_, ?_, F4.trans (.set _ (List.mem_cons_of_mem r (foot_iff.mpr (.inr (.inl rfl))))) fun i hi => .inl hi, ?_⟩
        · rw [List.foldl_append, hst]
          show TsR _ (T.run (done1 T.su s2 p).1 _)
          rw [show (T.nf + ((p1 ++ [p]).length : Int)) = T.nf + p1.length + 1 from by simp; omega]
          exact R4.setA T.r T.po (T.nf + p1.length + 1)
        · rw [List.foldl_append, hst]
          exact Y4.put R4.hd (by nofun)
        · rw [List.foldl_append, hst]
          show (done1 T.su s2 p).2.length ≤ _
          have : (done1 T.su s2 p).2.length ≤ s2.2.length + (T.su p).length := B4
          rw [List.length_append, List.length_singleton, Nat.succ_mul]
          omega
  · rintro _ ⟨p1, p2, σ2, l3, l4, l5, l6, l7, hd, hr2, hp, rfl, R2, Y2, F2, B2⟩
    have : p2 = [] := by cases p2 with | nil => rfl | cons _ _ => cases hr2
    subst this
    rw [List.append_nil] at hp
    subst hp
    refine ⟨gOk_none, ?_⟩
    repeat walk_at "w"
    exact ⟨rfl, R2, Y2, F2⟩
end
end Mine
set_option Elab.async false
set_option maxRecDepth 100000
namespace Mine
open PySem PyProof.Rows PySem.W PySem.SeqAt

noncomputable abbrev DF := Int × Nat × Nat
structure Dfs (σ σ' : List AO) (T : TsD) (rk : Int → Nat) (fs : List DF) (S : Int → Bool) (cnt : Nat) (es : List (Int × AV)) (ep : Nat) : Prop where
  frm : Frm σ σ' []
  stk : σ'[σ.length]? = some (.list (fs.map fun f => AV.int f.1))
  its : σ'[σ.length + 1]? = some (.list (fs.map fun f => AV.nxt f.2.1))
  seen : σ'[σ.length + 2]? = some (.set S cnt)
  n2s : σ'[σ.length + 3]? = some (.dict es ep)
  keys : es.map (fun x => x.1) = fs.map (fun x => x.1)
  it : ∀ f ∈ fs, ∃ x ∈ T.L, x.1 = f.1 ∧ σ'[f.2.1]? = some (.liter x.2.2 f.2.2)
  nd : ∀ f ∈ fs, ∀ g ∈ fs, f.2.1 = g.2.1 → f.1 = g.1
  ge : ∀ f ∈ fs, σ.length ≤ f.2.1
  srt : fs.Pairwise fun f g => rk f.1 < rk g.1
  sn : ∀ f ∈ fs, S f.1 = true
noncomputable def wtS (su : Int → List Int) (S : Int → Bool) : List Int → Nat
  | [] => 0
  | v :: r => (if S v = true then 0 else (su v).length + 2) + wtS su S r
noncomputable def wtF (su : Int → List Int) : List DF → Nat
  | [] => 0
  | f :: r => ((su f.1).length - f.2.2 + 1) + wtF su r
noncomputable def pushH (n : Nat) (σ' : List AO) (S1 : Int → Bool) (c l : Nat) (its : List AV) (es1 : List (Int × AV)) (ep : Nat) (stk : List AV) : List AO :=
  ((((σ'.set (n + 2) (AO.set S1 c)) ++ [AO.liter l 0]).set (n + 1) (AO.list its)).set (n + 3) (AO.dict es1 ep)).set n (AO.list stk)
noncomputable def popH (n : Nat) (σ' : List AO) (i : Nat) (stk : List AV) (es1 : List (Int × AV)) (ep : Nat) (its : List AV) : List AO :=
  (((σ'.set i .dead).set n (AO.list stk)).set (n + 3) (AO.dict es1 ep)).set (n + 1) (AO.list its)
noncomputable def addS (S : Int → Bool) (v : Int) : Int → Bool := fun x => S x || decide (x = v)

section
variable {σ σ' σ'' : List AO} {T : TsD} {rk : Int → Nat} {fs : List DF} {S : Int → Bool} {cnt ep : Nat} {es : List (Int × AV)} {v : Int} {x : Int × Nat × Nat}
theorem wtS_le {su : Int → List Int} : ∀ (l : List Int), wtS su (addS S v) l ≤ wtS su S l
  | [] => Nat.le_refl _
  | u :: r => by
    have := wtS_le (su := su) r
    unfold wtS
    rw [show addS S v u = (S u || decide (u = v)) from rfl]
    cases S u
    · simp only [Bool.false_or, decide_eq_true_eq]
      split <;> simp <;> omega
    · simpa using this
theorem wtS_add {su : Int → List Int} (hv : S v = false) : ∀ {l : List Int}, v ∈ l → wtS su (addS S v) l + ((su v).length + 2) ≤ wtS su S l
  | u :: r, h => by
    by_cases e : u = v
    · subst e
      have := wtS_le (su := su) (S := S) (v := u) r
      unfold wtS
      rw [if_pos (by simp [addS]), if_neg (by rw [hv]; decide)]
      omega
    · have := wtS_add (su := su) hv ((List.mem_cons.mp h).resolve_left fun q => e q.symm)
      unfold wtS
      have h1 : addS S v u = S u := by unfold addS; rw [decide_eq_false e, Bool.or_false]
      rw [h1]
      omega
theorem wtF_app (su : Int → List Int) (g : DF) : ∀ (l : List DF), wtF su (l ++ [g]) = wtF su l + ((su g.1).length - g.2.2 + 1)
  | [] => by simp [wtF]
  | f :: r => by
    rw [List.cons_append]
    unfold wtF
    rw [wtF_app su g r]
    omega
theorem Frm.setN (f : Frm σ σ' []) {i : Nat} (h : σ.length ≤ i) (o : AO) : Frm σ (σ'.set i o) [] :=
  ⟨by rw [List.length_set]; exact f.len, fun j p n e => get_put (f.same j p n e) fun q => by have := lt_of_get e; omega⟩
theorem Frm.pushN (f : Frm σ σ' []) (o : AO) : Frm σ (σ' ++ [o]) [] :=
  ⟨Nat.le_trans f.len (by simp), fun j p n e => get_app (f.same j p n e)⟩
theorem Frm.ts (f : Frm σ σ' []) (h : TsR σ T) : TsR σ' T := h.keep fun i o u1 e => f.same i o (by simp) e

theorem delD_last {v : Int} {a : AV} (h : v ∉ es.map (fun x => x.1)) : delD (es ++ [(v, a)]) v = es := by
  unfold delD
  rw [List.filter_append]
  have : es.filter (fun p => decide (p.1 ≠ v)) = es := List.filter_eq_self.mpr fun p hp => by
    have : p.1 ≠ v := fun e => h (e ▸ List.mem_map_of_mem hp)
    simpa using this
  rw [this]
  simp

theorem Dfs.push (D : Dfs σ σ' T rk fs S cnt es ep) (hx : x ∈ T.L) (hn : ∀ f ∈ fs, rk f.1 < rk x.1) (a : AV) (c : Nat) :
    Dfs σ (pushH σ.length σ' (addS S x.1) c x.2.2 ((fs.map fun f => AV.nxt f.2.1) ++ [AV.nxt σ'.length]) (es ++ [(x.1, a)]) (ep + 1) ((fs.map fun f => AV.int f.1) ++ [AV.int x.1])) T rk (fs ++ [(x.1, σ'.length, 0)]) (addS S x.1) c (es ++ [(x.1, a)]) (ep + 1) := by
  have h0 := lt_of_get D.stk
  have h1 := lt_of_get D.its
  have h2 := lt_of_get D.seen
  have h3 := lt_of_get D.n2s
  have old : ∀ (i : Nat) (o : AO), σ'[i]? = some o → i ≠ σ.length → i ≠ σ.length + 1 → i ≠ σ.length + 2 → i ≠ σ.length + 3 → (pushH σ.length σ' (addS S x.1) c x.2.2 ((fs.map fun f => AV.nxt f.2.1) ++ [AV.nxt σ'.length]) (es ++ [(x.1, a)]) (ep + 1) ((fs.map fun f => AV.int f.1) ++ [AV.int x.1]))[i]? = some o := fun i o e n0 n1 n2 n3 =>
    get_put (get_put (get_put (get_app (get_put e n2.symm)) n1.symm) n3.symm) n0.symm
  refine ⟨(((D.frm.setN (by omega) _).pushN _ |>.setN (by omega) _).setN (by omega) _).setN (by omega) _, ?_, ?_, ?_, ?_, ?_, fun f hf => ?_, fun f hf g hg e => ?_, fun f hf => ?_, ?_, fun f hf => ?_⟩
  · rw [List.map_append]
    exact List.getElem?_set_self (by simp; omega)
  · rw [List.map_append]
    exact get_put (get_put (List.getElem?_set_self (by simp; omega)) (by omega)) (by omega)
  · exact get_put (get_put (get_put (get_app (List.getElem?_set_self (by omega))) (by omega)) (by omega)) (by omega)
  · exact get_put (List.getElem?_set_self (by simp; omega)) (by omega)
  · rw [List.map_append, List.map_append, D.keys]; rfl
  · rcases List.mem_append.mp hf with hf | hf
    · obtain ⟨y, hy, e1, e2⟩ := D.it f hf
      exact ⟨y, hy, e1, old _ _ e2 (ne_of_get e2 D.stk (by nofun)) (ne_of_get e2 D.its (by nofun)) (ne_of_get e2 D.seen (by nofun)) (ne_of_get e2 D.n2s (by nofun))⟩
    · rw [List.mem_singleton.mp hf]
      refine ⟨x, hx, rfl, ?_⟩
      show _[σ'.length]? = _
      refine get_put (get_put (get_put ?_ (by omega)) (by omega)) (by omega)
      have := get_new (σ := σ'.set (σ.length + 2) (AO.set (addS S x.1) c)) (o := AO.liter x.2.2 0)
      rwa [List.length_set] at this
  · have lt : ∀ f ∈ fs, f.2.1 < σ'.length := fun f hf => let ⟨y, hy, e1, e2⟩ := D.it f hf; lt_of_get e2
    rcases List.mem_append.mp hf with hf | hf <;> rcases List.mem_append.mp hg with hg | hg
    · exact D.nd f hf g hg e
    · rw [List.mem_singleton.mp hg] at e
      have := lt f hf
      dsimp only at e
      omega
    · rw [List.mem_singleton.mp hf] at e
      have := lt g hg
      dsimp only at e
      omega
    · rw [List.mem_singleton.mp hf, List.mem_singleton.mp hg]
  · rcases List.mem_append.mp hf with hf | hf
    · exact D.ge f hf
    · rw [List.mem_singleton.mp hf]; exact D.frm.len
  · rw [List.pairwise_append]
    exact ⟨D.srt, List.pairwise_singleton _ _, fun f hf g hg => by rw [List.mem_singleton.mp hg]; exact hn f hf⟩
  · unfold addS
    rcases List.mem_append.mp hf with hf | hf
    · rw [D.sn f hf]; rfl
    · rw [List.mem_singleton.mp hf]; simp
theorem Dfs.step {f : DF} (D : Dfs σ σ' T rk (fs ++ [f]) S cnt es ep) {l k : Nat} (e : σ'[f.2.1]? = some (.liter l k)) (hk : k = f.2.2) : Dfs σ (σ'.set f.2.1 (.liter l (k + 1))) T rk (fs ++ [(f.1, f.2.1, f.2.2 + 1)]) S cnt es ep := by
  subst hk
  have put : ∀ {i : Nat} {o : AO}, σ'[i]? = some o → (∀ l k, AO.liter l k ≠ o) → (σ'.set f.2.1 (.liter l (f.2.2 + 1)))[i]? = some o := fun q hn => get_put q (ne_of_get e q (hn _ _))
  have mem : ∀ g ∈ fs ++ [(f.1, f.2.1, f.2.2 + 1)], ∃ g' ∈ fs ++ [f], g'.1 = g.1 ∧ g'.2.1 = g.2.1 := fun g hg => by
    rcases List.mem_append.mp hg with hg | hg
    · exact ⟨g, List.mem_append_left _ hg, rfl, rfl⟩
    · rw [List.mem_singleton.mp hg]; exact ⟨f, by simp, rfl, rfl⟩
  refine ⟨D.frm.setN (D.ge f (by simp)) _, ?_, ?_, put D.seen (by nofun), put D.n2s (by nofun), ?_, fun g hg => ?_, fun g hg g2 hg2 q => ?_, fun g hg => ?_, ?_, fun g hg => ?_⟩
  · have := put D.stk (by nofun)
    rw [List.map_append] at this ⊢
    exact this
  · have := put D.its (by nofun)
    rw [List.map_append] at this ⊢
    exact this
  · have := D.keys
    rw [List.map_append] at this ⊢
    exact this
  · rcases List.mem_append.mp hg with hg | hg
    · obtain ⟨y, hy, e1, e2⟩ := D.it g (List.mem_append_left _ hg)
      refine ⟨y, hy, e1, get_put e2 fun q => ?_⟩
      have h1 := D.nd f (by simp) g (List.mem_append_left _ hg) q
      have h2 := (List.pairwise_append.mp D.srt).2.2 g hg f (by simp)
      rw [h1] at h2
      exact Nat.lt_irrefl _ h2
    · rw [List.mem_singleton.mp hg]
      obtain ⟨y, hy, e1, e2⟩ := D.it f (by simp)
      rw [e] at e2
      cases e2
      exact ⟨y, hy, e1, List.getElem?_set_self (lt_of_get e)⟩
  · obtain ⟨g', h1, h2, h3⟩ := mem g hg
    obtain ⟨g2', h4, h5, h6⟩ := mem g2 hg2
    rw [← h2, ← h5]
    exact D.nd g' h1 g2' h4 (by rw [h3, h6]; exact q)
  · obtain ⟨g', h1, h2, h3⟩ := mem g hg
    rw [← h3]; exact D.ge g' h1
  · have := D.srt
    rw [List.pairwise_append] at this ⊢
    exact ⟨this.1, List.pairwise_singleton _ _, fun a ha b hb => by rw [List.mem_singleton.mp hb]; exact this.2.2 a ha f (by simp)⟩
  · obtain ⟨g', h1, h2, h3⟩ := mem g hg
    rw [← h2]; exact D.sn g' h1
theorem Dfs.pop {f : DF} (D : Dfs σ σ' T rk (fs ++ [f]) S cnt es ep) {l k : Nat} (e : σ'[f.2.1]? = some (.liter l k)) {es' : List (Int × AV)} {a : AV} (hes : es = es' ++ [(f.1, a)]) :
    Dfs σ (popH σ.length σ' f.2.1 (fs.map fun f => AV.int f.1) es' (ep + 1) (fs.map fun f => AV.nxt f.2.1)) T rk fs S cnt es' (ep + 1) := by
  have put : ∀ {i : Nat} {o : AO}, σ'[i]? = some o → (∀ l k, AO.liter l k ≠ o) → (σ'.set f.2.1 .dead)[i]? = some o := fun q hn => get_put q (ne_of_get e q (hn _ _))
  have hm : ∀ g ∈ fs, g ∈ fs ++ [f] := fun g hg => List.mem_append_left _ hg
  have b0 := put D.stk (by nofun)
  have b1 := put D.its (by nofun)
  have b2 := put D.seen (by nofun)
  have b3 := put D.n2s (by nofun)
  have c3 := lt_of_get b3
  refine ⟨(((D.frm.setN (D.ge f (by simp)) _).setN (Nat.le_refl _) _).setN (by omega) _).setN (by omega) _, ?_, ?_, ?_, ?_, ?_, fun g hg => ?_, fun g hg g2 hg2 => D.nd g (hm g hg) g2 (hm g2 hg2), fun g hg => D.ge g (hm g hg), (List.pairwise_append.mp D.srt).1, fun g hg => D.sn g (hm g hg)⟩
  · exact get_put (get_put (at_set b0) (by omega)) (by omega)
  · exact List.getElem?_set_self (by simp at c3 ⊢; omega)
  · exact get_put (get_put (get_put b2 (by omega)) (by omega)) (by omega)
  · exact get_put (List.getElem?_set_self (by simp at c3 ⊢; omega)) (by omega)
  · have := D.keys
    rw [hes, List.map_append, List.map_append] at this
    exact (List.append_inj' this rfl).1
  · obtain ⟨y, hy, e1, e2⟩ := D.it g (hm g hg)
    have ne : f.2.1 ≠ g.2.1 := fun q => by
      have h1 := D.nd f (by simp) g (hm g hg) q
      have h2 := (List.pairwise_append.mp D.srt).2.2 g hg f (by simp)
      rw [h1] at h2
      exact Nat.lt_irrefl _ h2
    exact ⟨y, hy, e1, get_put (get_put (get_put (get_put e2 ne) (ne_of_get D.stk e2 (by nofun))) (ne_of_get D.n2s e2 (by nofun))) (ne_of_get D.its e2 (by nofun))⟩
end
end Mine
set_option Elab.async false
set_option maxRecDepth 100000
namespace Mine
open PySem PyProof.Rows PySem.W PySem.SeqAt
local macro_rules | `(tactic| walk_at "w") => `(tactic| first
  | with_reducible refine wp_bind ?_ | ((with_reducible refine wp_getv (a := ?a) ?h ?hq); (case h => rfl)) | ((with_reducible refine wp_setv ?_ ?_); · rfl) | with_reducible refine wp_ret ?_ | with_reducible refine thenQ_next ?_ | with_reducible refine wp_then ?_
  | with_reducible refine thenQ_brk ?_ | with_reducible refine thenQ_cont ?_ | with_reducible refine thenQ_ret ?_ | with_reducible refine whileQ_next ?_ | with_reducible refine whileQ_cont ?_ | with_reducible refine whileQ_brk ?_ | with_reducible refine whileQ_ret ?_
  | with_reducible refine forQ_next ?_ | with_reducible refine forQ_cont ?_ | with_reducible refine forQ_brk ?_ | with_reducible refine forQ_ret ?_)
local macro_rules | `(tactic| walk_at "w1") => `(tactic| first
  | with_reducible refine wp_bind ?_ | ((with_reducible refine wp_getv (a := ?a) ?h ?hq); (case h => rfl)) | ((with_reducible refine wp_setv ?_ ?_); · rfl) | with_reducible refine wp_ret ?_ | with_reducible refine thenQ_next ?_)

noncomputable def fcθ (T : TsD) (n : Nat) (l6 : Option AV) : List (Option AV) := [some (.obj T.s), some (.obj T.m), some (.obj n), some (.obj (n + 1)), some (.obj (n + 2)), some (.obj (n + 3)), l6, none, none, none, none]
structure FcI (σ : List AO) (T : TsD) (rk : Int → Nat) (W n : Nat) (v : Option AV) (fs : List DF) (st : St) : Prop where
  ex : ∃ σ' S cnt es ep, st = ⟨th (fcθ T σ.length v), σ'⟩ ∧ Dfs σ σ' T rk fs S cnt es ep ∧ fs.length ≤ cnt ∧ cnt + wtS T.su S T.ks ≤ W ∧ wtS T.su S T.ks + wtF T.su fs ≤ n

section
variable {σ : List AO} {T : TsD} {rk : Int → Nat}
theorem itemAt_last {l : List AV} {x : AV} (h : l.length < 2 ^ 20) : itemAt (l ++ [x]) (-1) = some x := by
  unfold itemAt seqIndex?
  rw [if_pos (by decide)]
  have h2 : -1 + ((l.length : Int) + 1) = l.length := by omega
  have h3 : (l.length : Int) < l.length + 1 := by omega
  simp [h2, h3]
theorem keys_last {es : List (Int × AV)} {fs : List DF} {f : DF} (h : es.map (fun x => x.1) = (fs ++ [f]).map (fun x => x.1)) : ∃ es' a, es = es' ++ [(f.1, a)] ∧ es'.map (fun x => x.1) = fs.map (fun x => x.1) := by
  rw [List.map_append] at h
  obtain ⟨l1, l2, rfl, h1, h2⟩ := List.map_eq_append_iff.mp h
  cases l2 with
  | nil => cases h2
  | cons y r =>
    simp only [List.map_cons, List.cons.injEq, List.map_nil, List.map_eq_nil_iff] at h2
    obtain ⟨h2, rfl⟩ := h2
    exact ⟨l1, y.2, by rw [← h2], h1⟩

theorem find_cycle_spec (h : TsR σ T) (hrk : ∀ k ∈ T.ks, ∀ s ∈ T.su k, s ∈ T.ks ∧ rk k < rk s) (hw : wtS T.su (fun u1 => false) T.ks < 4000) : wpF (F_Ts_find_cycle [.obj T.s] [] σ) fun v σ' => v = .none ∧ Frm σ σ' [] := by
  refine wpF_of (l := [some (.obj T.s), none, none, none, none, none, none, none, none, none, none]) 11 (by rfl) (by rfl) (by rfl) (by rfl) (wp_then ?_)
  repeat walk_at "w"
  refine wp_attr h.hs h.hd dA_n2i tsA_m rfl ?_
  repeat walk_at "w"
  refine wp_newL (by decide) ?_
  repeat walk_at "w"
  refine wp_newL (by decide) ?_
  repeat walk_at "w"
  refine wp_newS ?_
  repeat walk_at "w"
  refine wp_newD ?_
  repeat walk_at "w"
  have e1 : (σ ++ [AO.list []]).length = σ.length + 1 := by simp
  have e2 : (σ ++ [AO.list []] ++ [AO.list []]).length = σ.length + 2 := by simp
  have e3 : (σ ++ [AO.list []] ++ [AO.list []] ++ [AO.set (fun u1 => false) 0]).length = σ.length + 3 := by simp
  have g0 : (σ ++ [AO.list []])[σ.length]? = some (.list []) := get_new
  have g1 : (σ ++ [AO.list []] ++ [AO.list []])[σ.length + 1]? = some (.list []) := e1 ▸ get_new
  have g2 : (σ ++ [AO.list []] ++ [AO.list []] ++ [AO.set (fun u1 => false) 0])[σ.length + 2]? = some (.set (fun u1 => false) 0) := e2 ▸ get_new
  have g3 : (σ ++ [AO.list []] ++ [AO.list []] ++ [AO.set (fun u1 => false) 0] ++ [AO.dict [] 0])[σ.length + 3]? = some (.dict [] 0) := e3 ▸ get_new
  have D0 : Dfs σ (σ ++ [AO.list []] ++ [AO.list []] ++ [AO.set (fun u1 => false) 0] ++ [AO.dict [] 0]) T rk [] (fun u1 => false) 0 [] 0 :=
    ⟨((((Frm.refl σ []).pushN _).pushN _).pushN _).pushN _, get_app (get_app (get_app g0)), get_app (get_app g1), get_app g2, g3, rfl, by nofun, by nofun, by nofun, .nil, by nofun⟩
  rw [e1, e2, e3]
  refine wp_srcD ((D0.frm.ts h).hm) ?_
  dsimp only
  generalize hW : wtS T.su (fun u1 => false) T.ks = W at hw
  refine wp_forL (fun u1 u2 st => ∃ v, FcI σ T rk W W v [] st) ⟨none, _, _, _, _, _, rfl, D0, Nat.le_refl _, by omega, by rw [hW]; exact Nat.le_refl _⟩ ?_ ?_
  · rintro d a r _ hd ⟨l6, σ2, S, cnt, es, ep, rfl, D, -, hc, -⟩
    have R := D.frm.ts h
    obtain ⟨v, rfl, hv⟩ : ∃ v, a = .int v ∧ v ∈ T.ks := by
      have : a ∈ T.es.map fun p => AV.int p.1 := hd ▸ (by simp)
      obtain ⟨p, hp, e⟩ := List.mem_map.mp this
      exact ⟨p.1, e.symm, es_keys (T := T) ▸ List.mem_map_of_mem hp⟩
    refine ⟨gOk_of R.hm, ?_⟩
    repeat walk_at "w"
    refine wp_inS D.seen (wp_truth ?_)
    refine wp_iteB (fun hs => ?_) fun hs => ?_
    · repeat walk_at "w"
      exact ⟨some (.int v), σ2, S, cnt, es, ep, rfl, D, Nat.zero_le _, hc, by show _ + 0 ≤ W; omega⟩
    · repeat walk_at "w"
      refine wp_while (fun n st => ∃ v fs, v ∈ T.ks ∧ (∀ f ∈ fs, rk f.1 < rk v) ∧ FcI σ T rk W n (some (.int v)) fs st) W ⟨v, [], hv, by nofun, σ2, S, cnt, es, ep, rfl, D, Nat.zero_le _, hc, by show _ + 0 ≤ W; omega⟩ ?_
      clear hs D R hc hv σ2 S cnt es ep l6
      rintro n _ ⟨v, fs, hv, hfs, σ2, S, cnt, es, ep, rfl, D, hfc, hc, hn⟩
      have R := D.frm.ts h
      repeat walk_at "w"
      refine wp_truth ?_
      rw [if_pos rfl]
      have hvk : v ∉ es.map (fun x => x.1) := fun q => by
        rw [D.keys] at q
        obtain ⟨f, hf, e⟩ := List.mem_map.mp q
        have := hfs f hf
        rw [e] at this
        exact Nat.lt_irrefl _ this
      refine wp_seq (fun st => ∃ v fs, FcI σ T rk W n v fs st) ?_ ?_
      · repeat walk_at "w"
        refine wp_inS D.seen (wp_truth ?_)
        refine wp_iteB (fun hs => ?_) fun hs => ?_
        · repeat walk_at "w"
          refine wp_inD D.n2s (wp_truth ?_)
          rw [getD_none hvk]
          rw [if_neg (by decide)]
          repeat walk_at "w"
          exact ⟨rfl, some (.int v), fs, σ2, S, cnt, es, ep, rfl, D, hfc, hc, hn⟩
        · obtain ⟨x, hx, hxv⟩ := mem_ks hv
          repeat walk_at "w"
          refine wp_guard (isSt_of D.seen) ?_
          repeat walk_at "w"
          refine wp_sadd D.seen (by omega) ?_
          rw [if_neg (by rw [hs]; decide)]
          have R1 := (D.frm.setN (i := σ.length + 2) (by omega) (.set (fun y => S y || decide (y = v)) (cnt + 1))).ts h
          have i1 : (σ2.set (σ.length + 2) (.set (fun y => S y || decide (y = v)) (cnt + 1)))[σ.length + 1]? = _ := get_put D.its (by omega)
          repeat walk_at "w"
          refine wp_guard (isLst_of i1) ?_
          repeat walk_at "w"
          refine wp_sub_dict R1.hm (hxv ▸ getD_map R1.nd hx) ?_
          refine wp_slot (R1.hi x hx) sA_su rfl rfl ?_
          repeat walk_at "w"
          refine wp_iter (R1.hl x hx) ?_
          refine wp_nextAttr get_new ?_
          repeat walk_at "w"
          have hfl : fs.length < 2 ^ 12 := by omega
          refine wp_append (get_app i1) (by rw [List.length_map]; omega) ?_
          have s1 : ((σ2.set (σ.length + 2) (.set (fun y => S y || decide (y = v)) (cnt + 1)) ++ [AO.liter x.2.2 0]).set (σ.length + 1) (.list (fs.map (fun f => AV.nxt f.2.1) ++ [AV.nxt (σ2.set (σ.length + 2) (.set (fun y => S y || decide (y = v)) (cnt + 1))).length])))[σ.length]? = _ := get_put (get_app (get_put D.stk (by omega))) (by omega)
          have n1 : ((σ2.set (σ.length + 2) (.set (fun y => S y || decide (y = v)) (cnt + 1)) ++ [AO.liter x.2.2 0]).set (σ.length + 1) (.list (fs.map (fun f => AV.nxt f.2.1) ++ [AV.nxt (σ2.set (σ.length + 2) (.set (fun y => S y || decide (y = v)) (cnt + 1))).length])))[σ.length + 3]? = _ := get_put (get_app (get_put D.n2s (by omega))) (by omega)
          repeat walk_at "w"
          refine wp_len s1 (by rw [List.length_map]; omega) ?_
          repeat walk_at "w"
          obtain ⟨p1, p2⟩ := putD_new (v := .int ((fs.map fun f => AV.int f.1).length : Nat)) hvk
          have hel : es.length = fs.length := by have := congrArg List.length D.keys; simpa using this
          refine wp_setDict n1 (by omega) ?_
          rw [p1, p2, if_neg (by decide)]
          repeat walk_at "w"
          refine wp_guard (isLst_of (get_put s1 (by omega))) ?_
          repeat walk_at "w"
          refine wp_append (get_put s1 (by omega)) (by rw [List.length_map]; omega) ?_
          repeat walk_at "w"
          have D' := D.push hx (fun f hf => hxv ▸ hfs f hf) (.int ((fs.map fun f => AV.int f.1).length : Nat)) (cnt + 1)
          have hwt := wtS_add (su := T.su) hs hv
          rw [hxv] at D'
          refine ⟨rfl, some (.int v), _, _, _, _, _, _, ?_, D', ?_, ?_, ?_⟩
          · unfold pushH
            rw [List.length_set]
            rfl
          · rw [List.length_append, List.length_singleton]; omega
          · omega
          · rw [wtF_app]
            show _ + (wtF T.su fs + ((T.su v).length - 0 + 1)) ≤ n
            omega
      · rintro _ ⟨v', fs', σ3, S', cnt', es', ep', rfl, D', hf', hc', hn'⟩
        clear hvk R hn hc hfc D hfs hv
        repeat walk_at "w"
        refine wp_while (fun m st => ∃ v fs, m = fs.length ∧ FcI σ T rk W n v fs st) fs'.length ⟨v', fs', rfl, σ3, S', cnt', es', ep', rfl, D', hf', hc', hn'⟩ ?_
        clear D' hf' hc' hn' σ3 S' cnt' es' ep' fs' v'
        rintro m _ ⟨l6, fs, rfl, σ3, S, cnt, es, ep, rfl, D, hfc, hc, hn⟩
        have R := D.frm.ts h
        repeat walk_at "w"
        refine wp_truthL D.stk (by rw [List.length_map]; omega) ?_
        rcases List.eq_nil_or_concat fs with rfl | ⟨fs0, f, rfl⟩
        · rw [if_neg (by simp)]
          repeat walk_at "w"
          exact ⟨l6, σ3, S, cnt, es, ep, rfl, D, Nat.zero_le _, hc, by show _ + 0 ≤ W; omega⟩
        · rw [List.concat_eq_append] at *
          rw [if_pos (by simp)]
          obtain ⟨x, hx, hxf, hit⟩ := D.it f (by simp)
          have hl := R.hl x hx
          have hfl : fs0.length < 2 ^ 12 := by rw [List.length_append] at hfc; omega
          have his := D.its
          have hsk := D.stk
          rw [List.map_append] at his hsk
          repeat walk_at "w"
          refine wp_of (a := .int (-1)) rfl ?_
          refine wp_sub_list his (itemAt_last (by rw [List.length_map]; omega)) ?_
          have hxk : f.1 ∈ T.ks := hxf ▸ key_mem hx
          cases hk : (T.su f.1)[f.2.2]? with
          | some v' =>
            refine wp_nextSome hit hl (v := .int v') (by rw [hxf, List.getElem?_map, hk]; rfl) ?_
            dsimp only
            repeat walk_at "w"
            obtain ⟨q1, q2⟩ := hrk f.1 hxk v' (List.mem_of_getElem? hk)
            have hlt := (List.getElem?_eq_some_iff.mp hk).1
            rw [wtF_app] at hn
            refine ⟨wtS T.su S T.ks + wtF T.su (fs0 ++ [(f.1, f.2.1, f.2.2 + 1)]), ?_, v', fs0 ++ [(f.1, f.2.1, f.2.2 + 1)], q1, fun g hg => ?_, _, S, cnt, es, ep, rfl, D.step hit rfl, by rw [List.length_append] at hfc ⊢; exact hfc, hc, Nat.le_refl _⟩
            · rw [wtF_app]
              dsimp only
              omega
            · rcases List.mem_append.mp hg with hg | hg
              · exact Nat.lt_trans ((List.pairwise_append.mp D.srt).2.2 g hg f (by simp)) q2
              · rw [List.mem_singleton.mp hg]; exact q2
          | none =>
            refine wp_nextNone hit hl (by rw [hxf, List.getElem?_map, hk]; rfl) ?_
            dsimp only
            have put : ∀ {i : Nat} {o : AO}, σ3[i]? = some o → (∀ l k, AO.liter l k ≠ o) → (σ3.set f.2.1 .dead)[i]? = some o := fun q hn => get_put q (ne_of_get hit q (hn _ _))
            have b0 := put hsk (by nofun)
            have b1 := put his (by nofun)
            have b3 := put D.n2s (by nofun)
            repeat walk_at "w"
            refine wp_guard (isLst_of b0) ?_
            repeat walk_at "w"
            refine wp_pop b0 (x := .int f.1) (by rw [List.length_append, List.length_map, List.length_map, List.length_singleton]; omega) (by simp) ?_
            obtain ⟨es', a, rfl, hk'⟩ := keys_last D.keys
            have hno : f.1 ∉ es'.map (fun x => x.1) := fun q => by
              rw [hk'] at q
              obtain ⟨g, hg, e⟩ := List.mem_map.mp q
              have := (List.pairwise_append.mp D.srt).2.2 g hg f (by simp)
              rw [e] at this
              exact Nat.lt_irrefl _ this
            have hgd : (getD (es' ++ [(f.1, a)]) f.1).isSome = true := by
              unfold getD
              rw [Option.isSome_map, List.find?_isSome]
              exact ⟨(f.1, a), by simp, by simp⟩
            have hel : es'.length = fs0.length := by have := congrArg List.length hk'; simpa using this
            refine wp_bind ?_
            refine wp_delD (get_put (j := σ.length) (o := .list ((fs0.map (fun f => AV.int f.1) ++ [AV.int f.1]).dropLast)) b3 (by omega)) ⟨by rw [List.length_append, List.length_singleton]; omega, hgd⟩ ?_
            rw [delD_last hno]
            repeat walk_at "w"
            have c1 := get_put (j := σ.length + 3) (o := .dict es' (ep + 1)) (get_put (j := σ.length) (o := .list ((fs0.map (fun f => AV.int f.1) ++ [AV.int f.1]).dropLast)) b1 (by omega)) (by omega)
            refine wp_guard (isLst_of c1) ?_
            repeat walk_at "w"
            refine wp_pop c1 (x := .nxt f.2.1) (by rw [List.length_append, List.length_map, List.length_map, List.length_singleton]; omega) (by simp) ?_
            repeat walk_at "w"
            rw [wtF_app] at hn
            refine ⟨fs0.length, by rw [List.length_append, List.length_singleton]; omega, l6, fs0, rfl, _, S, cnt, es', ep + 1, ?_, D.pop hit rfl, by rw [List.length_append, List.length_singleton] at hfc; omega, hc, by omega⟩
            unfold popH
            rw [List.map_cons, List.map_cons, List.map_nil, List.map_nil, List.dropLast_concat, List.dropLast_concat]
  · rintro _ ⟨l6, σ2, S, cnt, es, ep, rfl, D, -⟩
    refine ⟨gOk_of (D.frm.ts h).hm, ?_⟩
    repeat walk_at "w"
    exact ⟨rfl, D.frm⟩
end
end Mine
set_option Elab.async false
set_option maxRecDepth 100000
namespace Mine
open PySem PyProof.Rows PySem.W PySem.SeqAt
local macro_rules | `(tactic| walk_at "w") => `(tactic| first
  | with_reducible refine wp_bind ?_ | ((with_reducible refine wp_getv (a := ?a) ?h ?hq); (case h => rfl)) | ((with_reducible refine wp_setv ?_ ?_); · rfl) | with_reducible refine wp_ret ?_ | with_reducible refine thenQ_next ?_ | with_reducible refine wp_then ?_
  | with_reducible refine thenQ_brk ?_ | with_reducible refine thenQ_cont ?_ | with_reducible refine thenQ_ret ?_ | with_reducible refine whileQ_next ?_ | with_reducible refine whileQ_cont ?_ | with_reducible refine whileQ_brk ?_ | with_reducible refine whileQ_ret ?_
  | with_reducible refine forQ_next ?_ | with_reducible refine forQ_cont ?_ | with_reducible refine forQ_brk ?_ | with_reducible refine forQ_ret ?_)

section
variable {σ : List AO} {T : TsD} {rk : Int → Nat}
noncomputable def zeros (np : Int → Int) (L : List (Int × Nat × Nat)) : List Int := (L.map (fun x => x.1)).filter fun k => np k == 0
theorem prepare_spec (h : TsR σ T) (hr : T.r = .none) (hrk : ∀ k ∈ T.ks, ∀ s ∈ T.su k, s ∈ T.ks ∧ rk k < rk s) (hw : wtS T.su (fun u1 => false) T.ks < 4000) (hL : T.L.length < 2 ^ 18) :
    wpF (F_Ts_prepare [.obj T.s] [] σ) fun v σ' => v = .none ∧ TsR σ' (T.at' (.obj σ.length) T.po T.nf) ∧ RdyR σ' (T.at' (.obj σ.length) T.po T.nf) σ.length (zeros T.np T.L) ∧ Frm σ σ' T.foot := by
  refine wpF_of (l := [some (.obj T.s), none, none, none]) 4 (by rfl) (by rfl) (by rfl) (by rfl) (wp_then ?_)
  repeat walk_at "w"
  refine wp_attr h.hs h.hd dA_rdy tsA_r (by rw [hr]; rfl) ?_
  rw [hr]
  repeat walk_at "w"
  refine wp_isNot (b := true) rfl (wp_truth ?_)
  rw [if_neg (by decide)]
  repeat walk_at "w"
  refine wp_comp ?_
  repeat walk_at "w"
  refine wp_attr h.hs h.hd dA_n2i tsA_m rfl ?_
  refine wp_vals h.hm ?_
  dsimp only
  rw [cap_th (m := [none, none]) 2 (by rfl) (by rfl)]
  have h1 := h.push (.list [])
  refine wp_forL (fun d q st => ∃ (p1 p2 : List (Int × Nat × Nat)) (σ1 : List AO) (l1 : Option AV), p1 ++ p2 = T.L ∧ q = p2.map (fun x => AV.obj x.2.1) ∧ st = ⟨th [none, l1], σ1⟩ ∧ TsR σ1 T ∧ Frm σ σ1 T.foot ∧ σ1[σ.length]? = some (.list ((zeros T.np p1).map .int)))
    ⟨[], T.L, _, none, rfl, by unfold TsD.es; rw [List.map_map]; rfl, rfl, h1, .push _ _, get_new⟩ ?_ ?_
  · rintro d a q _ - ⟨p1, p2, σ1, l1, hp, hq, rfl, R, F, hd⟩
    cases p2 with
    | nil => cases hq
    | cons x p2 =>
      rw [List.map_cons, List.cons.injEq] at hq
      obtain ⟨rfl, rfl⟩ := hq
      have hx : x ∈ T.L := by rw [← hp]; simp
      have hz : zeros T.np (p1 ++ [x]) = zeros T.np p1 ++ (if T.np x.1 = 0 then [x.1] else []) := by
        unfold zeros
        rw [List.map_append, List.filter_append]
        congr 1
        by_cases h0 : T.np x.1 = 0 <;> simp [h0]
      refine ⟨gOk_of R.hm, ?_⟩
      repeat walk_at "w"
      refine wp_slot (R.hi x hx) sA_np rfl rfl ?_
      repeat walk_at "w"
      refine wp_eq (wp_truth ?_)
      by_cases h0 : T.np x.1 = 0
      · rw [if_pos h0] at hz
        rw [show (T.np x.1 == 0) = true from by rw [h0]; rfl, if_pos rfl]
        repeat walk_at "w"
        rw [if_pos rfl]
        repeat walk_at "w"
        refine wp_slot (R.hi x hx) sA_node rfl rfl ?_
        have hzl : (zeros T.np p1).length ≤ T.L.length := by
          unfold zeros
          refine Nat.le_trans (List.length_filter_le _ _) ?_
          rw [List.length_map, ← hp, List.length_append]; omega
        refine wp_appD hd (by rw [List.length_map]; omega) ?_
        repeat walk_at "w"
        have hn : σ.length ∉ T.foot := fun q => Nat.lt_irrefl _ (h.foot_lt q)
        refine ⟨p1 ++ [x], p2, _, some (.obj x.2.1), by rw [List.append_assoc]; exact hp, rfl, rfl, R.put _ hn, ⟨by rw [List.length_set]; exact F.len, fun i o n e => get_put (F.same i o n e) fun q => ?_⟩, ?_⟩
        · have := lt_of_get e; omega
        · rw [hz, List.map_append]; exact at_set hd
      · rw [if_neg h0, List.append_nil] at hz
        rw [show (T.np x.1 == 0) = false from by simpa using h0, if_neg (by decide)]
        repeat walk_at "w"
        rw [if_neg (by decide)]
        repeat walk_at "w"
        exact ⟨p1 ++ [x], p2, σ1, some (.obj x.2.1), by rw [List.append_assoc]; exact hp, rfl, rfl, R, F, by rw [hz]; exact hd⟩
  · rintro _ ⟨p1, p2, σ1, l1, hp, hq, rfl, R, F, hd⟩
    have : p2 = [] := by cases p2 with | nil => rfl | cons _ _ => cases hq
    subst this
    rw [List.append_nil] at hp
    subst hp
    refine ⟨gOk_of R.hm, ?_⟩
    repeat walk_at "w"
    refine ⟨rfl, ?_⟩
    repeat walk_at "w"
    refine wp_setAttr R.hs R.hd dS_rdy tsA_len ?_
    rw [tsA_put_r]
    have R2 := R.setA (.obj σ.length) T.po T.nf
    have hd2 : (σ1.set T.d (.attrs (tsA (.obj T.m) (.obj σ.length) T.po T.nf)))[σ.length]? = _ := get_put hd (ne_of_get R.hd hd (by nofun))
    have hds : T.d ∈ T.foot := foot_iff.mpr (.inr (.inl rfl))
    repeat walk_at "w"
    refine wp_guard (isInst_of R2.hs R2.hd tsA_fc) ?_
    repeat walk_at "w"
    refine wp_liftF (wpF_mono (find_cycle_spec (T := T.at' (.obj σ.length) T.po T.nf) (rk := rk) R2 hrk hw) ?_)
    rintro _ σ3 ⟨rfl, F3⟩
    repeat walk_at "w"
    refine wp_of (a := false) rfl ?_
    rw [if_neg (by decide)]
    repeat walk_at "w"
    refine ⟨rfl, F3.ts R2, ⟨rfl, F3.same _ _ (by simp) hd2, fun x hx e => ?_⟩, (F.trans (.set _ hds) fun i hi => .inl hi).trans F3 (by simp)⟩
    have := lt_of_get (h.hl x hx)
    omega
end
end Mine
set_option Elab.async false
set_option maxRecDepth 100000
namespace Mine
open PySem PyProof.Rows PySem.W PySem.SeqAt
local macro_rules | `(tactic| walk_at "w") => `(tactic| first
  | with_reducible refine wp_bind ?_ | ((with_reducible refine wp_getv (a := ?a) ?h ?hq); (case h => rfl)) | ((with_reducible refine wp_setv ?_ ?_); · rfl) | with_reducible refine wp_ret ?_ | with_reducible refine thenQ_next ?_ | with_reducible refine wp_then ?_
  | with_reducible refine thenQ_brk ?_ | with_reducible refine thenQ_cont ?_ | with_reducible refine thenQ_ret ?_ | with_reducible refine whileQ_next ?_ | with_reducible refine whileQ_cont ?_ | with_reducible refine whileQ_brk ?_ | with_reducible refine whileQ_ret ?_
  | with_reducible refine forQ_next ?_ | with_reducible refine forQ_cont ?_ | with_reducible refine forQ_brk ?_ | with_reducible refine forQ_ret ?_)

structure HdD where
  t : Nat
  d : Nat
  l : Nat
  ps : List (Str × Str)
noncomputable def hdA (l : Nat) : List (Str × AV) := [(S "_headers", .obj l)]
noncomputable def hdV (p : Str × Str) : AV := .tup [.str p.1, .str p.2]
structure HdR (σ : List AO) (H : HdD) : Prop where
  ht : σ[H.t]? = some (.inst aHD H.d)
  hd : σ[H.d]? = some (.attrs (hdA H.l))
  hl : σ[H.l]? = some (.list (H.ps.map hdV))
theorem hdA_h {l : Nat} : (hdA l).lookup (S "_headers") = some (.obj l) := by rfl
theorem hdA_cv {l : Nat} : (hdA l).lookup (S "_convert_string_type") = none := by rfl
theorem hdA_add {l : Nat} : (hdA l).lookup (S "add_header") = none := by rfl
theorem hdA_all {l : Nat} : (hdA l).lookup (S "get_all") = none := by rfl
theorem hdA_items {l : Nat} : (hdA l).lookup (S "items") = none := by rfl
theorem pat_name : patL.contains 48 = true := by rfl
theorem pat_value : patL.contains 53 = true := by rfl

section
variable {θ : Nat → Option AV} {σ σ' : List AO} {Q : AV → St → Prop} {H : HdD} {x y : Str}
theorem wp_strLower {x : Str} (hl : x.length ≤ 2 ^ 20) (hq : Q (.str (Txt.lower x)) ⟨θ, σ⟩) : wp (lowerK [.str x]) ⟨θ, σ⟩ Q := wp_of (if_pos hl) hq
theorem wp_strUpper {x : Str} (hl : x.length ≤ 2 ^ 20) (hq : Q (.str (Txt.upper x)) ⟨θ, σ⟩) : wp (upperK [.str x]) ⟨θ, σ⟩ Q := wp_of (if_pos hl) hq
theorem dat_str {k : Nat} (hx : PyData.strOk x = true) : (dataF σ k (.str x)).bind (fun d => if shaped d = true then some d else none) = some (.str x) := by
  have : dataF σ k (.str x) = some (.str x) := by cases k <;> rfl
  rw [this]
  show (if shaped (.str x) = true then some _ else none) = _
  rw [if_pos]
  unfold shaped PyData.canLay0 PyData.depth
  rw [hx]
  rfl
theorem wp_eqS (hx : PyData.strOk x = true) (hy : PyData.strOk y = true) (hq : Q (.bool (x == y)) ⟨θ, σ⟩) : wp (cmpB .Eq (.str x) (.str y)) ⟨θ, σ⟩ Q :=
  wp_of (a := .bool (PyData.eqv (.str x) (.str y))) (by
    show orK (cmpK .Eq (.str x) (.str y)) (cmpD .Eq (.str x) (.str y)) ⟨θ, σ⟩ = _
    refine orK_snd rfl ?_
    show ((dat σ (.str x)).bind _).map _ = _
    exact map_of (bind_of (dat_str hx) (map_of (dat_str hy)))) hq
theorem isStrV_of : isStrV (.str x) ⟨θ, σ⟩ := ⟨x, rfl⟩
theorem HdR.keep (h : HdR σ H) (hk : ∀ i o, (i = H.t ∨ i = H.d ∨ i = H.l) → σ[i]? = some o → σ'[i]? = some o) : HdR σ' H :=
  ⟨hk _ _ (.inl rfl) h.ht, hk _ _ (.inr (.inl rfl)) h.hd, hk _ _ (.inr (.inr rfl)) h.hl⟩
theorem HdR.push (h : HdR σ H) (o : AO) : HdR (σ ++ [o]) H := h.keep fun u1 u2 u3 e => get_app e

theorem convert_spec {a : AV} {b : Bool} {Q : AV → List AO → Prop} (hp : Printable x = true) (hs : x.cps.size < 2 ^ 62) (hq : Q (.str x) σ) : wpF (F_Hd_convert_string_type [a, .str x] [(S "name", .bool b)] σ) Q := by
  refine wpF_of (l := [some a, some (.str x), some (.bool b), none, none, none, none, none, none, none, none]) 11 (by rfl) (by rfl) (by rfl) (by rfl) (wp_then ?_)
  repeat walk_at "w"
  refine wp_of (a := .val (.type "str")) rfl ?_
  repeat walk_at "w"
  refine wp_of (a := .bool true) rfl (wp_truth ?_)
  rw [if_pos rfl]
  repeat walk_at "w"
  refine wp_truth ?_
  have go : ∀ (p : Nat), patL.contains p = true → ∀ Q' : AV → St → Prop, Q' .none ⟨th [some a, some (.str x), some (.bool b), some (.val (.ref p)), none, none, none, none, none, none, none], σ⟩ →
      wp (searchK patL [.val (.ref p), .str x]) ⟨th [some a, some (.str x), some (.bool b), some (.val (.ref p)), none, none, none, none, none, none, none], σ⟩ Q' := fun p hpp Q' hq' => wp_of (if_pos ⟨hpp, hp, hs⟩) hq'
  cases b with
  | true =>
    rw [if_pos rfl]
    repeat walk_at "w"
    refine wp_guard ⟨48, rfl, pat_name⟩ ?_
    repeat walk_at "w"
    refine go 48 pat_name _ ?_
    refine wp_of (a := false) rfl ?_
    rw [if_neg (by decide)]
    repeat walk_at "w"
    exact hq
  | false =>
    rw [if_neg (by decide)]
    repeat walk_at "w"
    refine wp_guard ⟨53, rfl, pat_value⟩ ?_
    repeat walk_at "w"
    refine go 53 pat_value _ ?_
    refine wp_of (a := false) rfl ?_
    rw [if_neg (by decide)]
    repeat walk_at "w"
    exact hq

theorem hd_new : wpF (F_Hd [] [] σ) fun v σ' => v = .obj (σ.length + 1) ∧ HdR σ' ⟨σ.length + 1, σ.length, σ.length + 2, []⟩ ∧ Frm σ σ' [] := by
  have e0 : σ ++ [AO.attrs [], .inst aHD σ.length] = σ ++ [.attrs []] ++ [.inst aHD σ.length] := by simp
  have e1 : (σ ++ [AO.attrs []]).length = σ.length + 1 := by simp
  have e2 : (σ ++ [AO.attrs []] ++ [AO.inst aHD σ.length]).length = σ.length + 2 := by simp
  have g0 : (σ ++ [AO.attrs []])[σ.length]? = some (.attrs []) := get_new
  have g1 : (σ ++ [AO.attrs []] ++ [AO.inst aHD σ.length])[σ.length + 1]? = some (.inst aHD σ.length) := e1 ▸ get_new
  have g2 : (σ ++ [AO.attrs []] ++ [AO.inst aHD σ.length] ++ [AO.list []])[σ.length + 2]? = some (.list []) := e2 ▸ get_new
  refine wpF_makeF (wpF_of (l := [some (.obj (σ.length + 1)), some .none, none, none, none, none, none, none]) 8 (by rfl) (by rfl) (by rfl) (by rfl) (wp_then ?_))
  rw [e0]
  repeat walk_at "w"
  refine wp_isNot (b := true) rfl (wp_truth ?_)
  rw [if_neg (by decide)]
  repeat walk_at "w"
  refine wp_newL (by decide) ?_
  rw [e2]
  repeat walk_at "w"
  refine wp_of (a := .val (.type "list")) (by show (lstAt _ _).map _ = _; exact map_of (lstAt_of g2)) ?_
  repeat walk_at "w"
  refine wp_of (a := .bool false) rfl (wp_truth ?_)
  rw [if_neg (by decide)]
  repeat walk_at "w"
  refine wp_setAttr (get_app g1) (get_app (get_app g0)) dS_hd (by decide) ?_
  have R : HdR ((σ ++ [AO.attrs []] ++ [AO.inst aHD σ.length] ++ [AO.list []]).set σ.length (.attrs (putA (S "_headers") (.obj (σ.length + 2)) []))) ⟨σ.length + 1, σ.length, σ.length + 2, []⟩ :=
    ⟨show _[σ.length + 1]? = _ from get_put (get_app g1) (by omega), at_set (get_app (get_app g0)), show _[σ.length + 2]? = _ from get_put g2 (by omega)⟩
  repeat walk_at "w"
  refine wp_truth ?_
  rw [if_pos rfl]
  repeat walk_at "w"
  refine wp_srcL R.hl ?_
  refine wp_forL (fun u1 r st => r = [] ∧ st.σ = (σ ++ [AO.attrs []] ++ [AO.inst aHD σ.length] ++ [AO.list []]).set σ.length (.attrs (putA (S "_headers") (.obj (σ.length + 2)) []))) ⟨rfl, rfl⟩ (fun d a r st u1 h => nomatch h.1) ?_
  rintro ⟨θ, σ1⟩ ⟨-, rfl⟩
  refine ⟨gOk_of R.hl, ?_⟩
  repeat walk_at "w"
  exact ⟨rfl, rfl, R, ⟨by simp <;> omega, fun i o u1 e => get_put (get_app (get_app (get_app e))) fun q => by have := lt_of_get e; omega⟩⟩

theorem add_header_spec (h : HdR σ H) (hx : Printable x = true) (hy : Printable y = true) (lx : x.cps.size < 2 ^ 20) (ly : y.cps.size < 2 ^ 20) (hn : H.ps.length < 2 ^ 18) :
    wpF (F_Hd_add_header [.obj H.t, .str x, .str y] [] σ) fun v σ' => v = .none ∧ HdR σ' ⟨H.t, H.d, H.l, H.ps ++ [(x, y)]⟩ ∧ Frm σ σ' [H.l] := by
  have e1 : (σ ++ [AO.attrs []]).length = σ.length + 1 := by simp
  have g0 : (σ ++ [AO.attrs []])[σ.length]? = some (.attrs []) := get_new
  have g1 : (σ ++ [AO.attrs []] ++ [AO.list []])[σ.length + 1]? = some (.list []) := e1 ▸ get_new
  refine wpF_of (l := [some (.obj H.t), some (.str x), some (.str y), some (.obj σ.length), none, none, none, none]) 8 (by rfl) (by rfl) (by rfl) (by rfl) ?_
  unfold D_Hd_add_header
  with_reducible refine wp_then ?_
  repeat walk_at "w"
  refine wp_newL (vs := []) (by decide) ?_
  rw [e1]
  have R1 := (h.push (.attrs [])).push (.list [])
  repeat walk_at "w"
  refine wp_isNot (b := false) rfl (wp_truth ?_)
  rw [if_pos (by decide)]
  repeat walk_at "w"
  refine wp_guard (isInst_of R1.ht R1.hd hdA_cv) ?_
  repeat walk_at "w"
  refine wp_liftK (convert_spec hy (by omega) ?_)
  repeat walk_at "w"
  refine wp_guard (isLst_of g1) ?_
  repeat walk_at "w"
  refine wp_append (vs := []) g1 (by decide) ?_
  have R2 : HdR ((σ ++ [AO.attrs []] ++ [AO.list []]).set (σ.length + 1) (.list ([] ++ [.str y]))) H := R1.keep fun i o hi e => get_put e fun q => by
    have := lt_of_get h.ht; have := lt_of_get h.hd; have := lt_of_get h.hl
    rcases hi with hi | hi | hi <;> omega
  have g2 : ((σ ++ [AO.attrs []] ++ [AO.list []]).set (σ.length + 1) (.list ([] ++ [.str y])))[σ.length + 1]? = some (.list [.str y]) := at_set g1
  repeat walk_at "w"
  refine wp_guard ⟨σ.length, rfl, get_put (get_app g0) (by omega)⟩ ?_
  repeat walk_at "w"
  refine wp_attr R2.ht R2.hd dA_hd hdA_h rfl ?_
  refine wp_bind (wp_guard (isLst_of R2.hl) ?_)
  repeat walk_at "w"
  refine wp_guard (isInst_of R2.ht R2.hd hdA_cv) ?_
  repeat walk_at "w"
  refine wp_liftK (convert_spec hx (by omega) ?_)
  repeat walk_at "w"
  refine wp_guard isStrV_of ?_
  repeat walk_at "w"
  have hj : joinK [.str (S "; "), .obj (σ.length + 1)] ⟨th [some (.obj H.t), some (.str x), some (.str y), some (.obj σ.length), some (.obj (σ.length + 1)), none, none, none], (σ ++ [AO.attrs []] ++ [AO.list []]).set (σ.length + 1) (.list ([] ++ [.str y]))⟩ =
      some (.str y, ⟨th [some (.obj H.t), some (.str x), some (.str y), some (.obj σ.length), some (.obj (σ.length + 1)), none, none, none], (σ ++ [AO.attrs []] ++ [AO.list []]).set (σ.length + 1) (.list ([] ++ [.str y]))⟩) := by
    show (lstAt _ _).bind _ = _
    refine bind_of (lstAt_of g2) ?_
    show (if JoinOk _ [y] = true then _ else _) = _
    rw [if_pos]
    · rfl
    · show (!decide (0 + y.length + (S "; ").length > sizeLine)) = true
      have : (S "; ").length = 2 := by decide
      have h2 : y.length < 2 ^ 20 := ly
      rw [this, decide_eq_false (by unfold sizeLine; omega)]
      rfl
  refine wp_of hj ?_
  repeat walk_at "w"
  refine wp_tup (show 2 < 2 ^ 20 by decide) ?_
  repeat walk_at "w"
  refine wp_append R2.hl (by rw [List.length_map]; omega) ?_
  repeat walk_at "w"
  have nl := lt_of_get h.hl
  refine ⟨rfl, ⟨get_put R2.ht (ne_of_get R2.hl R2.ht (by nofun)), get_put R2.hd (ne_of_get R2.hl R2.hd (by nofun)), ?_⟩, ⟨by simp <;> omega, fun i o n e => ?_⟩⟩
  · show _ = some (AO.list ((H.ps ++ [(x, y)]).map hdV))
    rw [List.map_append]
    exact at_set R2.hl
  · exact get_put (get_put (get_app (get_app e)) fun q => by have := lt_of_get e; omega) fun q => n (by rw [q]; simp)
end
end Mine
set_option Elab.async false
set_option maxRecDepth 100000
namespace Mine
open PySem PyProof.Rows PySem.W PySem.SeqAt
local macro_rules | `(tactic| walk_at "w") => `(tactic| first
  | with_reducible refine wp_bind ?_ | ((with_reducible refine wp_getv (a := ?a) ?h ?hq); (case h => rfl)) | ((with_reducible refine wp_setv ?_ ?_); · rfl) | with_reducible refine wp_ret ?_ | with_reducible refine thenQ_next ?_ | with_reducible refine wp_then ?_
  | with_reducible refine thenQ_brk ?_ | with_reducible refine thenQ_cont ?_ | with_reducible refine thenQ_ret ?_ | with_reducible refine whileQ_next ?_ | with_reducible refine whileQ_cont ?_ | with_reducible refine whileQ_brk ?_ | with_reducible refine whileQ_ret ?_
  | with_reducible refine forQ_next ?_ | with_reducible refine forQ_cont ?_ | with_reducible refine forQ_brk ?_ | with_reducible refine forQ_ret ?_)

section
variable {θ : Nat → Option AV} {σ σ' : List AO} {Q : AV → St → Prop} {H : HdD} {x y : Str}
theorem pickL_of {α : Type} (l : List α) {lo hi : Option Int} {a b : Nat} (e : sliceBounds lo hi none l.length = ((a : Int), (b : Int), 1)) : pickL l lo hi none = (l.drop a).take (b - a) := by
  unfold pickL
  rw [e]
  dsimp only
  rw [sliceRange_one]
  have := pick_run l.toArray a (b - a)
  simpa using this
theorem wp_slice {o : Nat} {vs ws : List AV} {lo hi : Option Int} (h : σ[o]? = some (.list vs)) (hl : vs.length < 2 ^ 20) (e : pickL vs lo hi none = ws) (hw : ws.length < 2 ^ 20) (hq : Q (.obj σ.length) ⟨θ, σ ++ [.list ws]⟩) : wp (sliceK (.obj o) lo hi none) ⟨θ, σ⟩ Q :=
  wp_of ((if_neg (by nofun)).trans (by show (lstAt σ o).bind _ = _; exact bind_of (lstAt_of h) ((if_pos hl).trans (by rw [e]; exact newL_of hw)))) hq
theorem wp_sliceLst {vs ws : List AV} {lo hi : Option Int} (hl : vs.length < 2 ^ 20) (e : pickL vs lo hi none = ws) (hw : ws.length < 2 ^ 20) (hq : Q (.obj σ.length) ⟨θ, σ ++ [.list ws]⟩) : wp (sliceK (.lst vs) lo hi none) ⟨θ, σ⟩ Q :=
  wp_of ((if_neg (by nofun)).trans ((if_pos hl).trans (by rw [e]; exact newL_of hw))) hq

theorem len_spec {Q : AV → List AO → Prop} (h : HdR σ H) (hn : H.ps.length < 2 ^ 20) (hq : Q (.int H.ps.length) σ) : wpF (F_Hd_len [.obj H.t] [] σ) Q := by
  refine wpF_of (l := [some (.obj H.t), none]) 2 (by rfl) (by rfl) (by rfl) (by rfl) ?_
  unfold D_Hd_len
  repeat walk_at "w"
  refine wp_attr h.ht h.hd dA_hd hdA_h rfl ?_
  repeat walk_at "w"
  refine wp_len h.hl (by rw [List.length_map]; omega) ?_
  rw [List.length_map]
  repeat walk_at "w"
  exact hq
theorem items_spec {Q : AV → List AO → Prop} (h : HdR σ H) (hn : H.ps.length < 2 ^ 20) (hq : Q (.obj σ.length) (σ ++ [.list (H.ps.map hdV)])) : wpF (F_Hd_items [.obj H.t] [] σ) Q := by
  refine wpF_of (l := [some (.obj H.t)]) 1 (by rfl) (by rfl) (by rfl) (by rfl) ?_
  unfold D_Hd_items
  repeat walk_at "w"
  refine wp_attr h.ht h.hd dA_hd hdA_h rfl ?_
  repeat walk_at "w"
  have e : pickL (H.ps.map hdV) none none none = H.ps.map hdV := by
    rw [pickL_of (a := 0) (b := (H.ps.map hdV).length) _ (by simp [sliceBounds])]
    rw [List.drop_zero, Nat.sub_zero, List.take_length]
  refine wp_slice h.hl (by rw [List.length_map]; exact hn) e (by rw [List.length_map]; exact hn) ?_
  repeat walk_at "w"
  exact hq
theorem itemAt_cons {a b : AV} : itemAt [a, b] 0 = some a ∧ itemAt [a, b] 1 = some b := ⟨rfl, rfl⟩
theorem get_all_spec {Q : AV → List AO → Prop} (h : HdR σ H) (hx : Printable (Txt.lower x) = true) (lx : x.length ≤ 2 ^ 20) (ly : (Txt.lower x).cps.size < 2 ^ 62) (ox : PyData.strOk (Txt.lower x) = true) (hp : ∀ p ∈ H.ps, p.1.length ≤ 2 ^ 20 ∧ PyData.strOk (Txt.lower p.1) = true) (hn : H.ps.length < 2 ^ 20)
    (hq : Q (.obj σ.length) (σ ++ [.list ((H.ps.filter fun p => Txt.lower p.1 == Txt.lower x).map fun p => .str p.2)])) : wpF (F_Hd_get_all [.obj H.t, .str x] [] σ) Q := by
  refine wpF_of (l := [some (.obj H.t), some (.str x)]) 2 (by rfl) (by rfl) (by rfl) (by rfl) ?_
  unfold D_Hd_get_all
  repeat walk_at "w"
  refine wp_guard (isInst_of h.ht h.hd hdA_cv) ?_
  repeat walk_at "w"
  refine wp_guard isStrV_of ?_
  repeat walk_at "w"
  refine wp_strLower lx ?_
  repeat walk_at "w"
  refine wp_liftK (convert_spec hx ly ?_)
  repeat walk_at "w"
  refine wp_comp ?_
  repeat walk_at "w"
  refine wp_attr h.ht h.hd dA_hd hdA_h rfl ?_
  refine wp_srcL h.hl ?_
  dsimp only
  rw [cap_th (m := [none, none, some (.str (Txt.lower x))]) 3 (by rfl) (by rfl)]
  refine wp_forL (fun u1 r st => ∃ (p1 p2 : List (Str × Str)) (l1 : Option AV), p1 ++ p2 = H.ps ∧ r = p2.map hdV ∧ st = ⟨th [none, l1, some (.str (Txt.lower x))], σ ++ [.list ((p1.filter fun p => Txt.lower p.1 == Txt.lower x).map fun p => .str p.2)]⟩)
    ⟨[], H.ps, none, rfl, rfl, rfl⟩ ?_ ?_
  · rintro d a r _ - ⟨p1, p2, l1, hpp, hr, rfl⟩
    cases p2 with
    | nil => cases hr
    | cons p p2 =>
      rw [List.map_cons, List.cons.injEq] at hr
      obtain ⟨rfl, rfl⟩ := hr
      obtain ⟨h1, h2⟩ := hp p (by rw [← hpp]; simp)
      refine ⟨gOk_of (get_app h.hl), ?_⟩
      repeat walk_at "w"
      refine wp_sub_tup itemAt_cons.1 ?_
      refine wp_bind (wp_guard isStrV_of ?_)
      repeat walk_at "w"
      refine wp_strLower h1 ?_
      repeat walk_at "w"
      refine wp_eqS h2 ox (wp_truth ?_)
      cases he : Txt.lower p.1 == Txt.lower x with
      | true =>
        rw [if_pos rfl]
        repeat walk_at "w"
        rw [if_pos rfl]
        repeat walk_at "w"
        refine wp_sub_tup itemAt_cons.2 ?_
        refine wp_appD get_new (by
          rw [List.length_map]
          refine Nat.lt_of_le_of_lt (List.length_filter_le _ _) ?_
          rw [← hpp, List.length_append] at hn; omega) ?_
        repeat walk_at "w"
        refine ⟨p1 ++ [p], p2, some (hdV p), by rw [List.append_assoc]; exact hpp, rfl, ?_⟩
        rw [List.set_append_right _ _ (Nat.le_refl _), Nat.sub_self, List.filter_append, List.map_append, List.filter_cons_of_pos (by simpa using he)]
        rfl
      | false =>
        rw [if_neg (by decide)]
        repeat walk_at "w"
        rw [if_neg (by decide)]
        repeat walk_at "w"
        refine ⟨p1 ++ [p], p2, some (hdV p), by rw [List.append_assoc]; exact hpp, rfl, ?_⟩
        rw [List.filter_append, List.filter_cons_of_neg (by simp [he]), List.filter_nil, List.append_nil]
        rfl
  · rintro _ ⟨p1, p2, l1, hpp, hr, rfl⟩
    have : p2 = [] := by cases p2 with | nil => rfl | cons _ _ => cases hr
    subst this
    rw [List.append_nil] at hpp
    subst hpp
    refine ⟨gOk_of (get_app h.hl), ?_⟩
    repeat walk_at "w"
    refine ⟨rfl, ?_⟩
    repeat walk_at "w"
    exact hq
noncomputable def ts0 (n : Nat) : TsD := { s := n + 1, d := n, m := n + 2, ep := 0, L := [], np := fun u1 => 0, su := fun u1 => [], r := .none, po := 0, nf := 0, cnt := 0 }
theorem ts_new : wpF (F_Ts [] [] σ) fun v σ' => v = .obj (σ.length + 1) ∧ TsR σ' (ts0 σ.length) ∧ Frm σ σ' [] := by
  have e0 : σ ++ [AO.attrs [], .inst aTS σ.length] = σ ++ [.attrs []] ++ [.inst aTS σ.length] := by simp
  have e1 : (σ ++ [AO.attrs []]).length = σ.length + 1 := by simp
  have e2 : (σ ++ [AO.attrs []] ++ [AO.inst aTS σ.length]).length = σ.length + 2 := by simp
  have g0 : (σ ++ [AO.attrs []])[σ.length]? = some (.attrs []) := get_new
  have g1 : (σ ++ [AO.attrs []] ++ [AO.inst aTS σ.length])[σ.length + 1]? = some (.inst aTS σ.length) := e1 ▸ get_new
  have g2 : (σ ++ [AO.attrs []] ++ [AO.inst aTS σ.length] ++ [AO.dict [] 0])[σ.length + 2]? = some (.dict [] 0) := e2 ▸ get_new
  refine wpF_makeF (wpF_of (l := [some (.obj (σ.length + 1)), some .none, none, none]) 4 (by rfl) (by rfl) (by rfl) (by rfl) ?_)
  unfold D_Ts_init
  rw [e0]
  have put {fs fs' : List (Str × AV)} {τ : List AO} (h0 : τ[σ.length]? = some (.attrs fs)) (h1 : τ[σ.length + 1]? = some (.inst aTS σ.length)) : (τ.set σ.length (.attrs fs'))[σ.length]? = some (.attrs fs') ∧ (τ.set σ.length (.attrs fs'))[σ.length + 1]? = some (.inst aTS σ.length) := ⟨at_set h0, get_put h1 (by omega)⟩
  repeat walk_at "w"
  refine wp_newD ?_
  rw [e2]
  repeat walk_at "w"
  refine wp_setAttr (get_app g1) (get_app (get_app g0)) dS_n2i (by decide) ?_
  obtain ⟨a0, a1⟩ := put (fs' := putA (S "_node2info") (.obj (σ.length + 2)) []) (get_app (o := AO.dict [] 0) (get_app g0)) (get_app g1)
  repeat walk_at "w"
  refine wp_setAttr a1 a0 dS_rdy (show 1 < 900 by decide) ?_
  obtain ⟨a2, a3⟩ := put (fs' := putA (S "_ready_nodes") .none (putA (S "_node2info") (.obj (σ.length + 2)) [])) a0 a1
  repeat walk_at "w"
  refine wp_setAttr a3 a2 dS_po (show 2 < 900 by decide) ?_
  obtain ⟨a4, a5⟩ := put (fs' := putA (S "_npassedout") (.int 0) (putA (S "_ready_nodes") .none (putA (S "_node2info") (.obj (σ.length + 2)) []))) a2 a3
  repeat walk_at "w"
  refine wp_setAttr a5 a4 dS_nf (show 3 < 900 by decide) ?_
  rw [List.set_set, List.set_set, List.set_set]
  have ef : putA (S "_nfinished") (.int 0) (putA (S "_npassedout") (.int 0) (putA (S "_ready_nodes") .none (putA (S "_node2info") (.obj (σ.length + 2)) []))) = tsA (.obj (σ.length + 2)) .none 0 0 := by rfl
  rw [ef]
  repeat walk_at "w"
  refine wp_isNot (b := true) rfl (wp_truth ?_)
  rw [if_neg (by decide)]
  repeat walk_at "w"
  obtain ⟨b0, b1⟩ := put (fs' := tsA (.obj (σ.length + 2)) .none 0 0) (get_app (o := AO.dict [] 0) (get_app g0)) (get_app g1)
  refine ⟨rfl, rfl, ⟨b1, b0, show _[σ.length + 2]? = _ from get_put g2 (by omega), by nofun, by nofun, List.nodup_nil, by nofun, fun u1 u2 => ⟨rfl, rfl⟩, fun u1 => Nat.le_refl _, Nat.le_refl _⟩, ⟨by simp <;> omega, fun i o u1 e => get_put (get_app (get_app (get_app e))) fun q => by have := lt_of_get e; omega⟩⟩
end
end Mine
set_option Elab.async false
set_option maxRecDepth 100000
namespace Mine
open PySem PyProof.Rows PySem.W PySem.SeqAt

noncomputable def iv7 : List Int := [0, 1, 2, 3, 4, 5, 6]
noncomputable def iv6 : List Int := [1, 2, 3, 4, 5, 6]
noncomputable def tl (ab : Int → Int) : List AV := iv7.map fun i => .int (ab i)
structure Tree (ab : Int → Int) (rk : Int → Nat) : Prop where
  z : ab 0 = 0
  h : ∀ c ∈ iv6, ab c ∈ iv7 ∧ rk (ab c) < rk c
theorem sixN {n : Nat} (h : n < 6) : n = 0 ∨ n = 1 ∨ n = 2 ∨ n = 3 ∨ n = 4 ∨ n = 5 := (by decide : ∀ x : Fin 6, x.val = 0 ∨ x.val = 1 ∨ x.val = 2 ∨ x.val = 3 ∨ x.val = 4 ∨ x.val = 5) ⟨n, h⟩
theorem sixI {v : Int} (h0 : 0 ≤ v) (h5 : v ≤ 5) : v = 0 ∨ v = 1 ∨ v = 2 ∨ v = 3 ∨ v = 4 ∨ v = 5 := by
  obtain ⟨n, rfl⟩ := Int.eq_ofNat_of_zero_le h0
  have : n < 6 := by omega
  rcases sixN this with rfl | rfl | rfl | rfl | rfl | rfl <;> decide
theorem mem6 {c : Int} : c ∈ iv6 ↔ 1 ≤ c ∧ c ≤ 6 := by
  refine ⟨(by decide : ∀ x ∈ iv6, 1 ≤ x ∧ x ≤ 6) c, fun h => ?_⟩
  obtain ⟨n, rfl⟩ := Int.eq_ofNat_of_zero_le (show 0 ≤ c by omega)
  exact (by decide : ∀ x : Fin 7, 1 ≤ ((x.val : Nat) : Int) → ((x.val : Nat) : Int) ∈ iv6) ⟨n, by omega⟩ h.1
theorem mem7 {c : Int} : c ∈ iv7 ↔ 0 ≤ c ∧ c ≤ 6 := by
  refine ⟨(by decide : ∀ x ∈ iv7, 0 ≤ x ∧ x ≤ 6) c, fun h => ?_⟩
  obtain ⟨n, rfl⟩ := Int.eq_ofNat_of_zero_le h.1
  exact (by decide : ∀ x : Fin 7, ((x.val : Nat) : Int) ∈ iv7) ⟨n, by omega⟩
theorem tl_set {ab : Int → Int} {c v : Int} (h : c ∈ iv7) : (tl ab).set c.toNat (.int v) = tl (setF ab c v) := by
  simp only [iv7, List.mem_cons, List.not_mem_nil, or_false] at h
  rcases h with rfl | rfl | rfl | rfl | rfl | rfl | rfl <;> rfl
theorem tl_get {ab : Int → Int} {c : Int} (h : c ∈ iv7) : itemAt (tl ab) c = some (.int (ab c)) := by
  simp only [iv7, List.mem_cons, List.not_mem_nil, or_false] at h
  rcases h with rfl | rfl | rfl | rfl | rfl | rfl | rfl <;> rfl
theorem tl_congr {ab ab' : Int → Int} (h : ∀ c ∈ iv7, ab c = ab' c) : tl ab = tl ab' := List.map_congr_left fun c hc => by rw [h c hc]
theorem tl_inj {ab ab' : Int → Int} (h : tl ab = tl ab') : ∀ c ∈ iv7, ab c = ab' c := fun c hc => by
  have := tl_get (ab := ab) hc
  rw [h, tl_get hc] at this
  exact (AV.int.inj (Option.some.inj this)).symm
theorem itemAt_pos {vs : List AV} {k : Int} {v : AV} (h : vs[k.toNat]? = some v) (h0 : 0 ≤ k) (hk : k < 2 ^ 62) : itemAt vs k = some v := by
  have : ((k.toNat : Nat) : Int) = k := Int.toNat_of_nonneg h0
  rw [← this]
  exact itemAt_nat h (by omega)
theorem map_erase {α β : Type} (f : α → β) : ∀ (l : List α) (k : Nat), (l.eraseIdx k).map f = (l.map f).eraseIdx k
  | [], _ => rfl
  | _ :: _, 0 => rfl
  | a :: l, k + 1 => congrArg (f a :: ·) (map_erase f l k)
theorem erase_perm {α : Type} : ∀ {l : List α} {k : Nat} {x : α}, l[k]? = some x → (x :: l.eraseIdx k).Perm l
  | a :: l, 0, x, h => by cases h; exact .refl _
  | a :: l, k + 1, x, h => (List.Perm.swap a x _).trans ((erase_perm (l := l) (k := k) h).cons a)

section
variable {θ : Nat → Option AV} {σ σ' : List AO} {Q : AV → St → Prop}
theorem wp_mulL {o : Nat} {vs ws : List AV} {k : Int} (h : σ[o]? = some (.list vs)) (hk : -(2 ^ 62) ≤ k ∧ k < 2 ^ 62) (e : (List.replicate k.toNat vs).flatten = ws) (hl : ws.length < 2 ^ 20) (hq : Q (.obj σ.length) ⟨θ, σ ++ [.list ws]⟩) : wp (binA .Mult (.obj o) (.int k)) ⟨θ, σ⟩ Q :=
  wp_of (orK_snd (f := binK .Mult (.obj o) (.int k)) (g := binL .Mult (.obj o) (.int k)) rfl (by show (lstAt σ o).bind _ = _; exact bind_of (lstAt_of h) ((if_pos hk).trans (by rw [e]; exact newL_of hl)))) hq
theorem wp_popAt {o : Nat} {vs : List AV} {k : Int} {x : AV} (h : σ[o]? = some (.list vs)) (hl : vs.length < 2 ^ 20) (hk : 0 ≤ k ∧ k < 2 ^ 62) (hx : vs[k.toNat]? = some x) (hq : Q x ⟨θ, σ.set o (.list (vs.eraseIdx k.toNat))⟩) : wp (popK [.obj o, .int k]) ⟨θ, σ⟩ Q :=
  ⟨_, _, by show (lstAt σ o).bind _ = _; exact bind_of (lstAt_of h) ((if_pos hl).trans ((if_pos hk).trans (map_of hx))), hq⟩
theorem wp_strInt {i : Int} (hi : i.natAbs.log2 < 1920) (hq : Q (.str (Str.ofString (toString i))) ⟨θ, σ⟩) : wp (strK [.int i]) ⟨θ, σ⟩ Q := wp_of (if_pos hi) hq
end

structure TrI (σ : List AO) (a0 : AV) (ab : Int → Int) (rk : Int → Nat) (pl lf : List Int) (n : Nat) (st : St) : Prop where
  θ : ∃ l4 l5, st.θ = th [some a0, some (.obj (σ.length + 1)), some (.obj (σ.length + 2)), some (.obj (σ.length + 3)), l4, l5, none]
  g1 : st.σ[σ.length + 1]? = some (.list (tl ab))
  g2 : st.σ[σ.length + 2]? = some (.list (lf.map .int))
  g3 : st.σ[σ.length + 3]? = some (.list (pl.map .int))
  frm : Frm σ st.σ []
  perm : (pl ++ lf).Perm iv7
  len : lf.length = n
  z : ab 0 = 0
  z0 : 0 ∈ pl
  up : ∀ c ∈ pl, c ≠ 0 → ab c ∈ pl ∧ rk (ab c) < rk c
  lt : ∀ c ∈ pl, rk c < pl.length
end Mine
set_option Elab.async false
set_option maxRecDepth 100000
namespace Mine
open PySem PyProof.Rows PySem.W PySem.SeqAt
local macro_rules | `(tactic| walk_at "w") => `(tactic| first
  | with_reducible refine wp_bind ?_ | ((with_reducible refine wp_getv (a := ?a) ?h ?hq); (case h => rfl)) | ((with_reducible refine wp_setv ?_ ?_); · rfl) | with_reducible refine wp_ret ?_ | with_reducible refine thenQ_next ?_ | with_reducible refine wp_then ?_
  | with_reducible refine thenQ_brk ?_ | with_reducible refine thenQ_cont ?_ | with_reducible refine thenQ_ret ?_ | with_reducible refine whileQ_next ?_ | with_reducible refine whileQ_cont ?_ | with_reducible refine whileQ_brk ?_ | with_reducible refine whileQ_ret ?_
  | with_reducible refine forQ_next ?_ | with_reducible refine forQ_cont ?_ | with_reducible refine forQ_brk ?_ | with_reducible refine forQ_ret ?_)
section
variable {σ σ' : List AO}
theorem TrI.step {a0 : AV} {ab : Int → Int} {rk : Int → Nat} {pl lf : List Int} {n k : Nat} {θ θ' : Nat → Option AV} {σ1 : List AO} {one a : Int} (I : TrI σ a0 ab rk pl lf (n + 1) ⟨θ, σ1⟩) (h1 : lf[k]? = some one) (ha : a ∈ pl) (l4 l5 : Option AV)
    (hθ : θ' = th [some a0, some (.obj (σ.length + 1)), some (.obj (σ.length + 2)), some (.obj (σ.length + 3)), l4, l5, none]) :
    one ∈ iv6 ∧ TrI σ a0 (setF ab one a) (fun c => if c = one then pl.length else rk c) (pl ++ [one]) (lf.eraseIdx k) n
      ⟨θ', ((σ1.set (σ.length + 2) (.list ((lf.map AV.int).eraseIdx k))).set (σ.length + 1) (.list (tl (setF ab one a)))).set (σ.length + 3) (.list (pl.map .int ++ [.int one]))⟩ := by
  obtain ⟨hk, rfl⟩ := List.getElem?_eq_some_iff.mp h1
  have nd : (pl ++ lf).Nodup := I.perm.nodup_iff.mpr (by decide)
  rw [List.nodup_append] at nd
  have hol : lf[k] ∈ lf := List.getElem_mem hk
  have hop : lf[k] ∉ pl := fun q => nd.2.2 _ q _ hol rfl
  have h7 : lf[k] ∈ iv7 := I.perm.mem_iff.mp (List.mem_append_right _ hol)
  have h0 : lf[k] ≠ 0 := fun q => hop (q ▸ I.z0)
  have h6 : lf[k] ∈ iv6 := by rw [mem6]; rw [mem7] at h7; omega
  have g1 := I.g1
  have g2 := I.g2
  have g3 := I.g3
  refine ⟨h6, ⟨l4, l5, hθ⟩, get_put (at_set (get_put g1 (by omega))) (by omega), get_put (get_put ?_ (by omega)) (by omega), ?_, ?_, ?_, ?_, ?_, List.mem_append_left _ I.z0, fun c hc hc0 => ?_, fun c hc => ?_⟩
  · rw [← map_erase]
    exact at_set g2
  · rw [List.map_append]
    exact at_set (get_put (get_put g3 (by omega)) (by omega))
  · have := I.frm
    exact ((this.setN (Nat.le_add_right _ _) _).setN (Nat.le_add_right _ _) _).setN (Nat.le_add_right _ _) _
  · rw [List.append_assoc]
    exact ((erase_perm h1).append_left pl).trans I.perm
  · have := I.len
    rw [List.length_eraseIdx_of_lt hk]; omega
  · unfold setF
    rw [if_neg (fun q => h0 q.symm)]
    exact I.z
  · rcases List.mem_append.mp hc with hc | hc
    · have hne : c ≠ lf[k] := fun q => hop (q ▸ hc)
      obtain ⟨u1, u2⟩ := I.up c hc hc0
      have hne2 : ab c ≠ lf[k] := fun q => hop (q ▸ u1)
      unfold setF
      rw [if_neg hne, if_neg hne, if_neg hne2]
      exact ⟨List.mem_append_left _ u1, u2⟩
    · rw [List.mem_singleton.mp hc]
      have hne : a ≠ lf[k] := fun q => hop (q ▸ ha)
      unfold setF
      rw [if_pos rfl, if_pos rfl, if_neg hne]
      exact ⟨List.mem_append_left _ ha, I.lt a ha⟩
  · rw [List.length_append, List.length_singleton]
    rcases List.mem_append.mp hc with hc | hc
    · have hne : c ≠ lf[k] := fun q => hop (q ▸ hc)
      have := I.lt c hc
      rw [if_neg hne]; omega
    · rw [List.mem_singleton.mp hc, if_pos rfl]; omega

theorem law_tree_spec {o : Nat} {ys : List Int} (h : σ[o]? = some (.list (ys.map .int))) (hl : ys.length = 6) :
    wpF (F_law_tree [.obj o] [] σ) fun v σ' => ∃ ab rk, Tree ab rk ∧ Frm σ σ' [] ∧ ∃ r, v = .obj r ∧ σ.length ≤ r ∧ σ'[r]? = some (.list (tl ab)) := by
  refine wpF_of (l := [some (.obj o), none, none, none, none, none, none]) 7 (by rfl) (by rfl) (by rfl) (by rfl) (wp_then ?_)
  have e1 : (σ ++ [AO.list [.int 0]]).length = σ.length + 1 := by simp
  have e2 : (σ ++ [AO.list [.int 0]] ++ [AO.list (tl fun u1 => 0)]).length = σ.length + 2 := by simp
  have e3 : (σ ++ [AO.list [.int 0]] ++ [AO.list (tl fun u1 => 0)] ++ [AO.list (iv6.map .int)]).length = σ.length + 3 := by simp
  repeat walk_at "w"
  refine wp_newL (by decide) ?_
  repeat walk_at "w"
  refine wp_mulL (ws := tl fun u1 => 0) get_new (by decide) (by rfl) (by decide) ?_
  rw [e1]
  repeat walk_at "w"
  refine wp_newL (by decide) ?_
  rw [e2]
  repeat walk_at "w"
  refine wp_newL (by decide) ?_
  rw [show [AV.int 1, .int 2, .int 3, .int 4, .int 5, .int 6] = iv6.map .int from rfl, e3]
  repeat walk_at "w"
  refine wp_srcL (get_app (get_app (get_app (get_app h)))) ?_
  refine wp_forL (fun u1 r st => ∃ (p2 : List Int) (ab : Int → Int) (rk : Int → Nat) (pl lf : List Int), r = p2.map .int ∧ TrI σ (.obj o) ab rk pl lf p2.length st)
    ⟨ys, fun u1 => 0, fun u1 => 0, [0], iv6, rfl, ⟨none, none, rfl⟩, get_app (get_app (by rw [← e1]; exact get_new)), get_app (by rw [← e2]; exact get_new), by rw [← e3]; exact get_new,
      (((Frm.push _ _).pushN _).pushN _).pushN _, .refl _, hl.symm, rfl, by simp, by simp, by simp⟩ ?_ ?_
  · rintro d a r ⟨_, σ1⟩ - ⟨p2, ab, rk, pl, lf, hr, I⟩
    cases p2 with
    | nil => cases hr
    | cons y p2 =>
      rw [List.map_cons, List.cons.injEq] at hr
      obtain ⟨rfl, rfl⟩ := hr
      obtain ⟨l4, l5, (rfl : _ = th _)⟩ := I.θ
      have hlen := I.perm.length_eq
      rw [List.length_append, I.len] at hlen
      have h7 : iv7.length = 7 := rfl
      have hp0 : 0 < pl.length := List.length_pos_of_mem I.z0
      have hll := I.len
      rw [List.length_cons] at hlen hll
      refine ⟨gOk_of (I.frm.same _ _ (by simp) h), ?_⟩
      repeat walk_at "w"
      refine wp_guard (isLst_of I.g2) ?_
      repeat walk_at "w"
      refine wp_len I.g2 (by rw [List.length_map]; omega) ?_
      rw [List.length_map]
      repeat walk_at "w"
      have hL : (0 : Int) < lf.length := by omega
      refine wp_mod (by omega) ?_
      have b1 := Int.fmod_nonneg_of_pos y hL
      have b2 := Int.fmod_lt_of_pos y hL
      generalize y.fmod lf.length = k at b1 b2
      obtain ⟨one, h1⟩ : ∃ one, lf[k.toNat]? = some one := ⟨_, List.getElem?_eq_getElem (by omega)⟩
      repeat walk_at "w"
      refine wp_popAt I.g2 (by rw [List.length_map]; omega) ⟨b1, by omega⟩ (by rw [List.getElem?_map, h1]; rfl) ?_
      have g3 : (σ1.set (σ.length + 2) (.list ((lf.map AV.int).eraseIdx k.toNat)))[σ.length + 3]? = some (.list (pl.map .int)) := get_put I.g3 (by omega)
      have g1 : (σ1.set (σ.length + 2) (.list ((lf.map AV.int).eraseIdx k.toNat)))[σ.length + 1]? = some (.list (tl ab)) := get_put I.g1 (by omega)
      repeat walk_at "w"
      refine wp_div ⟨by decide, by decide⟩ ?_
      repeat walk_at "w"
      refine wp_len g3 (by rw [List.length_map]; omega) ?_
      rw [List.length_map]
      repeat walk_at "w"
      have hP : (0 : Int) < pl.length := by omega
      refine wp_mod (by omega) ?_
      have c1 := Int.fmod_nonneg_of_pos (y.fdiv 7) hP
      have c2 := Int.fmod_lt_of_pos (y.fdiv 7) hP
      generalize (y.fdiv 7).fmod pl.length = q at c1 c2
      obtain ⟨a, h2⟩ : ∃ a, pl[q.toNat]? = some a := ⟨_, List.getElem?_eq_getElem (by omega)⟩
      repeat walk_at "w"
      refine wp_sub_list g3 (itemAt_pos (v := .int a) (by rw [List.getElem?_map, h2]; rfl) c1 (by omega)) ?_
      repeat walk_at "w"
      obtain ⟨h6, I2⟩ := I.step h1 (List.mem_of_getElem? h2) (some (.int y)) (some (.int one)) rfl
      rw [mem6] at h6
      refine wp_setItem g1 ⟨by omega, by show one < 7; omega, by omega⟩ ?_
      rw [tl_set (mem7.mpr (by omega))]
      repeat walk_at "w"
      have g3' := get_put (j := σ.length + 1) (o := .list (tl (setF ab one a))) g3 (by omega)
      refine wp_guard (isLst_of g3') ?_
      repeat walk_at "w"
      refine wp_append g3' (by rw [List.length_map]; omega) ?_
      repeat walk_at "w"
      exact ⟨p2, _, _, _, _, rfl, I2⟩
  · rintro ⟨_, σ1⟩ ⟨p2, ab, rk, pl, lf, hr, I⟩
    have : p2 = [] := by cases p2 with | nil => rfl | cons _ _ => cases hr
    subst this
    obtain ⟨l4, l5, (rfl : _ = th _)⟩ := I.θ
    refine ⟨gOk_of (I.frm.same _ _ (by simp) h), ?_⟩
    repeat walk_at "w"
    have hlf : lf = [] := List.length_eq_zero_iff.mp I.len
    subst hlf
    have hp := I.perm
    rw [List.append_nil] at hp
    have i7 : ∀ c, c ∈ pl ↔ c ∈ iv7 := fun c => hp.mem_iff
    refine ⟨ab, rk, ⟨I.z, fun c hc => ?_⟩, I.frm, _, rfl, Nat.le_add_right _ _, I.g1⟩
    rw [mem6] at hc
    obtain ⟨u1, u2⟩ := I.up c ((i7 c).mpr (mem7.mpr (by omega))) (by omega)
    exact ⟨(i7 _).mp u1, u2⟩
end
end Mine
set_option Elab.async false
set_option maxRecDepth 100000
namespace Mine
open PySem PyProof.Rows PySem.W PySem.SeqAt

noncomputable def ltI (a b : Int) : Bool := decide (a < b)
theorem hordI : HOrd AV.int ltI := by
  refine ⟨⟨fun {a b} h => ?_, fun {a b c} h1 h2 => ?_⟩, fun a b st Q hq => wp_lt hq⟩
  · unfold ltI at *; have := of_decide_eq_true h; exact decide_eq_false (by omega)
  · unfold ltI at *; have := of_decide_eq_false h1; have := of_decide_eq_false h2; exact decide_eq_false (by omega)

structure Sep (n : Nat) (T : TsD) (r : Nat) (H : HdD) (hp : Nat) : Prop where
  ft : ∀ i ∈ r :: T.foot, n ≤ i ∧ i ≠ H.t ∧ i ≠ H.d ∧ i ≠ H.l ∧ i ≠ hp
  nl : n ≤ H.l
  np : n ≤ hp
  ht : H.t ≠ hp
  hd : H.d ≠ hp
  hl : H.l ≠ hp
structure Sys (σ0 σ : List AO) (T : TsD) (r : Nat) (H : HdD) (hp : Nat) (np : Int → Int) (rs hs : List Int) : Prop where
  ts : ∃ po nf, TsR σ ((T.np' np).at' (.obj r) po nf)
  rd : σ[r]? = some (.list (rs.map .int))
  hd : HdR σ H
  hg : σ[hp]? = some (.list (hs.map .int))
  hh : Heaped ltI fun i => hs[i]?
  frm : Frm σ0 σ []
section
variable {σ0 σ σ' : List AO} {T : TsD} {r hp : Nat} {H : HdD} {np : Int → Int} {rs hs : List Int}
theorem Frm.out {n : Nat} {S : List Nat} (f : Frm σ0 σ []) (g : Frm σ σ' S) (hn : σ0.length ≤ n) (h : ∀ i ∈ S, n ≤ i) : Frm σ0 σ' [] := f.trans g fun i hi => .inr (Nat.le_trans hn (h i hi))
theorem Sep.off1 {n i : Nat} (Z : Sep n T r H hp) (hi : i = H.t ∨ i = H.d ∨ i = H.l) : i ∉ r :: T.foot := fun q => by
  obtain ⟨-, a, b, c, d⟩ := Z.ft i q
  rcases hi with e | e | e
  · exact a e
  · exact b e
  · exact c e
theorem Sep.off2 {n : Nat} (Z : Sep n T r H hp) : hp ∉ r :: T.foot := fun q => (Z.ft hp q).2.2.2.2 rfl
theorem Sys.rdy (Y : Sys σ0 σ T r H hp np rs hs) (hne : ∀ x ∈ T.L, x.2.2 ≠ r) (po nf : Int) : RdyR σ ((T.np' np).at' (.obj r) po nf) r rs := ⟨rfl, Y.rd, hne⟩

theorem sys_ready (Y : Sys σ0 σ T r H hp np rs hs) (Z : Sep σ0.length T r H hp) (hne : ∀ x ∈ T.L, x.2.2 ≠ r) (hk : ∀ k ∈ rs, k ∈ T.ks) (hl : rs.length < 2 ^ 20) :
    wpF (F_Ts_get_ready [.obj T.s] [] σ) fun v σ' => v = .tup (rs.map .int) ∧ Sys σ0 σ' T r H hp (rs.foldl (fun np k => setF np k (-1)) np) [] hs := by
  obtain ⟨po, nf, R⟩ := Y.ts
  refine wpF_mono (get_ready_spec (T := (T.np' np).at' (.obj r) po nf) R (Y.rdy hne po nf) hk hl) ?_
  rintro _ σ' ⟨rfl, R', Y', F⟩
  exact ⟨rfl, ⟨_, _, R'⟩, Y'.list, Y.hd.keep fun i o hi e => F.same i o (Z.off1 hi) e, F.same _ _ Z.off2 Y.hg, Y.hh, Y.frm.out F (Nat.le_refl _) fun i hi => (Z.ft i hi).1⟩
theorem sys_done {m : Int} (Y : Sys σ0 σ T r H hp np rs hs) (Z : Sep σ0.length T r H hp) (hne : ∀ x ∈ T.L, x.2.2 ≠ r) (hk : m ∈ T.ks) (hs' : ∀ s ∈ T.su m, s ∈ T.ks) (hm : np m = -1) (hl : rs.length + T.cnt < 2 ^ 19) :
    wpF (F_Ts_done [.obj T.s, .int m] [] σ) fun v σ' => v = .none ∧ Sys σ0 σ' T r H hp (done1 T.su (np, rs) m).1 (done1 T.su (np, rs) m).2 hs := by
  obtain ⟨po, nf, R⟩ := Y.ts
  refine wpF_mono (done_spec (T := (T.np' np).at' (.obj r) po nf) (ns := [m]) R (Y.rdy hne po nf) (fun k hk' => List.mem_singleton.mp hk' ▸ hk) (fun k hk' s h => hs' s (List.mem_singleton.mp hk' ▸ h)) (fun p1 k p2 e => ?_) (by show rs.length + 1 * T.cnt < _; rw [Nat.one_mul]; exact hl) (show 1 < 2 ^ 20 by decide)) ?_
  · cases p1 with
    | nil => cases e; exact hm
    | cons a p1 => cases p1 <;> cases e
  · rintro _ σ' ⟨rfl, R', Y', F⟩
    exact ⟨rfl, ⟨_, _, R'⟩, Y'.list, Y.hd.keep fun i o hi e => F.same i o (Z.off1 hi) e, F.same _ _ Z.off2 Y.hg, Y.hh, Y.frm.out F (Nat.le_refl _) fun i hi => (Z.ft i hi).1⟩
theorem Sys.heap {hs' : List Int} (Y : Sys σ0 σ T r H hp np rs hs) (Z : Sep σ0.length T r H hp) (hh : Heaped ltI fun i => hs'[i]?) : Sys σ0 (σ.set hp (.list (hs'.map .int))) T r H hp np rs hs' := by
  obtain ⟨po, nf, R⟩ := Y.ts
  have hn : ∀ i ∈ r :: T.foot, hp ≠ i := fun i hi => ((Z.ft i hi).2.2.2.2).symm
  refine ⟨⟨po, nf, R.keep fun i o hi e => get_put e (hn i (List.mem_cons_of_mem _ hi))⟩, get_put Y.rd (hn r (List.mem_cons_self ..)), Y.hd.keep fun i o hi e => get_put e ?_, at_set Y.hg, hh, Y.frm.out (.set (S := [hp]) _ (List.mem_cons_self ..)) (Nat.le_refl _) fun i hi => List.mem_singleton.mp hi ▸ Z.np⟩
  rcases hi with rfl | rfl | rfl
  · exact Z.ht.symm
  · exact Z.hd.symm
  · exact Z.hl.symm
theorem sys_push {c : Int} (Y : Sys σ0 σ T r H hp np rs hs) (Z : Sep σ0.length T r H hp) (hl : hs.length < 2 ^ 18) :
    wpF (F_heappush [.obj hp, .int c] [] σ) fun v σ' => v = .none ∧ ∃ hs', hs'.Perm (c :: hs) ∧ Sys σ0 σ' T r H hp np rs hs' := by
  refine wpF_mono (heappush_spec hordI Y.hg hl Y.hh) ?_
  rintro _ _ ⟨rfl, ys, rfl, hp1, hh⟩
  exact ⟨rfl, ys, hp1, Y.heap Z hh⟩
theorem sys_pop (Y : Sys σ0 σ T r H hp np rs hs) (Z : Sep σ0.length T r H hp) (hne : hs ≠ []) (hl : hs.length < 2 ^ 18) :
    wpF (F_heappop [.obj hp] [] σ) fun v σ' => ∃ m hs', v = .int m ∧ (m :: hs').Perm hs ∧ (∀ y ∈ hs', m ≤ y) ∧ Sys σ0 σ' T r H hp np rs hs' := by
  refine wpF_mono (heappop_spec hordI Y.hg hl hne Y.hh) ?_
  rintro _ _ ⟨m, ys, rfl, rfl, hp1, hle, hh⟩
  exact ⟨m, ys, rfl, hp1, fun y hy => by have := of_decide_eq_false (hle y hy); omega, Y.heap Z hh⟩
theorem sys_add {x y : Str} (Y : Sys σ0 σ T r H hp np rs hs) (Z : Sep σ0.length T r H hp) (hx : Printable x = true) (hy : Printable y = true) (lx : x.cps.size < 2 ^ 20) (ly : y.cps.size < 2 ^ 20) (hn : H.ps.length < 2 ^ 18) :
    wpF (F_Hd_add_header [.obj H.t, .str x, .str y] [] σ) fun v σ' => v = .none ∧ Sys σ0 σ' T r ⟨H.t, H.d, H.l, H.ps ++ [(x, y)]⟩ hp np rs hs := by
  obtain ⟨po, nf, R⟩ := Y.ts
  refine wpF_mono (add_header_spec Y.hd hx hy lx ly hn) ?_
  rintro _ σ' ⟨rfl, R', F⟩
  have hl : ∀ i ∈ r :: T.foot, i ∉ [H.l] := fun i hi q => (Z.ft i hi).2.2.2.1 (List.mem_singleton.mp q)
  exact ⟨rfl, ⟨po, nf, R.keep fun i o hi e => F.same i o (hl i (List.mem_cons_of_mem _ hi)) e⟩, F.same _ _ (hl r (List.mem_cons_self ..)) Y.rd, R', F.same _ _ (fun q => Z.hl (List.mem_singleton.mp q).symm) Y.hg, Y.hh,
    Y.frm.out F (Nat.le_refl _) fun i hi => List.mem_singleton.mp hi ▸ Z.nl⟩
theorem Sep.ps (Z : Sep σ0.length T r H hp) (ps : List (Str × Str)) : Sep σ0.length T r ⟨H.t, H.d, H.l, ps⟩ hp := ⟨Z.ft, Z.nl, Z.np, Z.ht, Z.hd, Z.hl⟩
end
end Mine
set_option Elab.async false
set_option maxRecDepth 100000
namespace Mine
open PySem PyProof.Rows PySem.W PySem.SeqAt

noncomputable def stp : List Str := [S "a", S "b", S "c", S "d", S "e", S "f", S "g"]
noncomputable def num (c : Int) : Str := Str.ofString (toString c)
noncomputable def ltr (s : Str) (c : Int) : Str := if c.fmod 2 = 0 then s else Txt.upper s
noncomputable def kids (ab : Int → Int) (x : Int) : List Int := iv6.filter fun c => ab c = x
noncomputable def row (ab : Int → Int) (p : Int × Str) : List (Str × Str) := (kids ab p.1).map fun c => (ltr p.2 c, num c)
noncomputable def rows (ab : Int → Int) (xs : List Int) : List (Str × Str) := (xs.zip stp).flatMap (row ab)
noncomputable def okS (s : Str) : Bool := Printable s && decide (s.cps.size < 8) && decide (s.length < 8) && PyData.strOk s
noncomputable def lwS (s x : Str) : Bool := decide (Txt.lower x = s) && okS x
theorem stp_ok : stp.all (fun s => lwS s s && lwS s (Txt.upper s)) = true := by kernel_rfl
theorem num_ok : iv6.all (fun c => okS (num c) && decide (PySem.intText? (num c) = some c) && decide ((c.natAbs.log2) < 1920)) = true := by kernel_rfl
structure OkS (s : Str) : Prop where
  p : Printable s = true
  z : s.cps.size < 8
  l : s.length < 8
  o : PyData.strOk s = true
theorem okS_iff {s : Str} (h : okS s = true) : OkS s := by
  unfold okS at h
  simp only [Bool.and_eq_true, decide_eq_true_eq] at h
  exact ⟨h.1.1.1, h.1.1.2, h.1.2, h.2⟩
theorem ltr_ok {s : Str} (h : s ∈ stp) (c : Int) : OkS (ltr s c) ∧ Txt.lower (ltr s c) = s := by
  have := List.all_eq_true.mp stp_ok s h
  unfold lwS at this
  simp only [Bool.and_eq_true, decide_eq_true_eq] at this
  unfold ltr
  split
  · exact ⟨okS_iff this.1.2, this.1.1⟩
  · exact ⟨okS_iff this.2.2, this.2.1⟩
theorem stp_len {s : Str} (h : s ∈ stp) : s.length < 8 := by
  have := List.all_eq_true.mp stp_ok s h
  unfold lwS at this
  simp only [Bool.and_eq_true, decide_eq_true_eq] at this
  exact (okS_iff this.1.2).l
theorem num_at {c : Int} (h : c ∈ iv6) : OkS (num c) ∧ PySem.intText? (num c) = some c ∧ c.natAbs.log2 < 1920 := by
  have := List.all_eq_true.mp num_ok c h
  simp only [Bool.and_eq_true, decide_eq_true_eq] at this
  exact ⟨okS_iff this.1.1, this.1.2, this.2⟩

theorem wp_strNum {θ : Nat → Option AV} {σ : List AO} {i : Int} {Q : AV → St → Prop} (hi : i.natAbs.log2 < 1920) (hq : Q (.str (num i)) ⟨θ, σ⟩) : wp (strK [.int i]) ⟨θ, σ⟩ Q := wp_strInt hi hq
theorem mem_kids {ab : Int → Int} {c x : Int} : c ∈ kids ab x ↔ c ∈ iv6 ∧ ab c = x := by
  unfold kids; rw [List.mem_filter, decide_eq_true_eq]
theorem kids_nd {ab : Int → Int} {x : Int} : (kids ab x).Nodup := List.Nodup.sublist List.filter_sublist (by decide)
theorem kids_len {ab : Int → Int} {x : Int} : (kids ab x).length ≤ 6 := List.length_filter_le _ _

theorem nd_len {α : Type} [DecidableEq α] : ∀ {l m : List α}, l.Nodup → (∀ x ∈ l, x ∈ m) → l.length ≤ m.length
  | [], _, _, _ => Nat.zero_le _
  | a :: l, m, hn, h => by
    rw [List.nodup_cons] at hn
    have ha := h a (List.mem_cons_self ..)
    have := nd_len (m := m.erase a) hn.2 fun x hx => (List.mem_erase_of_ne fun (e : x = a) => hn.1 (e ▸ hx)).mpr (h x (List.mem_cons_of_mem _ hx))
    rw [List.length_erase_of_mem ha] at this
    have := List.length_pos_of_mem ha
    rw [List.length_cons]; omega
structure Pops (ab : Int → Int) (xs hs : List Int) : Prop where
  perm : (xs ++ hs).Perm (0 :: xs.flatMap (kids ab))
  nd : (xs ++ hs).Nodup
  least : ∀ p x q, xs = p ++ x :: q → ∀ c ∈ 0 :: p.flatMap (kids ab), c ∉ p → x ≤ c
  mem : ∀ p x q, xs = p ++ x :: q → x ∈ 0 :: p.flatMap (kids ab)
structure NpI (np : Int → Int) (xs hs : List Int) : Prop where
  on : ∀ c ∈ hs, np c = -1
  off : ∀ c ∈ iv6, c ∉ xs ++ hs → np c = 1
noncomputable def mark (ks : List Int) (v : Int) (f : Int → Int) : Int → Int := fun j => if j ∈ ks then v else f j
theorem fold_mark (v : Int) : ∀ (ks : List Int) (f : Int → Int), ks.foldl (fun np k => setF np k v) f = mark ks v f
  | [], f => by funext j; unfold mark; rw [if_neg (by simp)]; rfl
  | k :: ks, f => by
    rw [List.foldl_cons, fold_mark v ks]
    funext j
    unfold mark setF
    by_cases h : j ∈ ks
    · rw [if_pos h, if_pos (List.mem_cons_of_mem _ h)]
    · rw [if_neg h]
      by_cases e : j = k
      · rw [if_pos e, if_pos (e ▸ List.mem_cons_self ..)]
      · rw [if_neg e, if_neg (fun q => (List.mem_cons.mp q).elim e h)]
theorem fold_relax : ∀ (ks : List Int) (f : Int → Int) (l : List Int), ks.Nodup → (∀ k ∈ ks, f k = 1) → ks.foldl relax1 (f, l) = (mark ks 0 f, l ++ ks)
  | [], f, l, _, _ => by
    rw [List.append_nil]
    have : mark [] 0 f = f := by funext j; unfold mark; rw [if_neg (by simp)]
    rw [this]; rfl
  | k :: ks, f, l, hn, h => by
    rw [List.nodup_cons] at hn
    have h1 : relax1 (f, l) k = (setF f k 0, l ++ [k]) := by
      unfold relax1
      show (setF f k (f k - 1), if f k - 1 = 0 then l ++ [k] else l) = _
      rw [if_pos (by rw [h k (List.mem_cons_self ..)]; rfl), h k (List.mem_cons_self ..)]
      rfl
    rw [List.foldl_cons, h1, fold_relax ks _ _ hn.2 fun j hj => ?_]
    · rw [List.append_assoc]
      have : mark ks 0 (setF f k 0) = mark (k :: ks) 0 f := by
        rw [← fold_mark, ← fold_mark]; rfl
      rw [this]; rfl
    · unfold setF
      rw [if_neg (fun (e : j = k) => hn.1 (e ▸ hj))]
      exact h j (List.mem_cons_of_mem _ hj)

section
variable {ab : Int → Int} {rk : Int → Nat} {xs hs hs' : List Int} {m : Int} {np : Int → Int}
theorem Pops.nil : Pops ab [] [0] := ⟨.refl _, by simp, fun p x q e => by (cases p <;> cases e), fun p x q e => by (cases p <;> cases e)⟩
theorem Pops.kid (h : Pops ab xs (m :: hs)) {c : Int} (hc : c ∈ kids ab m) : c ∉ xs ++ m :: hs := fun q => by
  have nd := List.nodup_append.mp h.nd
  rcases List.mem_cons.mp (h.perm.mem_iff.mp q) with e | e
  · have := (mem_kids.mp hc).1; rw [e, mem6] at this; omega
  · obtain ⟨x, hx, hcx⟩ := List.mem_flatMap.mp e
    have : x = m := (mem_kids.mp hcx).2.symm.trans (mem_kids.mp hc).2
    exact nd.2.2 x hx m (List.mem_cons_self ..) this
theorem Pops.step (h : Pops ab xs hs) (hp : (m :: hs').Perm hs) (hm : ∀ y ∈ hs', m ≤ y) {hn : List Int} (hq : hn.Perm (kids ab m ++ hs')) : Pops ab (xs ++ [m]) hn := by
  have h1 : (xs ++ m :: hs').Perm (xs ++ hs) := hp.append_left xs
  have P1 : (xs ++ [m] ++ hn).Perm (0 :: (xs ++ [m]).flatMap (kids ab)) := by
    rw [List.flatMap_append, List.flatMap_singleton]
    refine ((hq.append_left (xs ++ [m])).trans ?_)
    have h2 := (h1.trans h.perm).append_right (kids ab m)
    refine List.Perm.trans ?_ h2
    rw [List.append_assoc, List.append_assoc]
    refine List.Perm.append_left xs ?_
    show (m :: (kids ab m ++ hs')).Perm (m :: (hs' ++ kids ab m))
    exact List.perm_append_comm.cons m
  have nd1 : (xs ++ m :: hs').Nodup := h1.nodup_iff.mpr h.nd
  have h3 : Pops ab xs (m :: hs') := ⟨h1.trans h.perm, nd1, h.least, h.mem⟩
  have nd2 : (xs ++ [m] ++ hn).Nodup := by
    refine ((hq.append_left (xs ++ [m])).nodup_iff).mpr ?_
    have : (xs ++ [m] ++ (kids ab m ++ hs')).Perm (kids ab m ++ (xs ++ m :: hs')) := by
      rw [List.append_assoc]
      refine (List.Perm.append_left xs (t₂ := kids ab m ++ m :: hs') ?_).trans ?_
      · exact (List.perm_middle (a := m) (l₁ := kids ab m) (l₂ := hs')).symm
      · rw [← List.append_assoc, ← List.append_assoc]
        exact List.perm_append_comm.append_right _
    refine this.nodup_iff.mpr (List.nodup_append.mpr ⟨kids_nd, nd1, fun a ha b hb e => h3.kid ha (e ▸ hb)⟩)
  refine ⟨P1, nd2, fun p x q e c hc hcp => ?_, fun p x q e => ?_⟩
  rotate_left
  · rcases List.eq_nil_or_concat q with rfl | ⟨q', z, rfl⟩
    · obtain ⟨rfl, e2⟩ := List.append_inj' e rfl
      cases e2
      exact h.perm.mem_iff.mp (List.mem_append_right _ (hp.mem_iff.mp (List.mem_cons_self ..)))
    · have e' : xs ++ [m] = (p ++ x :: q') ++ [z] := by rw [e]; simp
      obtain ⟨rfl, -⟩ := List.append_inj' e' rfl
      exact h.mem p x q' rfl
  rcases List.eq_nil_or_concat q with rfl | ⟨q', z, rfl⟩
  · obtain ⟨rfl, e2⟩ := List.append_inj' e rfl
    cases e2
    have : c ∈ xs ++ m :: hs' := (h1.trans h.perm).mem_iff.mpr hc
    rcases List.mem_append.mp this with q | q
    · exact absurd q hcp
    · rcases List.mem_cons.mp q with rfl | q
      · exact Int.le_refl _
      · exact hm c q
  · have e' : xs ++ [m] = (p ++ x :: q') ++ [z] := by rw [e]; simp
    obtain ⟨rfl, -⟩ := List.append_inj' e' rfl
    exact h.least p x q' rfl c hc hcp
theorem NpI.step (h : NpI np xs hs) (Y : Pops ab xs hs) (hp : (m :: hs').Perm hs) {hn : List Int} (hq : hn.Perm (kids ab m ++ hs')) :
    done1 (kids ab) (np, []) m = (mark (kids ab m) 0 (setF np m (-2)), kids ab m) ∧ NpI (mark (kids ab m) (-1) (mark (kids ab m) 0 (setF np m (-2)))) (xs ++ [m]) hn := by
  have Y3 : Pops ab xs (m :: hs') := ⟨(hp.append_left xs).trans Y.perm, (hp.append_left xs).nodup_iff.mpr Y.nd, Y.least, Y.mem⟩
  have nd := List.nodup_append.mp Y3.nd
  have hk : ∀ c ∈ kids ab m, c ∉ xs ++ hs := fun c hc q => Y3.kid hc ((hp.append_left xs).mem_iff.mpr q)
  refine ⟨?_, fun c hc => ?_, fun c hc hx => ?_⟩
  · unfold done1
    refine (fold_relax _ _ _ kids_nd fun k hk' => ?_).trans (by rw [List.nil_append])
    unfold setF
    dsimp only
    have h1 := hk k hk'
    rw [if_neg (fun (e : k = m) => h1 (List.mem_append_right _ (hp.mem_iff.mp (e ▸ List.mem_cons_self ..))))]
    exact h.off k (mem_kids.mp hk').1 h1
  · unfold mark
    by_cases hcm : c ∈ kids ab m
    · rw [if_pos hcm]
    · rw [if_neg hcm, if_neg hcm]
      have : c ∈ hs' := (List.mem_append.mp (hq.mem_iff.mp hc)).resolve_left hcm
      unfold setF
      rw [if_neg (fun (e : c = m) => (List.nodup_cons.mp nd.2.1).1 (e ▸ this))]
      exact h.on c (hp.mem_iff.mp (List.mem_cons_of_mem _ this))
  · have hcm : c ∉ kids ab m := fun q => hx (List.mem_append_right _ (hq.mem_iff.mpr (List.mem_append_left _ q)))
    unfold mark setF
    rw [if_neg hcm, if_neg hcm]
    rw [if_neg (fun (e : c = m) => hx (List.mem_append_left _ (List.mem_append_right _ (e ▸ List.mem_singleton.mpr rfl))))]
    refine h.off c hc fun q => hx ?_
    rcases List.mem_append.mp q with q | q
    · exact List.mem_append_left _ (List.mem_append_left _ q)
    · rcases List.mem_cons.mp (hp.mem_iff.mpr q) with rfl | q
      · exact List.mem_append_left _ (List.mem_append_right _ (List.mem_singleton.mpr rfl))
      · exact List.mem_append_right _ (hq.mem_iff.mpr (List.mem_append_right _ q))
theorem Pops.all (h : Pops ab xs hs) {c : Int} (hc : c ∈ xs ++ hs) : c ∈ iv7 := by
  rcases List.mem_cons.mp (h.perm.mem_iff.mp hc) with rfl | e
  · decide
  · obtain ⟨x, -, hcx⟩ := List.mem_flatMap.mp e
    have := (mem_kids.mp hcx).1
    rw [mem6] at this
    rw [mem7]; omega
theorem Pops.size (h : Pops ab xs hs) : xs.length + hs.length ≤ 7 := by
  rw [← List.length_append]
  exact nd_len h.nd fun c hc => h.all hc
theorem Pops.done (t : Tree ab rk) (h : Pops ab xs []) : ∀ c ∈ iv7, c ∈ xs := by
  have key : ∀ (n : Nat) (c : Int), rk c < n → c ∈ iv7 → c ∈ xs := by
    intro n
    induction n with
    | zero => intro c h; omega
    | succ n ih =>
      intro c hn hc
      have hx : c ∈ 0 :: xs.flatMap (kids ab) := by
        by_cases h0 : c = 0
        · rw [h0]; exact List.mem_cons_self ..
        · have h6 : c ∈ iv6 := by rw [mem7] at hc; rw [mem6]; omega
          obtain ⟨u1, u2⟩ := t.h c h6
          exact List.mem_cons_of_mem _ (List.mem_flatMap.mpr ⟨ab c, ih _ (by omega) u1, mem_kids.mpr ⟨h6, rfl⟩⟩)
      have := h.perm.mem_iff.mpr hx
      rwa [List.append_nil] at this
  exact fun c hc => key (rk c + 1) c (Nat.lt_succ_self _) hc
theorem Pops.ne (t : Tree ab rk) (h : Pops ab xs hs) (hl : xs.length < 7) : hs ≠ [] := fun e => by
  subst e
  have := nd_len (l := iv7) (by decide) (h.done t)
  have h7 : iv7.length = 7 := rfl
  omega
end
end Mine
set_option Elab.async false
set_option maxRecDepth 100000
namespace Mine
open PySem PyProof.Rows PySem.W PySem.SeqAt
local macro_rules | `(tactic| walk_at "w") => `(tactic| first
  | with_reducible refine wp_bind ?_ | ((with_reducible refine wp_getv (a := ?a) ?h ?hq); (case h => rfl)) | ((with_reducible refine wp_setv ?_ ?_); · rfl) | with_reducible refine wp_ret ?_ | with_reducible refine thenQ_next ?_ | with_reducible refine wp_then ?_
  | with_reducible refine thenQ_brk ?_ | with_reducible refine thenQ_cont ?_ | with_reducible refine thenQ_ret ?_ | with_reducible refine whileQ_next ?_ | with_reducible refine whileQ_cont ?_ | with_reducible refine whileQ_brk ?_ | with_reducible refine whileQ_ret ?_
  | with_reducible refine forQ_next ?_ | with_reducible refine forQ_cont ?_ | with_reducible refine forQ_brk ?_ | with_reducible refine forQ_ret ?_)
section
variable {σ0 σ σ' : List AO} {ab : Int → Int} {rk : Int → Nat} {o : Nat} {n : Nat} {T : TsD}

structure AddI (n : Nat) (ab : Int → Int) (d : List Int) (σ : List AO) (T : TsD) : Prop where
  ts : TsR σ T
  r : T.r = .none
  s : T.s = n + 1
  cnt : T.cnt ≤ 3 * d.length
  ft : ∀ i ∈ T.foot, n ≤ i
  np : ∀ i, T.np i = if i ∈ d then 1 else 0
  su : ∀ p, T.su p = d.filter fun c => ab c = p
  k7 : ∀ k ∈ T.ks, k ∈ iv7
  kd : ∀ c ∈ d, c ∈ T.ks ∧ ab c ∈ T.ks
theorem mem_nodeAdd {ks : List Int} {k x : Int} : x ∈ nodeAdd ks k ↔ x ∈ ks ∨ x = k := by
  unfold nodeAdd
  split
  · rename_i h
    exact ⟨.inl, fun q => q.elim id fun e => e ▸ h⟩
  · rw [List.mem_append, List.mem_singleton]
theorem AddI.step {d : List Int} {c : Int} {T' : TsD} (I : AddI n ab d σ T) (hn : n ≤ σ.length) (hc : c ∉ d) (h7 : c ∈ iv7) (ha : ab c ∈ iv7) (R : TsR σ' T') (G : Grows σ T T')
    (hk : T'.ks = [ab c].foldl nodeAdd (nodeAdd T.ks c)) (hnp : T'.np = setF T.np c (T.np c + [ab c].length)) (hsu : T'.su = [ab c].foldl (addSu c) T.su) (hcn : T'.cnt ≤ T.cnt + 2 * [ab c].length + 1) : AddI n ab (d ++ [c]) σ' T' := by
  have mk : ∀ x, x ∈ T'.ks ↔ (x ∈ T.ks ∨ x = c) ∨ x = ab c := fun x => by
    rw [hk]; show x ∈ nodeAdd (nodeAdd T.ks c) (ab c) ↔ _; rw [mem_nodeAdd, mem_nodeAdd]
  refine ⟨R, G.r.trans I.r, G.s.trans I.s, ?_, fun i hi => ?_, fun i => ?_, fun p => ?_, fun k hk' => ?_, fun x hx => ?_⟩
  · have := I.cnt
    rw [List.length_append]
    simp only [List.length_singleton] at hcn ⊢
    omega
  · rcases G.foot i hi with q | q
    · exact I.ft i q
    · omega
  · rw [hnp]
    unfold setF
    by_cases e : i = c
    · rw [if_pos e, if_pos (by rw [e]; simp), I.np c, if_neg hc]; rfl
    · rw [if_neg e, I.np i]
      by_cases h : i ∈ d
      · rw [if_pos h, if_pos (List.mem_append_left _ h)]
      · rw [if_neg h, if_neg (by simp [h, e])]
  · rw [hsu]
    show addSu c T.su (ab c) p = _
    unfold addSu
    rw [List.filter_append, I.su p]
    by_cases e : p = ab c
    · rw [if_pos e, List.filter_cons_of_pos (by simp [e])]; rfl
    · rw [if_neg e, List.filter_cons_of_neg (by simpa using fun q => e q.symm), List.filter_nil, List.append_nil]
  · rcases (mk k).mp hk' with (q | q) | q
    · exact I.k7 k q
    · exact q ▸ h7
    · exact q ▸ ha
  · rcases List.mem_append.mp hx with q | q
    · exact ⟨(mk _).mpr (.inl (.inl (I.kd x q).1)), (mk _).mpr (.inl (.inl (I.kd x q).2))⟩
    · rw [List.mem_singleton.mp q]
      exact ⟨(mk _).mpr (.inl (.inr rfl)), (mk _).mpr (.inr rfl)⟩
theorem filter_one {l : List Int} {p : Int → Bool} {z : Int} (hn : l.Nodup) (hz : z ∈ l) (h : ∀ k ∈ l, (p k = true ↔ k = z)) : l.filter p = [z] := by
  induction l with
  | nil => cases hz
  | cons a l ih =>
    rw [List.nodup_cons] at hn
    by_cases e : a = z
    · subst e
      rw [List.filter_cons_of_pos ((h a (List.mem_cons_self ..)).mpr rfl)]
      have : l.filter p = [] := List.filter_eq_nil_iff.mpr fun k hk hp => hn.1 ((h k (List.mem_cons_of_mem _ hk)).mp hp ▸ hk)
      rw [this]
    · rw [List.filter_cons_of_neg fun hp => e ((h a (List.mem_cons_self ..)).mp hp)]
      exact ih hn.2 ((List.mem_cons.mp hz).resolve_left fun q => e q.symm) fun k hk => h k (List.mem_cons_of_mem _ hk)
theorem wtS_lin {su : Int → List Int} {S : Int → Bool} {b : Nat} (h : ∀ k, (su k).length ≤ b) : ∀ l : List Int, wtS su S l ≤ l.length * (b + 2)
  | [] => Nat.zero_le _
  | v :: l => by
    have := wtS_lin (S := S) h l
    have := h v
    unfold wtS
    rw [List.length_cons, Nat.succ_mul]
    split <;> omega
structure AddE (n : Nat) (ab : Int → Int) (σ : List AO) (T : TsD) : Prop where
  su : T.su = kids ab
  k7 : ∀ c, c ∈ T.ks ↔ c ∈ iv7
  np : ∀ i, T.np i = if i ∈ iv6 then 1 else 0
  cnt : T.cnt ≤ 18
  zs : zeros T.np T.L = [0]
theorem AddI.end_ (t : Tree ab rk) (I : AddI n ab iv6 σ T) : AddE n ab σ T := by
  have h7 : ∀ c ∈ iv7, c ≠ 0 → c ∈ iv6 := fun c hc h => by rw [mem7] at hc; rw [mem6]; omega
  have z : (0 : Int) ∈ T.ks := by
    have key : ∀ (m : Nat) (c : Int), rk c < m → c ∈ iv7 → c ∈ T.ks → (0 : Int) ∈ T.ks := by
      intro m
      induction m with
      | zero => intro c h; omega
      | succ m ih =>
        intro c hm hc hk
        by_cases h0 : c = 0
        · exact h0 ▸ hk
        · obtain ⟨u1, u2⟩ := t.h c (h7 c hc h0)
          exact ih _ (by omega) u1 (I.kd c (h7 c hc h0)).2
    exact key _ 1 (Nat.lt_succ_self _) (by decide) (I.kd 1 (by decide)).1
  have k7 : ∀ c, c ∈ T.ks ↔ c ∈ iv7 := fun c => ⟨I.k7 c, fun h => by
    by_cases h0 : c = 0
    · exact h0 ▸ z
    · exact (I.kd c (h7 c h h0)).1⟩
  refine ⟨funext I.su, k7, I.np, I.cnt, filter_one I.ts.nd z fun k hk => ?_⟩
  have hk7 := (k7 k).mp hk
  rw [I.np k]
  by_cases h : k ∈ iv6
  · rw [if_pos h]
    have h0 : k ≠ 0 := by rw [mem6] at h; omega
    simp [h0]
  · rw [if_neg h]
    have h0 : k = 0 := Classical.byContradiction fun q => h (h7 k hk7 q)
    simp [h0]
end
end Mine
set_option Elab.async false
set_option maxRecDepth 100000
namespace Mine
open PySem PyProof.Rows PySem.W PySem.SeqAt
local macro_rules | `(tactic| walk_at "w") => `(tactic| first
  | with_reducible refine wp_bind ?_ | ((with_reducible refine wp_getv (a := ?a) ?h ?hq); (case h => rfl)) | ((with_reducible refine wp_setv ?_ ?_); · rfl) | with_reducible refine wp_ret ?_ | with_reducible refine thenQ_next ?_ | with_reducible refine wp_then ?_
  | with_reducible refine thenQ_brk ?_ | with_reducible refine thenQ_cont ?_ | with_reducible refine thenQ_ret ?_ | with_reducible refine whileQ_next ?_ | with_reducible refine whileQ_cont ?_ | with_reducible refine whileQ_brk ?_ | with_reducible refine whileQ_ret ?_
  | with_reducible refine forQ_next ?_ | with_reducible refine forQ_cont ?_ | with_reducible refine forQ_brk ?_ | with_reducible refine forQ_ret ?_)
section
variable {σ σ' : List AO} {ab : Int → Int} {rk : Int → Nat} {o : Nat} {T : TsD} {θ : Nat → Option AV}

noncomputable def toldθ (o s : Nat) (one tb hp step : Option AV) : List (Option AV) := [some (.obj o), some (.obj s), one, tb, hp, step, none, none, none, none, none, none]
structure ToldI (σ : List AO) (T : TsD) (r t d l hp : Nat) (ab : Int → Int) (o : Nat) (xs : List Int) (st : St) : Prop where
  θ : ∃ l2 l5, st.θ = th (toldθ o T.s l2 (some (.obj t)) (some (.obj hp)) l5)
  s : ∃ np hs, Sys σ st.σ T r ⟨t, d, l, rows ab xs⟩ hp np [] hs ∧ Pops ab xs hs ∧ NpI np xs hs
theorem rows_step {xs : List Int} {m : Int} {ds q : List Str} {s : Str} (e : ds ++ s :: q = stp) (hl : xs.length = ds.length) : rows ab (xs ++ [m]) = rows ab xs ++ row ab (m, s) := by
  unfold rows
  rw [← e, List.zip_append hl]
  have : xs.zip (ds ++ s :: q) = xs.zip ds := by
    have := List.zip_append (r₁ := []) (r₂ := s :: q) hl
    rwa [List.append_nil, List.zip_nil_left, List.append_nil] at this
  rw [this, List.flatMap_append]
  show _ = _
  simp
theorem rows_len {xs : List Int} (h : xs.length ≤ 7) : (rows ab xs).length ≤ 42 := by
  unfold rows
  rw [List.length_flatMap]
  have : ∀ (l : List (Int × Str)), (l.map fun p => (row ab p).length).sum ≤ 6 * l.length := by
    intro l
    induction l with
    | nil => exact Nat.le_refl _
    | cons a l ih =>
      rw [List.map_cons, List.sum_cons, List.length_cons]
      have : (row ab a).length ≤ 6 := by unfold row; rw [List.length_map]; exact kids_len
      omega
  have h1 := this (xs.zip stp)
  have h2 : (xs.zip stp).length ≤ 7 := by rw [List.length_zip]; exact Nat.le_trans (Nat.min_le_left ..) h
  omega


inductive LtA (σ : List AO) (ab : Int → Int) (o : Nat) (d0 r : List AV) (st : St) : Prop
  | mk (ds q : List Int) (T : TsD) (l2 : Option AV) (e1 : ds ++ q = iv6) (e2 : r = q.map .int) (e3 : st.θ = th (toldθ o (σ.length + 1) l2 none none none)) (e4 : Frm σ st.σ []) (e5 : AddI σ.length ab ds st.σ T) : LtA σ ab o d0 r st
inductive LtB (o : Nat) (T : TsD) (σ σ3 σ4 : List AO) (r : Nat) (np5 : Int → Int) (d0 r' : List AV) (st : St) : Prop
  | mk (q1 q2 hs : List Int) (l2 : Option AV) (e1 : q1 ++ q2 = [0]) (e2 : r' = q2.map .int) (e3 : st.θ = th (toldθ o T.s l2 (some (.obj (σ3.length + 1))) (some (.obj σ4.length)) none)) (e4 : Sys σ st.σ T r ⟨σ3.length + 1, σ3.length, σ3.length + 2, []⟩ σ4.length np5 [] hs) (e5 : hs.Perm q1) : LtB o T σ σ3 σ4 r np5 d0 r' st
inductive LtD (σ : List AO) (T : TsD) (r n3 n4 : Nat) (ab : Int → Int) (o : Nat) (d0 r' : List AV) (st : St) : Prop
  | mk (ds q : List Str) (xs : List Int) (e1 : ds ++ q = stp) (e2 : r' = q.map .str) (e3 : xs.length = ds.length) (e4 : ToldI σ T r (n3 + 1) n3 (n3 + 2) n4 ab o xs st) : LtD σ T r n3 n4 ab o d0 r' st
inductive LtC (σ : List AO) (o : Nat) (T : TsD) (r n3 n4 : Nat) (s : Str) (ab : Int → Int) (xs : List Int) (m : Int) (np : Int → Int) (hs' : List Int) (d0 r' : List AV) (st : St) : Prop
  | mk (q1 q2 hs1 : List Int) (l2 : Option AV) (e1 : q1 ++ q2 = kids ab m) (e2 : r' = q2.map .int) (e3 : st.θ = th (toldθ o T.s l2 (some (.obj (n3 + 1))) (some (.obj n4)) (some (.str s)))) (e4 : Sys σ st.σ T r ⟨n3 + 1, n3, n3 + 2, rows ab xs ++ q1.map fun c => (ltr s c, num c)⟩ n4 (mark (kids ab m) (-1) (mark (kids ab m) 0 (setF np m (-2)))) [] hs1) (e5 : hs1.Perm (q1 ++ hs')) : LtC σ o T r n3 n4 s ab xs m np hs' d0 r' st
set_option maxHeartbeats 4000000 in
theorem law_told_spec (t : Tree ab rk) (h : σ[o]? = some (.list (tl ab))) :
    wpF (F_law_told [.obj o] [] σ) fun v σ' => ∃ H xs hs, v = .obj H.t ∧ HdR σ' H ∧ Frm σ σ' [] ∧ σ.length ≤ H.l ∧ H.ps = rows ab xs ∧ xs.length = 7 ∧ Pops ab xs hs := by
  refine wpF_of (l := toldθ o 0 none none none none |>.set 1 none) 12 (by rfl) (by rfl) (by rfl) (by rfl) (wp_then ?_)
  repeat walk_at "w"
  refine wp_liftF (wpF_mono ts_new ?_)
  rintro _ σ1 ⟨rfl, R1, F1⟩
  repeat walk_at "w"
  refine wp_of (a := .rng 1 1 6) rfl ?_
  refine wp_src (vs := iv6.map .int) (g := none) rfl ?_
  refine wp_forL (LtA σ ab o)
    ⟨[], iv6, _, none, rfl, rfl, rfl, F1, R1, rfl, rfl, by show 0 ≤ 0; decide, fun i hi => ?_, fun u1 => rfl, fun u1 => rfl, by nofun, by nofun⟩ ?_ ?_
  · rcases foot_iff.mp hi with rfl | rfl | rfl | ⟨x, hx, -⟩
    · exact Nat.le_succ _
    · exact Nat.le_refl _
    · exact Nat.le_add_right _ _
    · cases hx
  · rintro _ a r ⟨_, σ2⟩ - ⟨ds, q, T, l2, hq, hr, (rfl : _ = th _), F, I⟩
    cases q with
    | nil => cases hr
    | cons c q =>
      rw [List.map_cons, List.cons.injEq] at hr
      obtain ⟨rfl, rfl⟩ := hr
      have nd : (ds ++ c :: q).Nodup := by rw [hq]; decide
      have h6 : c ∈ iv6 := by rw [← hq]; simp
      have h7 : c ∈ iv7 := by rw [mem7]; rw [mem6] at h6; omega
      refine ⟨gOk_none, ?_⟩
      repeat walk_at "w"
      rw [← I.s]
      refine wp_guard (isInst_of I.ts.hs I.ts.hd tsA_add) ?_
      repeat walk_at "w"
      refine wp_sub_list (F.same _ _ (by simp) h) (tl_get h7) ?_
      repeat walk_at "w"
      have hdl : ds.length ≤ 6 := by have := congrArg List.length hq; rw [List.length_append] at this; have : iv6.length = 6 := rfl; omega
      refine wp_liftF (wpF_mono (add_spec (ps := [ab c]) I.ts I.r (by have := I.cnt; show _ + 2 * 1 + 2 < _; omega)) ?_)
      rintro _ σ3 ⟨rfl, T', R', F', G, k1, k2, k3, k4⟩
      repeat walk_at "w"
      exact ⟨ds ++ [c], q, T', some (.int c), by rw [List.append_assoc]; exact hq, rfl, by rw [I.s]; rfl, F.out F' (Nat.le_refl _) I.ft,
        I.step F.len (fun hc => (List.nodup_append.mp nd).2.2 c hc c (List.mem_cons_self ..) rfl) h7 (t.h c h6).1 R' G k1 k2 k3 k4⟩
  rintro ⟨_, σ2⟩ ⟨ds, q, T, l2, hq, hr, (rfl : _ = th _), F, I⟩
  have : q = [] := by cases q with | nil => rfl | cons _ _ => cases hr
  subst this
  rw [List.append_nil] at hq
  subst hq
  have E := I.end_ t
  refine ⟨gOk_none, ?_⟩
  repeat walk_at "w"
  rw [← I.s]
  refine wp_guard (isInst_of I.ts.hs I.ts.hd tsA_prep) ?_
  repeat walk_at "w"
  have kin : ∀ k s, s ∈ T.su k → s ∈ T.ks := fun k s hs => by
    rw [E.su] at hs
    have := (mem_kids.mp hs).1
    rw [E.k7, mem7]; rw [mem6] at this; omega
  have tcnt : T.L.length ≤ T.cnt := I.ts.len
  have ecnt := E.cnt
  refine wp_liftF (wpF_mono (prepare_spec (rk := rk) I.ts I.r (fun k hk s hs => ⟨kin k s hs, ?_⟩) ?_ (by omega)) ?_)
  · rw [E.su] at hs
    obtain ⟨u1, u2⟩ := mem_kids.mp hs
    rw [← u2]
    exact (t.h s u1).2
  · have h1 := wtS_lin (su := T.su) (S := fun u1 => false) (b := 18) (fun k => Nat.le_trans (I.ts.sz k) ecnt) T.ks
    have h2 : T.ks.length = T.L.length := List.length_map ..
    have h3 : T.ks.length * (18 + 2) ≤ 18 * 20 := by rw [h2]; exact Nat.mul_le_mul (by omega) (Nat.le_refl _)
    omega
  rintro _ σ3 ⟨rfl, R3, Y3, F3⟩
  have G3 : Frm σ σ3 [] := F.out F3 (Nat.le_refl _) I.ft
  rw [E.zs] at Y3
  generalize hr : σ2.length = r at *
  have hr1 : r < σ3.length := lt_of_get Y3.list
  have hr0 : σ.length ≤ r := hr ▸ F.len
  repeat walk_at "w"
  refine wp_liftF (wpF_mono hd_new ?_)
  rintro _ σ4 ⟨rfl, D4, F4⟩
  have hd4 := lt_of_get D4.hl
  dsimp only at hd4
  repeat walk_at "w"
  refine wp_newL (by decide) ?_
  have Z : Sep σ.length T r ⟨σ3.length + 1, σ3.length, σ3.length + 2, []⟩ σ4.length := by
    have hlt : ∀ i ∈ r :: T.foot, i < σ3.length := fun i hi => by
      rcases List.mem_cons.mp hi with e | e
      · rw [e]; exact hr1
      · exact R3.foot_lt (i := i) e
    have hle : ∀ i ∈ r :: T.foot, σ.length ≤ i := fun i hi => by
      rcases List.mem_cons.mp hi with e | e
      · rw [e]; exact hr0
      · exact I.ft i e
    have := G3.len
    exact ⟨fun i hi => by have := hlt i hi; refine ⟨hle i hi, ?_, ?_, ?_, ?_⟩ <;> (try dsimp only) <;> omega, by dsimp only; omega, by omega, by dsimp only; omega, by dsimp only; omega, by dsimp only; omega⟩
  have hne : ∀ x ∈ T.L, x.2.2 ≠ r := Y3.ne
  have Y : Sys σ (σ4 ++ [.list []]) T r ⟨σ3.length + 1, σ3.length, σ3.length + 2, []⟩ σ4.length T.np [0] [] := ⟨⟨T.po, T.nf, (F4.ts R3).push _⟩, get_app (F4.same _ _ (by simp) Y3.list), D4.push _, get_new, fun i j u1 u v hu => by simp at hu, (G3.out F4 (Nat.le_refl _) (by nofun)).pushN _⟩
  repeat walk_at "w"
  obtain ⟨po, nf, RY⟩ := Y.ts
  refine wp_guard (isInst_of RY.hs RY.hd tsA_gr) ?_
  repeat walk_at "w"
  refine wp_liftF (wpF_mono (sys_ready Y Z hne (by intro k hk; rw [List.mem_singleton.mp hk, E.k7]; decide) (by decide)) ?_)
  rintro _ σ5 ⟨rfl, Y5⟩
  generalize hnp : List.foldl (fun np k => setF np k (-1)) T.np [0] = np5 at Y5
  refine wp_srcT ?_
  refine wp_forL (LtB o T σ σ3 σ4 r np5)
    ⟨[], [0], [], l2, rfl, rfl, rfl, Y5, .refl _⟩ ?_ ?_
  · rintro _ a r' ⟨_, σ6⟩ - ⟨q1, q2, hs, l2, hq, hr, (rfl : _ = th _), Y6, hp⟩
    cases q2 with
    | nil => cases hr
    | cons c q2 =>
      rw [List.map_cons, List.cons.injEq] at hr
      obtain ⟨rfl, rfl⟩ := hr
      have hl := hp.length_eq
      have hl2 := congrArg List.length hq
      rw [List.length_append, List.length_cons] at hl2
      refine ⟨gOk_none, ?_⟩
      repeat walk_at "w"
      refine wp_liftF (wpF_mono (sys_push Y6 Z (by simp only [List.length_singleton] at hl2; omega)) ?_)
      rintro _ σ7 ⟨rfl, hs', hp', Y7⟩
      repeat walk_at "w"
      exact ⟨q1 ++ [c], q2, hs', some (.int c), by rw [List.append_assoc]; exact hq, rfl, rfl, Y7, hp'.trans ((hp.cons c).trans (List.perm_append_singleton c q1).symm)⟩
  rintro ⟨_, σ6⟩ ⟨q1, q2, hs, l2, hq, hr, (rfl : _ = th _), Y6, hp⟩
  have : q2 = [] := by cases q2 with | nil => rfl | cons _ _ => cases hr
  subst this
  rw [List.append_nil] at hq
  subst hq
  obtain rfl := List.perm_singleton.mp hp
  refine ⟨gOk_none, ?_⟩
  have N6 : NpI np5 [] [0] := by
    have e : ∀ j, np5 j = if j ∈ [(0 : Int)] then -1 else T.np j := fun j => by rw [← hnp, fold_mark]; rfl
    refine ⟨fun c hc => by rw [e, if_pos hc], fun c hc hx => ?_⟩
    rw [e, if_neg (show c ∉ [(0 : Int)] from hx), E.np, if_pos hc]
  have I6 : ToldI σ T r (σ3.length + 1) σ3.length (σ3.length + 2) σ4.length ab o [] ⟨th (toldθ o T.s l2 (some (.obj (σ3.length + 1))) (some (.obj σ4.length)) none), σ6⟩ := ⟨⟨l2, none, rfl⟩, np5, [0], Y6, .nil, N6⟩
  generalize hs0 : σ3.length = n3 at *
  generalize hs1 : σ4.length = n4 at *
  clear hs0 hs1 hnp N6 Y6 Y5 RY Y D4 F4 R3 Y3 F3
  repeat walk_at "w"
  refine wp_src (vs := stp.map .str) (g := none) rfl ?_
  refine wp_forL (LtD σ T r n3 n4 ab o) ⟨[], stp, [], rfl, rfl, rfl, I6⟩ ?_ ?_
  · rintro _ a r' ⟨_, σ7⟩ - ⟨ds, q, xs, hq, hr, hxs, I7⟩
    cases q with
    | nil => cases hr
    | cons s q =>
      rw [List.map_cons, List.cons.injEq] at hr
      obtain ⟨rfl, rfl⟩ := hr
      obtain ⟨l2, l5, (rfl : _ = th _)⟩ := I7.θ
      obtain ⟨np, hs, Y7, P7, N7⟩ := I7.s
      have hst : s ∈ stp := by rw [← hq]; simp
      have hdl : ds.length + (q.length + 1) = 7 := by have := congrArg List.length hq; rw [List.length_append, List.length_cons] at this; exact this
      have hsz := P7.size
      refine ⟨gOk_none, ?_⟩
      obtain ⟨po, nf, R7⟩ := Y7.ts
      have Z7 := Z.ps (rows ab xs)
      repeat walk_at "w"
      refine wp_guard (isInst_of R7.hs R7.hd tsA_done) ?_
      repeat walk_at "w"
      refine wp_liftF (wpF_mono (sys_pop Y7 Z7 (P7.ne t (by omega)) (by omega)) ?_)
      rintro _ σ8 ⟨m, hs', rfl, hp', hle, Y8⟩
      have hmh : m ∈ hs := hp'.mem_iff.mp (List.mem_cons_self ..)
      have hlen' : hs.length = hs'.length + 1 := hp'.length_eq.symm
      repeat walk_at "w"
      refine wp_liftF (wpF_mono (sys_done (m := m) Y8 Z7 hne ((E.k7 m).mpr (P7.all (List.mem_append_right _ hmh))) (kin m) (N7.on m hmh) (by show 0 + T.cnt < _; omega)) ?_)
      rintro _ σ9 ⟨rfl, Y9⟩
      obtain ⟨e9, -⟩ := N7.step P7 hp' (hn := kids ab m ++ hs') (.refl _)
      rw [E.su, e9] at Y9
      dsimp only at Y9
      obtain ⟨po, nf, R9⟩ := Y9.ts
      repeat walk_at "w"
      refine wp_guard (isInst_of R9.hs R9.hd tsA_gr) ?_
      repeat walk_at "w"
      refine wp_liftF (wpF_mono (sys_ready Y9 Z7 hne (fun k hk => by rw [E.k7, mem7]; have := (mem_kids.mp hk).1; rw [mem6] at this; omega) (Nat.lt_of_le_of_lt kids_len (by decide))) ?_)
      rintro _ σa ⟨rfl, Ya⟩
      rw [fold_mark] at Ya
      refine wp_srcT ?_
      refine wp_forL (LtC σ o T r n3 n4 s ab xs m np hs')
        ⟨[], kids ab m, hs', l2, rfl, rfl, rfl, by rw [List.map_nil, List.append_nil]; exact Ya, .refl _⟩ ?_ ?_
      · rintro _ a r' ⟨_, σb⟩ - ⟨q1, q2, hs1, l2, hq2, hr2, (rfl : _ = th _), Yb, hpb⟩
        cases q2 with
        | nil => cases hr2
        | cons c q2 =>
          rw [List.map_cons, List.cons.injEq] at hr2
          obtain ⟨rfl, rfl⟩ := hr2
          have h6 : c ∈ iv6 := ((mem_kids (x := m)).mp (by rw [← hq2]; simp)).1
          obtain ⟨n1, -, n3'⟩ := num_at h6
          obtain ⟨s1, -⟩ := ltr_ok hst c
          have hql : q1.length ≤ 6 := by
            have := congrArg List.length hq2
            rw [List.length_append] at this
            have := kids_len (ab := ab) (x := m)
            omega
          have hrl := rows_len (ab := ab) (xs := xs) (by omega)
          have hbl := hpb.length_eq
          rw [List.length_append] at hbl
          have Zb := Z.ps (rows ab xs ++ q1.map fun c => (ltr s c, num c))
          refine ⟨gOk_none, ?_⟩
          repeat walk_at "w"
          refine wp_guard (isInst_of Yb.hd.ht Yb.hd.hd hdA_add) ?_
          repeat walk_at "w"
          refine wp_guard isStrV_of ?_
          repeat walk_at "w"
          refine wp_strUpper (x := s) (by have := stp_len hst; omega) ?_
          repeat walk_at "w"
          refine wp_tup (show 2 < 2 ^ 20 by decide) ?_
          repeat walk_at "w"
          refine wp_mod (by decide) ?_
          refine wp_sub_tup (v := .str (ltr s c)) ?_ ?_
          · have b1 := Int.fmod_nonneg_of_pos c (b := 2) (by decide)
            have b2 := Int.fmod_lt_of_pos c (b := 2) (by decide)
            unfold ltr
            by_cases e : c.fmod 2 = 0
            · rw [if_pos e, e]; rfl
            · rw [if_neg e, show c.fmod 2 = 1 by omega]; rfl
          repeat walk_at "w"
          refine wp_strNum n3' ?_
          repeat walk_at "w"
          refine wp_liftF (wpF_mono (sys_add (H := ⟨n3 + 1, n3, n3 + 2, rows ab xs ++ q1.map fun c => (ltr s c, num c)⟩) (x := ltr s c) (y := num c) Yb Zb s1.p n1.p (by have := s1.z; omega) (by have := n1.z; omega) (by rw [List.length_append, List.length_map]; omega)) ?_)
          rintro _ σc ⟨rfl, Yc⟩
          repeat walk_at "w"
          refine wp_liftF (wpF_mono (sys_push (c := c) Yc (Z.ps _) (by omega)) ?_)
          rintro _ σd ⟨rfl, hs2, hp2, Yd⟩
          repeat walk_at "w"
          refine ⟨q1 ++ [c], q2, hs2, some (.int c), by rw [List.append_assoc]; exact hq2, rfl, rfl, ?_, ?_⟩
          · rw [List.map_append, ← List.append_assoc]
            exact Yd
          · refine hp2.trans ((hpb.cons c).trans ?_)
            rw [List.append_assoc]
            exact List.perm_middle.symm
      rintro ⟨_, σb⟩ ⟨q1, q2, hs1, l2, hq2, hr2, (rfl : _ = th _), Yb, hpb⟩
      have : q2 = [] := by cases q2 with | nil => rfl | cons _ _ => cases hr2
      subst this
      rw [List.append_nil] at hq2
      subst hq2
      refine ⟨gOk_none, ?_⟩
      repeat walk_at "w"
      refine ⟨ds ++ [s], q, xs ++ [m], by rw [List.append_assoc]; exact hq, rfl, by rw [List.length_append, List.length_append, hxs]; rfl, ⟨l2, _, rfl⟩, _, hs1, ?_, P7.step hp' hle hpb, (N7.step P7 hp' hpb).2⟩
      rw [rows_step hq hxs]
      exact Yb
  rintro ⟨_, σ7⟩ ⟨ds, q, xs, hq, hr, hxs, I7⟩
  have : q = [] := by cases q with | nil => rfl | cons _ _ => cases hr
  subst this
  rw [List.append_nil] at hq
  subst hq
  obtain ⟨l2, l5, (rfl : _ = th _)⟩ := I7.θ
  obtain ⟨np, hs, Y7, P7, N7⟩ := I7.s
  refine ⟨gOk_none, ?_⟩
  repeat walk_at "w"
  exact ⟨⟨n3 + 1, n3, n3 + 2, rows ab xs⟩, xs, hs, rfl, Y7.hd, Y7.frm, Z.nl, rfl, hxs, P7⟩
end
end Mine
set_option Elab.async false
set_option maxRecDepth 100000
namespace Mine
open PySem PyProof.Rows PySem.W PySem.SeqAt
local macro_rules | `(tactic| walk_at "w") => `(tactic| first
  | with_reducible refine wp_bind ?_ | ((with_reducible refine wp_getv (a := ?a) ?h ?hq); (case h => rfl)) | ((with_reducible refine wp_setv ?_ ?_); · rfl) | with_reducible refine wp_ret ?_ | with_reducible refine thenQ_next ?_ | with_reducible refine wp_then ?_
  | with_reducible refine thenQ_brk ?_ | with_reducible refine thenQ_cont ?_ | with_reducible refine thenQ_ret ?_ | with_reducible refine whileQ_next ?_ | with_reducible refine whileQ_cont ?_ | with_reducible refine whileQ_brk ?_ | with_reducible refine whileQ_ret ?_
  | with_reducible refine forQ_next ?_ | with_reducible refine forQ_cont ?_ | with_reducible refine forQ_brk ?_ | with_reducible refine forQ_ret ?_)

noncomputable def Wish (w : Int → Int) : Prop := w 0 = 0 ∧ ∀ c, 0 ≤ w c ∧ w c ≤ 5
noncomputable def ltw (w : Int → Int) (c : Int) : Str := if c.fmod 2 = 0 then Txt.upper (stp[(w c).toNat]?.getD (S "")) else stp[(w c).toNat]?.getD (S "")
noncomputable def wrow (w : Int → Int) (c : Int) : Str × Str := (ltw w c, num c)
theorem stp_at (w : Int → Int) (h : Wish w) (c : Int) : ∃ s, stp[(w c).toNat]? = some s ∧ s ∈ stp := by
  have : (w c).toNat < stp.length := by have := h.2 c; show _ < 7; omega
  exact ⟨_, List.getElem?_eq_getElem this, List.getElem_mem this⟩
theorem ltw_ok {w : Int → Int} (h : Wish w) (c : Int) : OkS (ltw w c) ∧ stp[(w c).toNat]? = some (Txt.lower (ltw w c)) := by
  obtain ⟨s, hs, hm⟩ := stp_at w h c
  have := List.all_eq_true.mp stp_ok s hm
  unfold lwS at this
  simp only [Bool.and_eq_true, decide_eq_true_eq] at this
  unfold ltw
  rw [hs]
  dsimp only [Option.getD]
  split
  · exact ⟨okS_iff this.2.2, by rw [this.2.1]⟩
  · exact ⟨okS_iff this.1.2, by rw [this.1.1]⟩
noncomputable def wl (idx : Int → Nat) (i : Nat) : List Int := iv6.filter fun c => idx c = i
theorem mem_wl {idx : Int → Nat} {i : Nat} {c : Int} : c ∈ wl idx i ↔ c ∈ iv6 ∧ idx c = i := by unfold wl; rw [List.mem_filter, decide_eq_true_eq]
structure WPops (idx : Int → Nat) (ys hs : List Int) : Prop where
  perm : (ys ++ hs).Perm (iv6.filter fun c => idx c < ys.length)
  least : ∀ p x q, ys = p ++ x :: q → ∀ c ∈ iv6, idx c ≤ p.length → c ∉ p → x ≤ c
  mem : ∀ p x q, ys = p ++ x :: q → x ∈ iv6 ∧ idx x ≤ p.length
structure WAb (idx : Int → Nat) (ys : List Int) (ab : Int → Int) : Prop where
  z : ab 0 = 0
  at_ : ∀ c ∈ iv6, idx c < ys.length → (0 :: ys)[idx c]? = some (ab c)
section
variable {idx : Int → Nat} {ys hs hs' hn : List Int} {m : Int} {ab : Int → Int}
theorem WPops.nil : WPops idx [] [] := ⟨by
  have : (iv6.filter fun c => idx c < ([] : List Int).length) = [] := List.filter_eq_nil_iff.mpr fun c u1 => by simp
  rw [this]; exact .refl _, fun p x q e => by (cases p <;> cases e), fun p x q e => by (cases p <;> cases e)⟩
theorem filter_lt (l : List Int) (n : Nat) : (l.filter fun c => idx c < n + 1).Perm ((l.filter fun c => idx c < n) ++ l.filter fun c => idx c = n) := by
  induction l with
  | nil => exact .refl _
  | cons a l ih =>
    by_cases h : idx a < n
    · rw [List.filter_cons_of_pos (by simp <;> omega), List.filter_cons_of_pos (by simpa using h), List.filter_cons_of_neg (by simp <;> omega)]
      exact ih.cons a
    · by_cases h2 : idx a = n
      · rw [List.filter_cons_of_pos (by simp <;> omega), List.filter_cons_of_neg (by simpa using h), List.filter_cons_of_pos (by simpa using h2)]
        exact (ih.cons a).trans List.perm_middle.symm
      · rw [List.filter_cons_of_neg (by simp <;> omega), List.filter_cons_of_neg (by simpa using h), List.filter_cons_of_neg (by simpa using h2)]
        exact ih
theorem WPops.come (h : WPops idx ys hs) (hq : hn.Perm (wl idx ys.length ++ hs)) : (ys ++ hn).Perm (iv6.filter fun c => idx c < ys.length + 1) := by
  refine List.Perm.trans ?_ (filter_lt iv6 ys.length).symm
  refine (hq.append_left ys).trans ?_
  refine List.Perm.trans ?_ (h.perm.append_right _)
  rw [List.append_assoc]
  exact List.perm_append_comm.append_left ys
theorem WPops.step (h : WPops idx ys hs) (hq : hn.Perm (wl idx ys.length ++ hs)) (hp : (m :: hs').Perm hn) (hm : ∀ y ∈ hs', m ≤ y) : WPops idx (ys ++ [m]) hs' := by
  have h1 := h.come hq
  have h2 : (ys ++ m :: hs').Perm (iv6.filter fun c => idx c < ys.length + 1) := (hp.append_left ys).trans h1
  refine ⟨by rw [List.append_assoc, List.length_append]; exact h2, fun p x q e c hc hi hcp => ?_, fun p x q e => ?_⟩
  · rcases List.eq_nil_or_concat q with rfl | ⟨q', z, rfl⟩
    · obtain ⟨rfl, e2⟩ := List.append_inj' e rfl
      cases e2
      have : c ∈ ys ++ m :: hs' := h2.mem_iff.mpr (List.mem_filter.mpr ⟨hc, by simp <;> omega⟩)
      rcases List.mem_append.mp this with q | q
      · exact absurd q hcp
      · rcases List.mem_cons.mp q with rfl | q
        · exact Int.le_refl _
        · exact hm c q
    · have e' : ys ++ [m] = (p ++ x :: q') ++ [z] := by rw [e]; simp
      obtain ⟨rfl, -⟩ := List.append_inj' e' rfl
      exact h.least p x q' rfl c hc hi hcp
  · rcases List.eq_nil_or_concat q with rfl | ⟨q', z, rfl⟩
    · obtain ⟨rfl, e2⟩ := List.append_inj' e rfl
      cases e2
      have := List.mem_filter.mp (h2.mem_iff.mp (List.mem_append_right _ (List.mem_cons_self ..)))
      simp only [decide_eq_true_eq] at this
      exact ⟨this.1, by omega⟩
    · have e' : ys ++ [m] = (p ++ x :: q') ++ [z] := by rw [e]; simp
      obtain ⟨rfl, -⟩ := List.append_inj' e' rfl
      exact h.mem p x q' rfl
theorem WAb.step (h : WAb idx ys ab) {ab' : Int → Int} {x : Int} (hl : (0 :: ys)[ys.length]? = some x) (h1 : ∀ c ∈ wl idx ys.length, ab' c = x) (h2 : ∀ c, c ∉ wl idx ys.length → ab' c = ab c) : WAb idx (ys ++ [m]) ab' := by
  refine ⟨?_, fun c hc hi => ?_⟩
  · rw [h2 0 (fun q => by have := (mem_wl.mp q).1; rw [mem6] at this; omega)]; exact h.z
  · rw [← List.cons_append]
    rw [List.length_append, List.length_singleton] at hi
    by_cases e : idx c = ys.length
    · rw [e, List.getElem?_append_left (by rw [List.length_cons]; omega), hl, h1 c (mem_wl.mpr ⟨hc, e⟩)]
    · rw [List.getElem?_append_left (by rw [List.length_cons]; omega), h.at_ c hc (by omega), h2 c fun q => e (mem_wl.mp q).2]
end

section
variable {σ : List AO} {o : Nat} {w : Int → Int}
theorem law_spread_spec (h : σ[o]? = some (.list (tl w))) (hw : Wish w) :
    wpF (F_law_spread [.obj o] [] σ) fun v σ' => ∃ H, v = .obj H.t ∧ HdR σ' H ∧ Frm σ σ' [] ∧ H.ps = iv6.map (wrow w) := by
  refine wpF_of (l := [some (.obj o), none, none, none, none, none]) 6 (by rfl) (by rfl) (by rfl) (by rfl) (wp_then ?_)
  repeat walk_at "w"
  refine wp_liftF (wpF_mono hd_new ?_)
  rintro _ σ1 ⟨rfl, R1, F1⟩
  repeat walk_at "w"
  refine wp_of (a := .rng 1 1 6) rfl ?_
  refine wp_src (vs := iv6.map .int) (g := none) rfl ?_
  refine wp_forL (fun u1 r st => ∃ (ds q : List Int) (l2 : Option AV), ds ++ q = iv6 ∧ r = q.map .int ∧ st.θ = th [some (.obj o), some (.obj (σ.length + 1)), l2, none, none, none] ∧ Frm σ st.σ [] ∧ HdR st.σ ⟨σ.length + 1, σ.length, σ.length + 2, ds.map (wrow w)⟩)
    ⟨[], iv6, none, rfl, rfl, rfl, F1, R1⟩ ?_ ?_
  · rintro _ a r ⟨_, σ2⟩ - ⟨ds, q, l2, hq, hr, (rfl : _ = th _), F, R⟩
    cases q with
    | nil => cases hr
    | cons c q =>
      rw [List.map_cons, List.cons.injEq] at hr
      obtain ⟨rfl, rfl⟩ := hr
      have h6 : c ∈ iv6 := by rw [← hq]; simp
      have h7 : c ∈ iv7 := by rw [mem7]; rw [mem6] at h6; omega
      have hdl : ds.length ≤ 6 := by have := congrArg List.length hq; rw [List.length_append] at this; have : iv6.length = 6 := rfl; omega
      obtain ⟨n1, -, n3⟩ := num_at h6
      obtain ⟨s1, -⟩ := ltw_ok hw c
      refine ⟨gOk_none, ?_⟩
      repeat walk_at "w"
      refine wp_guard (isInst_of R.ht R.hd hdA_add) ?_
      repeat walk_at "w"
      refine wp_tup (show 2 < 2 ^ 20 by decide) ?_
      repeat walk_at "w"
      refine wp_mod (by decide) ?_
      refine wp_sub_tup (v := .str (if c.fmod 2 = 0 then S "ABCDEF" else S "abcdef")) ?_ ?_
      · have b1 := Int.fmod_nonneg_of_pos c (b := 2) (by decide)
        have b2 := Int.fmod_lt_of_pos c (b := 2) (by decide)
        by_cases e : c.fmod 2 = 0
        · rw [if_pos e, e]; rfl
        · rw [if_neg e, show c.fmod 2 = 1 by omega]; rfl
      repeat walk_at "w"
      refine wp_sub_list (F.same _ _ (by simp) h) (tl_get h7) ?_
      refine wp_sub_str (v := ltw w c) ?_ ?_
      · obtain ⟨b1, b2⟩ := hw.2 c
        unfold ltw
        generalize w c = v at b1 b2
        have := sixI b1 b2
        split <;> (rcases this with rfl | rfl | rfl | rfl | rfl | rfl <;> kernel_rfl)
      repeat walk_at "w"
      refine wp_strNum n3 ?_
      repeat walk_at "w"
      refine wp_liftF (wpF_mono (add_header_spec (H := ⟨σ.length + 1, σ.length, σ.length + 2, ds.map (wrow w)⟩) (x := ltw w c) (y := num c) R s1.p n1.p (by have := s1.z; omega) (by have := n1.z; omega) (by dsimp only; rw [List.length_map]; omega)) ?_)
      rintro _ σ3 ⟨rfl, R3, F3⟩
      repeat walk_at "w"
      exact ⟨ds ++ [c], q, some (.int c), by rw [List.append_assoc]; exact hq, rfl, rfl, F.out F3 (Nat.le_refl _) (fun i hi => by rw [List.mem_singleton.mp hi]; exact Nat.le_add_right _ _), by rw [List.map_append]; exact R3⟩
  rintro ⟨_, σ2⟩ ⟨ds, q, l2, hq, hr, (rfl : _ = th _), F, R⟩
  have : q = [] := by cases q with | nil => rfl | cons _ _ => cases hr
  subst this
  rw [List.append_nil] at hq
  subst hq
  refine ⟨gOk_none, ?_⟩
  repeat walk_at "w"
  exact ⟨_, rfl, R, F, rfl⟩
end
end Mine
set_option Elab.async false
set_option maxRecDepth 100000
namespace Mine
open PySem PyProof.Rows PySem.W PySem.SeqAt

theorem dataAll_map {α : Type} {f : AV → Option PyData} {em : α → AV} {g : α → PyData} : ∀ {l : List α}, (∀ a ∈ l, f (em a) = some (g a)) → dataAll f (l.map em) = some (l.map g)
  | [], _ => rfl
  | a :: l, h => by
    show (f (em a)).bind _ = _
    rw [h a (List.mem_cons_self ..)]
    show (dataAll f (l.map em)).map _ = _
    rw [dataAll_map fun b hb => h b (List.mem_cons_of_mem _ hb)]
    rfl
theorem canAll : ∀ {xs : List PyData}, (∀ d ∈ xs, PyData.canLay0 d = true) → PyData.canLayAll0 xs = true
  | [], _ => by simp only [PyData.canLayAll0]
  | d :: xs, h => by
    simp only [PyData.canLayAll0, h d (List.mem_cons_self ..), canAll fun b hb => h b (List.mem_cons_of_mem _ hb), Bool.and_self]
theorem depAll {n : Nat} : ∀ {xs : List PyData}, (∀ d ∈ xs, PyData.depth d ≤ n) → PyData.depthAll xs ≤ n
  | [], _ => by simp only [PyData.depthAll]; exact Nat.zero_le _
  | d :: xs, h => by
    simp only [PyData.depthAll]
    exact Nat.max_le.mpr ⟨h d (List.mem_cons_self ..), depAll fun b hb => h b (List.mem_cons_of_mem _ hb)⟩
theorem shaped_list {xs : List PyData} (h : ∀ d ∈ xs, PyData.canLay0 d = true ∧ PyData.depth d ≤ 62) : shaped (.list xs) = true := by
  unfold shaped
  rw [Bool.and_eq_true, decide_eq_true_eq]
  refine ⟨by simp only [PyData.canLay0]; exact canAll fun d hd => (h d hd).1, ?_⟩
  simp only [PyData.depth]
  have := depAll fun d hd => (h d hd).2
  omega
theorem eqvAll_int : ∀ {xs ys : List Int}, PyData.eqvAll (xs.map .int) (ys.map .int) = decide (xs = ys)
  | [], [] => by simp [PyData.eqvAll]
  | [], _ :: _ => by simp [PyData.eqvAll]
  | _ :: _, [] => by simp [PyData.eqvAll]
  | x :: xs, y :: ys => by
    simp only [List.map_cons, PyData.eqvAll, PyData.eqv, eqvAll_int (xs := xs) (ys := ys)]
    by_cases h : x = y <;> by_cases h2 : xs = ys <;> simp [h, h2]
section
variable {σ : List AO} {θ : Nat → Option AV} {Q : AV → St → Prop} {o i j : Nat}
theorem dat_list {α : Type} {em : α → AV} {g : α → PyData} {l : List α} (h : σ[o]? = some (.list (l.map em))) (hf : ∀ a ∈ l, dataF σ 3 (em a) = some (g a)) (hs : ∀ a ∈ l, PyData.canLay0 (g a) = true ∧ PyData.depth (g a) ≤ 62) : dat σ (.obj o) = some (.list (l.map g)) := by
  unfold dat
  have : dataF σ 4 (.obj o) = some (.list (l.map g)) := by
    show (lstAt σ o).bind _ = _
    exact bind_of (lstAt_of h) (map_of (dataAll_map hf))
  rw [this]
  show (if shaped _ = true then some _ else none) = _
  rw [if_pos (shaped_list fun d hd => by obtain ⟨a, ha, rfl⟩ := List.mem_map.mp hd; exact hs a ha)]
theorem datF_int (k : Nat) (x : Int) : dataF σ k (.int x) = some (.int x) := by cases k <;> rfl
theorem dat_int (x : Int) : dat σ (.int x) = some (.int x) := bind_of (datF_int 4 x) (if_pos (by unfold shaped; simp only [PyData.canLay0, PyData.depth, Nat.zero_le, decide_true, Bool.and_self]))
theorem dat_ints {xs : List Int} (h : σ[o]? = some (.list (xs.map .int))) : dat σ (.obj o) = some (.list (xs.map .int)) :=
  dat_list h (fun a u1 => datF_int 3 a) fun a u1 => ⟨by simp only [PyData.canLay0], by simp only [PyData.depth]; exact Nat.zero_le _⟩
theorem wp_eqO {x y : PyData} (ha : dat σ (.obj i) = some x) (hb : dat σ (.obj j) = some y) (hq : Q (.bool (PyData.eqv x y)) ⟨θ, σ⟩) : wp (cmpB .Eq (.obj i) (.obj j)) ⟨θ, σ⟩ Q :=
  wp_of (a := .bool (PyData.eqv x y)) (by
    show orK (cmpK .Eq (.obj i) (.obj j)) (cmpD .Eq (.obj i) (.obj j)) ⟨θ, σ⟩ = _
    refine orK_snd rfl ?_
    show ((dat σ (.obj i)).bind _).map _ = _
    exact map_of (bind_of ha (map_of hb))) hq
theorem wp_neO {x y : PyData} (ha : dat σ (.obj i) = some x) (hb : dat σ (.obj j) = some y) (hq : Q (.bool (!PyData.eqv x y)) ⟨θ, σ⟩) : wp (cmpB .NotEq (.obj i) (.obj j)) ⟨θ, σ⟩ Q :=
  wp_of (a := .bool (!PyData.eqv x y)) (by
    show orK (cmpK .NotEq (.obj i) (.obj j)) (cmpD .NotEq (.obj i) (.obj j)) ⟨θ, σ⟩ = _
    refine orK_snd rfl ?_
    show ((dat σ (.obj i)).bind _).map _ = _
    exact map_of (bind_of ha (map_of hb))) hq
theorem wp_eqL {xs ys : List Int} (ha : σ[i]? = some (.list (xs.map .int))) (hb : σ[j]? = some (.list (ys.map .int))) (hq : Q (.bool (decide (xs = ys))) ⟨θ, σ⟩) : wp (cmpB .Eq (.obj i) (.obj j)) ⟨θ, σ⟩ Q :=
  wp_eqO (dat_ints ha) (dat_ints hb) (by simp only [PyData.eqv, eqvAll_int]; exact hq)
theorem wp_neL {xs ys : List Int} (ha : σ[i]? = some (.list (xs.map .int))) (hb : σ[j]? = some (.list (ys.map .int))) (hq : Q (.bool (!decide (xs = ys))) ⟨θ, σ⟩) : wp (cmpB .NotEq (.obj i) (.obj j)) ⟨θ, σ⟩ Q :=
  wp_neO (dat_ints ha) (dat_ints hb) (by simp only [PyData.eqv, eqvAll_int]; exact hq)
theorem wp_notInL {xs : List Int} {k : Int} (hb : σ[j]? = some (.list (xs.map .int))) (hq : Q (.bool (decide (k ∉ xs))) ⟨θ, σ⟩) : wp (cmpB .NotIn (.int k) (.obj j)) ⟨θ, σ⟩ Q := by
  have e : decide (k ∉ xs) = !(xs.map PyData.int).any (PyData.eqv · (.int k)) := by
    rw [List.any_map]
    have : (xs.any ((fun x => PyData.eqv x (.int k)) ∘ PyData.int)) = xs.any (· == k) := by
      congr 1
    rw [this]
    by_cases h : k ∈ xs
    · have : xs.any (· == k) = true := List.any_eq_true.mpr ⟨k, h, by simp⟩
      rw [this]; simp [h]
    · have : xs.any (· == k) = false := List.any_eq_false.mpr fun x hx => by
        have : x ≠ k := fun q => h (q ▸ hx)
        simpa using this
      rw [this]; simp [h]
  refine wp_of (a := .bool (decide (k ∉ xs))) ?_ hq
  show orK (notK (inB (.int k) (.obj j))) (orK (cmpK .NotIn (.int k) (.obj j)) (cmpD .NotIn (.int k) (.obj j))) ⟨θ, σ⟩ = _
  refine orK_snd (K.bind_none ?_) (orK_snd rfl ?_)
  · show (σ[j]?).bind _ = _
    exact bind_of hb rfl
  · show ((dat σ (.int k)).bind _).map _ = _
    rw [e]
    exact map_of (bind_of (dat_int k) (bind_of (lstAt_of hb) (map_of (dataAll_map fun a u1 => dat_int a))))
end
end Mine
set_option Elab.async false
set_option maxRecDepth 100000
namespace Mine
open PySem PyProof.Rows PySem.W PySem.SeqAt
local macro_rules | `(tactic| walk_at "w") => `(tactic| first
  | with_reducible refine wp_bind ?_ | ((with_reducible refine wp_getv (a := ?a) ?h ?hq); (case h => rfl)) | ((with_reducible refine wp_setv ?_ ?_); · rfl) | with_reducible refine wp_ret ?_ | with_reducible refine thenQ_next ?_ | with_reducible refine wp_then ?_
  | with_reducible refine thenQ_brk ?_ | with_reducible refine thenQ_cont ?_ | with_reducible refine thenQ_ret ?_ | with_reducible refine whileQ_next ?_ | with_reducible refine whileQ_cont ?_ | with_reducible refine whileQ_brk ?_ | with_reducible refine whileQ_ret ?_
  | with_reducible refine forQ_next ?_ | with_reducible refine forQ_cont ?_ | with_reducible refine forQ_brk ?_ | with_reducible refine forQ_ret ?_)

section
variable {σ σ' : List AO} {H : HdD} {idx : Int → Nat} {θ : Nat → Option AV}
theorem wp_intNum {c : Int} {Q : AV → St → Prop} (h : c ∈ iv6) (hq : Q (.int c) ⟨θ, σ⟩) : wp (intK [.str (num c)]) ⟨θ, σ⟩ Q :=
  wp_of ((if_pos (by have := (num_at h).1.l; omega)).trans (map_of (num_at h).2.1)) hq
theorem wp_neg1 {Q : AV → St → Prop} {st : St} (hq : Q (.int (-1)) st) : wp (negK (.int 1)) st Q := wp_of rfl hq
structure Says (H : HdD) (idx : Int → Nat) : Prop where
  all : ∀ i s, stp[i]? = some s → i < 6 → (H.ps.filter fun p => Txt.lower p.1 == s).map (fun x => x.2) = (wl idx i).map num
  ok : ∀ p ∈ H.ps, OkS p.1 ∧ PyData.strOk (Txt.lower p.1) = true
  len : H.ps.length < 2 ^ 19
noncomputable def wθ (σ : List AO) (t : Nat) (l4 l5 : Option AV) : List (Option AV) := [some (.obj t), some (.obj (σ.length + 1)), some (.obj (σ.length + 2)), some (.obj (σ.length + 3)), l4, l5, none, none, none]
structure WI (σ : List AO) (H : HdD) (ab : Int → Int) (ys hs : List Int) (σ' : List AO) : Prop where
  g1 : σ'[σ.length + 1]? = some (.list (tl ab))
  g2 : σ'[σ.length + 2]? = some (.list ((0 :: ys).map .int))
  g3 : σ'[σ.length + 3]? = some (.list (hs.map .int))
  hh : Heaped ltI fun i => hs[i]?
  frm : Frm σ σ' []
noncomputable def WEnd (σ : List AO) (idx : Int → Nat) (v : AV) (σ' : List AO) : Prop := (v = .none ∧ ∃ k, k ≤ 5 ∧ (iv6.filter fun c => idx c < k + 1).length ≤ k) ∨
  ∃ ab ys hs, v = .tup [.obj (σ.length + 1), .obj (σ.length + 2)] ∧ σ'[σ.length + 1]? = some (.list (tl ab)) ∧ σ'[σ.length + 2]? = some (.list ((0 :: ys).map .int)) ∧ ys.length = 6 ∧ WPops idx ys hs ∧ WAb idx ys ab
theorem last_cons (ys : List Int) : ∃ l x, 0 :: ys = l ++ [x] ∧ (0 :: ys)[ys.length]? = some x := by
  rcases List.eq_nil_or_concat (0 :: ys) with e | ⟨l, x, e⟩
  · cases e
  · rw [List.concat_eq_append] at e
    refine ⟨l, x, e, ?_⟩
    have := congrArg List.length e
    rw [List.length_append, List.length_cons, List.length_singleton] at this
    rw [e, show ys.length = l.length by omega]
    simp
theorem WI.hd {σ' : List AO} {ab : Int → Int} {ys hs : List Int} (I : WI σ H ab ys hs σ') (R : HdR σ H) : HdR σ' H := R.keep fun i o u1 e => I.frm.same i o (by simp) e
theorem WI.more {σ1 σ2 : List AO} {ab : Int → Int} {ys hs : List Int} (I : WI σ H ab ys hs σ1) (F : Frm σ1 σ2 []) : WI σ H ab ys hs σ2 :=
  ⟨F.same _ _ (by simp) I.g1, F.same _ _ (by simp) I.g2, F.same _ _ (by simp) I.g3, I.hh, I.frm.trans F (by simp)⟩

theorem law_walk_spec (R : HdR σ H) (hS : Says H idx) :
    wpF (F_law_walk [.obj H.t] [] σ) fun v σ' => Frm σ σ' [] ∧ WEnd σ idx v σ' := by
  refine wpF_of (l := [some (.obj H.t), none, none, none, none, none, none, none, none]) 9 (by rfl) (by rfl) (by rfl) (by rfl) (wp_then ?_)
  have e1 : (σ ++ [AO.list [.int 0]]).length = σ.length + 1 := by simp
  have e2 : (σ ++ [AO.list [.int 0]] ++ [AO.list (tl fun u1 => 0)]).length = σ.length + 2 := by simp
  have e3 : (σ ++ [AO.list [.int 0]] ++ [AO.list (tl fun u1 => 0)] ++ [AO.list [.int 0]]).length = σ.length + 3 := by simp
  repeat walk_at "w"
  refine wp_newL (by decide) ?_
  repeat walk_at "w"
  refine wp_mulL (ws := tl fun u1 => 0) get_new (by decide) (by rfl) (by decide) ?_
  rw [e1]
  repeat walk_at "w"
  refine wp_newL (by decide) ?_
  rw [e2]
  repeat walk_at "w"
  refine wp_newL (by decide) ?_
  rw [e3]
  have I0 : WI σ H (fun u1 => 0) [] [] (σ ++ [AO.list [.int 0]] ++ [AO.list (tl fun u1 => 0)] ++ [AO.list [.int 0]] ++ [AO.list []]) :=
    ⟨get_app (get_app (by rw [← e1]; exact get_new)), get_app (by rw [← e2]; exact get_new), by rw [← e3]; exact get_new, fun i j u1 u v hu => by simp at hu, (((Frm.push _ _).pushN _).pushN _).pushN _⟩
  generalize σ ++ [AO.list [.int 0]] ++ [AO.list (tl fun u1 => 0)] ++ [AO.list [.int 0]] ++ [AO.list []] = σ4 at *
  repeat walk_at "w"
  refine wp_src (vs := (stp.take 6).map .str) (g := none) rfl ?_
  refine wp_forL (fun u1 r st => ∃ (ds q : List Str) (ab : Int → Int) (ys hs : List Int) (l4 l5 : Option AV), ds ++ q = stp.take 6 ∧ r = q.map .str ∧ ys.length = ds.length ∧ st.θ = th (wθ σ H.t l4 l5) ∧ WI σ H ab ys hs st.σ ∧ WPops idx ys hs ∧ WAb idx ys ab)
    ⟨[], stp.take 6, _, [], [], none, none, rfl, rfl, rfl, rfl, I0, .nil, rfl, fun c u1 h => absurd h (Nat.not_lt_zero _)⟩ ?_ ?_
  · rintro _ a r ⟨_, σ5⟩ - ⟨ds, q, ab, ys, hs, l4, l5, hq, hr, hys, (rfl : _ = th _), I, Y, A⟩
    cases q with
    | nil => cases hr
    | cons s q =>
      rw [List.map_cons, List.cons.injEq] at hr
      obtain ⟨rfl, rfl⟩ := hr
      have hdl : ds.length + (q.length + 1) = 6 := by have := congrArg List.length hq; rw [List.length_append, List.length_cons] at this; exact this
      have hsi : stp[ds.length]? = some s := by
        have h1 : (stp.take 6)[ds.length]? = some s := by rw [← hq]; simp
        rwa [List.getElem?_take_of_lt (by omega)] at h1
      have hst : s ∈ stp := List.mem_of_getElem? hsi
      obtain ⟨s1, s2⟩ := ltr_ok hst 0
      have hl0 : ltr s 0 = s := by unfold ltr; rw [if_pos (by decide)]
      rw [hl0] at s1 s2
      have g3 : σ.length + 3 < σ5.length := lt_of_get I.g3
      have R5 := I.hd R
      have hyl := Y.perm.length_eq
      have hf := List.length_filter_le (fun c => decide (idx c < ys.length)) iv6
      have h6l : iv6.length = 6 := rfl
      rw [List.length_append] at hyl
      refine ⟨gOk_none, ?_⟩
      repeat walk_at "w"
      refine wp_guard (isInst_of R5.ht R5.hd hdA_all) ?_
      repeat walk_at "w"
      refine wp_liftF (get_all_spec (H := H) (x := s) R5 (by rw [s2]; exact s1.p) (by have := s1.l; omega) (by rw [s2]; have := s1.z; omega) (by rw [s2]; exact s1.o) (fun p hp => ⟨by have := (hS.ok p hp).1.l; omega, (hS.ok p hp).2⟩) (by have := hS.len; omega) ?_)
      have ev : (H.ps.filter fun p => Txt.lower p.1 == Txt.lower s).map (fun p => AV.str p.2) = (wl idx ds.length).map fun c => .str (num c) := by
        rw [s2]
        have := congrArg (List.map AV.str) (hS.all _ s hsi (by omega))
        rwa [List.map_map, List.map_map] at this
      rw [ev]
      have I6 := I.more (.push (.list ((wl idx ds.length).map fun c => .str (num c))) [])
      have go : (σ5 ++ [AO.list ((wl idx ds.length).map fun c => .str (num c))])[σ5.length]? = some (.list ((wl idx ds.length).map fun c => .str (num c))) := get_new
      obtain ⟨l, x, ex, hx⟩ := last_cons ys
      have hxi : itemAt ((0 :: ys).map AV.int) (-1) = some (.int x) := by
        rw [ex, List.map_append]
        refine itemAt_last ?_
        rw [List.length_map]
        have := congrArg List.length ex
        rw [List.length_append, List.length_cons, List.length_singleton] at this
        omega
      refine wp_srcL go ?_
      refine wp_forL (fun u1 r st => ∃ (q1 q2 hs1 : List Int) (ab1 : Int → Int) (l5 : Option AV), q1 ++ q2 = wl idx ds.length ∧ r = q2.map (fun c => .str (num c)) ∧ st.θ = th (wθ σ H.t (some (.str s)) l5) ∧ WI σ H ab1 ys hs1 st.σ ∧ hs1.Perm (q1 ++ hs) ∧ (∀ c ∈ q1, ab1 c = x) ∧ (∀ c, c ∉ q1 → ab1 c = ab c) ∧ st.σ[σ5.length]? = some (.list ((wl idx ds.length).map fun c => .str (num c))))
        ⟨[], wl idx ds.length, hs, ab, l5, rfl, rfl, rfl, I6, .refl _, by simp, fun u1 u2 => rfl, go⟩ ?_ ?_
      · rintro _ a r ⟨_, σ6⟩ - ⟨q1, q2, hs1, ab1, l5, hq2, hr2, (rfl : _ = th _), I7, hp7, hx1, hx2, hg7⟩
        cases q2 with
        | nil => cases hr2
        | cons c q2 =>
          rw [List.map_cons, List.cons.injEq] at hr2
          obtain ⟨rfl, rfl⟩ := hr2
          have h6 : c ∈ iv6 := (mem_wl (idx := idx).mp (by rw [← hq2]; simp)).1
          have h7 : c ∈ iv7 := by rw [mem7]; rw [mem6] at h6; omega
          have hc1 : c ∉ q1 := fun q => by
            have : (wl idx ds.length).Nodup := List.Nodup.sublist List.filter_sublist (by decide)
            rw [← hq2, List.nodup_append] at this
            exact this.2.2 c q c (List.mem_cons_self ..) rfl
          have hwl : (wl idx ds.length).length ≤ 6 := List.length_filter_le _ _
          rw [← hq2, List.length_append, List.length_cons] at hwl
          have hhl := hp7.length_eq
          rw [List.length_append] at hhl
          refine ⟨gOk_of hg7, ?_⟩
          repeat walk_at "w"
          refine wp_neg1 ?_
          refine wp_sub_list I7.g2 hxi ?_
          repeat walk_at "w"
          refine wp_intNum h6 ?_
          rw [mem6] at h6
          repeat walk_at "w"
          refine wp_setItem I7.g1 ⟨by omega, by show c < 7; omega, by omega⟩ ?_
          rw [tl_set h7]
          repeat walk_at "w"
          refine wp_intNum (mem6.mpr h6) ?_
          repeat walk_at "w"
          refine wp_liftF (wpF_mono (heappush_spec (x := c) hordI (show (_ : List AO)[σ.length + 3]? = _ from get_put (j := σ.length + 1) I7.g3 (by omega)) (by omega) I7.hh) ?_)
          rintro _ _ ⟨rfl, hs2, rfl, hp2, hh2⟩
          repeat walk_at "w"
          refine ⟨q1 ++ [c], q2, hs2, setF ab1 c x, some (.str (num c)), by rw [List.append_assoc]; exact hq2, rfl, rfl, ⟨get_put (at_set I7.g1) (by omega), get_put (get_put I7.g2 (by omega)) (by omega), at_set (get_put I7.g3 (by omega)), hh2, (I7.frm.setN (Nat.le_add_right _ _) _).setN (Nat.le_add_right _ _) _⟩, ?_, fun d hd => ?_, fun d hd => ?_, get_put (get_put hg7 (by omega)) (by omega)⟩
          · refine hp2.trans ((hp7.cons c).trans ?_)
            rw [List.append_assoc]
            exact List.perm_middle.symm
          · unfold setF
            by_cases e : d = c
            · rw [if_pos e]
            · rw [if_neg e]
              exact hx1 d ((List.mem_append.mp hd).resolve_right fun q => e (List.mem_singleton.mp q))
          · unfold setF
            rw [if_neg (fun (e : d = c) => hd (List.mem_append_right _ (List.mem_singleton.mpr e)))]
            exact hx2 d fun q => hd (List.mem_append_left _ q)
      rintro ⟨_, σ6⟩ ⟨q1, q2, hs1, ab1, l5, hq2, hr2, (rfl : _ = th _), I7, hp7, hx1, hx2, hg7⟩
      have : q2 = [] := by cases q2 with | nil => rfl | cons _ _ => cases hr2
      subst this
      rw [List.append_nil] at hq2
      subst hq2
      refine ⟨gOk_of hg7, ?_⟩
      repeat walk_at "w"
      refine wp_newL (by decide) ?_
      have I8 := I7.more (.push (.list []) [])
      rw [← hys] at hp7 hx1 hx2
      have hcome := Y.come hp7
      have hcl := hcome.length_eq
      have hf2 := List.length_filter_le (fun c => decide (idx c < ys.length + 1)) iv6
      rw [List.length_append] at hcl
      repeat walk_at "w"
      refine wp_eqL (ys := []) I8.g3 get_new ?_
      refine wp_truth ?_
      by_cases h0 : hs1 = []
      · rw [if_pos (by simpa using h0)]
        repeat walk_at "w"
        refine ⟨I8.frm, .inl ⟨rfl, ys.length, by omega, ?_⟩⟩
        rw [h0] at hcl
        rw [← hcl]
        exact Nat.le_refl _
      rw [if_neg (by simpa using h0)]
      repeat walk_at "w"
      refine wp_guard (isLst_of I8.g2) ?_
      repeat walk_at "w"
      refine wp_liftF (wpF_mono (heappop_spec hordI I8.g3 (by omega) h0 I8.hh) ?_)
      rintro _ _ ⟨m, hs2, rfl, rfl, hp9, hle, hh9⟩
      have g9 := get_put (j := σ.length + 3) (o := .list (hs2.map .int)) I8.g2 (by omega)
      repeat walk_at "w"
      refine wp_append g9 (by rw [List.length_map, List.length_cons]; omega) ?_
      repeat walk_at "w"
      have e9 : (0 :: ys).map AV.int ++ [.int m] = (0 :: (ys ++ [m])).map .int := by rw [← List.cons_append, List.map_append]; rfl
      rw [e9]
      exact ⟨ds ++ [s], q, ab1, ys ++ [m], hs2, _, l5, by rw [List.append_assoc]; exact hq, rfl, by rw [List.length_append, List.length_append, hys]; rfl, rfl,
        ⟨get_put (get_put I8.g1 (by omega)) (by omega), at_set g9, get_put (at_set I8.g3) (by omega), hh9, (I8.frm.setN (Nat.le_add_right _ _) _).setN (Nat.le_add_right _ _) _⟩,
        Y.step hp7 hp9 (fun y hy => by have := of_decide_eq_false (hle y hy); omega), A.step hx hx1 hx2⟩
  rintro ⟨_, σ5⟩ ⟨ds, q, ab, ys, hs, l4, l5, hq, hr, hys, (rfl : _ = th _), I, Y, A⟩
  have : q = [] := by cases q with | nil => rfl | cons _ _ => cases hr
  subst this
  rw [List.append_nil] at hq
  subst hq
  refine ⟨gOk_none, ?_⟩
  repeat walk_at "w"
  refine wp_tup (show 2 < 2 ^ 20 by decide) ?_
  repeat walk_at "w"
  exact ⟨I.frm, .inr ⟨ab, ys, hs, rfl, I.g1, I.g2, hys, Y, A⟩⟩
end
end Mine
set_option Elab.async false
set_option maxRecDepth 100000
namespace Mine
open PySem PyProof.Rows PySem.W PySem.SeqAt
local macro_rules | `(tactic| walk_at "w") => `(tactic| first
  | with_reducible refine wp_bind ?_ | ((with_reducible refine wp_getv (a := ?a) ?h ?hq); (case h => rfl)) | ((with_reducible refine wp_setv ?_ ?_); · rfl) | with_reducible refine wp_ret ?_ | with_reducible refine thenQ_next ?_ | with_reducible refine wp_then ?_
  | with_reducible refine thenQ_brk ?_ | with_reducible refine thenQ_cont ?_ | with_reducible refine thenQ_ret ?_ | with_reducible refine whileQ_next ?_ | with_reducible refine whileQ_cont ?_ | with_reducible refine whileQ_brk ?_ | with_reducible refine whileQ_ret ?_
  | with_reducible refine forQ_next ?_ | with_reducible refine forQ_cont ?_ | with_reducible refine forQ_brk ?_ | with_reducible refine forQ_ret ?_)

noncomputable def rgF : Nat → Int → List Int
  | 0, _ => []
  | n + 1, w => w :: rgF n (w + 1)
theorem mem_rgF {y : Int} : ∀ {n : Nat} {w : Int}, y ∈ rgF n w ↔ w ≤ y ∧ y < w + n
  | 0, w => by simp [rgF] <;> omega
  | n + 1, w => by
    rw [rgF, List.mem_cons, mem_rgF]
    omega
theorem nd_rgF : ∀ {n : Nat} {w : Int}, (rgF n w).Nodup
  | 0, _ => List.nodup_nil
  | n + 1, w => by
    rw [rgF, List.nodup_cons, mem_rgF]
    exact ⟨by omega, nd_rgF⟩
theorem len_rgF : ∀ {n : Nat} {w : Int}, (rgF n w).length = n
  | 0, _ => rfl
  | n + 1, w => by rw [rgF, List.length_cons, len_rgF]
structure First (w : Int) (pl : List Int) (x : Int) : Prop where
  le : w ≤ x
  lt : x < 12
  nin : x ∉ pl
  all : ∀ y, w ≤ y → y < x → y ∈ pl
theorem head_rgF {p : Int → Bool} : ∀ {n : Nat} {w : Int}, (rgF n w).filter p = [] ∨ ∃ x t, (rgF n w).filter p = x :: t ∧ w ≤ x ∧ x < w + n ∧ p x = true ∧ ∀ y, w ≤ y → y < x → p y = false
  | 0, _ => .inl rfl
  | n + 1, w => by
    rw [rgF]
    cases h : p w with
    | true =>
      rw [List.filter_cons_of_pos h]
      exact .inr ⟨w, _, rfl, Int.le_refl _, by omega, h, fun y h1 h2 => by omega⟩
    | false =>
      rw [List.filter_cons_of_neg (by rw [h]; decide)]
      rcases head_rgF (p := p) (n := n) (w := w + 1) with e | ⟨x, t, e, h1, h2, h3, h4⟩
      · exact .inl e
      · refine .inr ⟨x, t, e, by omega, by omega, h3, fun y h5 h6 => ?_⟩
        by_cases hy : y = w
        · rw [hy]; exact h
        · exact h4 y (by omega) h6
theorem first_at {w : Int} {pl : List Int} (hw : 0 ≤ w ∧ w ≤ 5) (hl : pl.length ≤ 5) : ∃ x t, (rgF (12 - w).toNat w).filter (fun c => decide (c ∉ pl)) = x :: t ∧ First w pl x := by
  rcases head_rgF (p := fun c => decide (c ∉ pl)) (n := (12 - w).toNat) (w := w) with e | ⟨x, t, e, h1, h2, h3, h4⟩
  · have := nd_len (l := rgF (12 - w).toNat w) (m := pl) nd_rgF fun x hx => by
      have := List.filter_eq_nil_iff.mp e x hx
      simpa using this
    rw [len_rgF] at this
    omega
  · exact ⟨x, t, e, h1, by omega, by simpa using h3, fun y h5 h6 => by simpa using h4 y h5 h6⟩
theorem iv6_at {ds q : List Int} {c : Int} (h : ds ++ c :: q = iv6) : c = ds.length + 1 := by
  have h1 : iv6[ds.length]? = some c := by rw [← h]; simp
  have h2 := (List.getElem?_eq_some_iff.mp h1).1
  have h3 : iv6.length = 6 := rfl
  have h4 : ∀ n : Nat, n < 6 → iv6[n]? = some ((n : Int) + 1) := by decide
  rw [h4 _ (by omega)] at h1
  exact (Option.some.inj h1).symm
noncomputable def Plc (w : Int → Int) (pl : List Int) : Prop := ∀ p x q, pl = p ++ x :: q → First (w (p.length + 1)) p x
theorem Plc.step {w : Int → Int} {pl : List Int} {x : Int} (h : Plc w pl) (hx : First (w (pl.length + 1)) pl x) : Plc w (pl ++ [x]) := fun p y q e => by
  rcases List.eq_nil_or_concat q with rfl | ⟨q', z, rfl⟩
  · obtain ⟨rfl, e2⟩ := List.append_inj' e rfl
    cases e2
    exact hx
  · have e' : pl ++ [x] = (p ++ y :: q') ++ [z] := by rw [e]; simp
    obtain ⟨rfl, -⟩ := List.append_inj' e' rfl
    exact h p y q' rfl
section
variable {σ : List AO} {o : Nat} {w : Int → Int}
theorem range12 {v : Int} (hv : 0 ≤ v ∧ v ≤ 5) (st : St) : rangeK [.int v, .int 12] st = some (.rng v 1 (12 - v).toNat, st) ∧ rngVals v 1 (12 - v).toNat = (rgF (12 - v).toNat v).map .int := by
  have := sixI hv.1 hv.2
  rcases this with rfl | rfl | rfl | rfl | rfl | rfl <;> exact ⟨rfl, rfl⟩
theorem wp_part {θ : Nat → Option AV} {i : Int} {Q : Option Int → St → Prop} (hq : Q (some i) ⟨θ, σ⟩) : wp (partK (.int i)) ⟨θ, σ⟩ Q := wp_of rfl hq
theorem law_places_spec (h : σ[o]? = some (.list (tl w))) (hw : Wish w) :
    wpF (F_law_places [.obj o] [] σ) fun v σ' => ∃ r pl, v = .obj r ∧ σ'[r]? = some (.list (pl.map .int)) ∧ Frm σ σ' [] ∧ pl.length = 6 ∧ Plc w pl := by
  refine wpF_of (l := [some (.obj o), none, none, none]) 4 (by rfl) (by rfl) (by rfl) (by rfl) ?_
  unfold D_law_places
  have e1 : (σ ++ [AO.list []]).length = σ.length + 1 := by simp
  repeat walk_at "w"
  refine wp_newL (vs := []) (by decide) ?_
  repeat walk_at "w"
  refine wp_part ?_
  repeat walk_at "w"
  refine wp_slice (ws := iv6.map fun c => .int (w c)) (get_app h) (show 7 < 2 ^ 20 by decide) (pickL_of (a := 1) (b := 7) _ (show sliceBounds (some 1) none none 7 = (1, 7, 1) by decide)) (show 6 < 2 ^ 20 by decide) ?_
  rw [e1]
  have g1 : (σ ++ [AO.list []] ++ [AO.list (iv6.map fun c => .int (w c))])[σ.length + 1]? = some (.list (iv6.map fun c => .int (w c))) := by rw [← e1]; exact get_new
  refine wp_srcL g1 ?_
  refine wp_forL (fun u1 r st => ∃ (ds q pl : List Int) (l2 : Option AV), ds ++ q = iv6 ∧ r = q.map (fun c => .int (w c)) ∧ st.θ = th [some (.obj o), some (.obj σ.length), l2, none] ∧ Frm σ st.σ [] ∧ st.σ[σ.length]? = some (.list (pl.map .int)) ∧ st.σ[σ.length + 1]? = some (.list (iv6.map fun c => .int (w c))) ∧ pl.length = ds.length ∧ Plc w pl)
    ⟨[], iv6, [], none, rfl, rfl, rfl, (Frm.push _ _).pushN _, get_app get_new, g1, rfl, fun p x q e => by (cases p <;> cases e)⟩ ?_ ?_
  · rintro _ a r ⟨_, σ2⟩ - ⟨ds, q, pl, l2, hq, hr, (rfl : _ = th _), F, g, gs, hl, hP⟩
    cases q with
    | nil => cases hr
    | cons c q =>
      rw [List.map_cons, List.cons.injEq] at hr
      obtain ⟨rfl, rfl⟩ := hr
      have hc := iv6_at hq
      have hdl : ds.length + (q.length + 1) = 6 := by have := congrArg List.length hq; rw [List.length_append, List.length_cons] at this; exact this
      have hwc := hw.2 c
      obtain ⟨r1, r2⟩ := range12 hwc ⟨th [some (.obj o), some (.obj σ.length), some (.int (w c)), none], σ2⟩
      have g0 : σ.length < σ2.length := lt_of_get g
      have g10 : σ.length + 1 < σ2.length := lt_of_get gs
      refine ⟨gOk_of gs, ?_⟩
      repeat walk_at "w"
      refine wp_guard (isLst_of g) ?_
      repeat walk_at "w"
      refine wp_comp ?_
      repeat walk_at "w"
      refine wp_of r1 ?_
      refine wp_src (g := none) rfl ?_
      rw [r2]
      dsimp only
      rw [cap_th (m := [none, none, some (.obj σ.length)]) 3 (by rfl) (by rfl)]
      refine wp_forL (fun u1 r st => ∃ (q1 q2 : List Int) (l1 : Option AV), q1 ++ q2 = rgF (12 - w c).toNat (w c) ∧ r = q2.map .int ∧ st = ⟨th [none, l1, some (.obj σ.length)], σ2 ++ [.list ((q1.filter fun c => decide (c ∉ pl)).map .int)]⟩)
        ⟨[], _, none, rfl, rfl, rfl⟩ ?_ ?_
      · rintro _ a r _ - ⟨q1, q2, l1, hq2, hr2, rfl⟩
        cases q2 with
        | nil => cases hr2
        | cons y q2 =>
          rw [List.map_cons, List.cons.injEq] at hr2
          obtain ⟨rfl, rfl⟩ := hr2
          refine ⟨gOk_none, ?_⟩
          repeat walk_at "w"
          refine wp_notInL (get_app g) ?_
          refine wp_truth ?_
          have hlen : q1.length < 13 := by
            have := congrArg List.length hq2
            rw [len_rgF, List.length_append, List.length_cons] at this
            omega
          by_cases hy : y ∉ pl
          · rw [if_pos (by simpa using hy)]
            repeat walk_at "w"
            rw [if_pos rfl]
            repeat walk_at "w"
            refine wp_appD get_new (by rw [List.length_map]; exact Nat.lt_of_le_of_lt (List.length_filter_le ..) (by omega)) ?_
            repeat walk_at "w"
            refine ⟨q1 ++ [y], q2, some (.int y), by rw [List.append_assoc]; exact hq2, rfl, ?_⟩
            rw [List.set_append_right _ _ (Nat.le_refl _), Nat.sub_self, List.filter_append, List.filter_cons_of_pos (by simpa using hy), List.map_append]
            rfl
          · rw [if_neg (by simpa using hy)]
            repeat walk_at "w"
            rw [if_neg (by decide)]
            repeat walk_at "w"
            refine ⟨q1 ++ [y], q2, some (.int y), by rw [List.append_assoc]; exact hq2, rfl, ?_⟩
            rw [List.filter_append, List.filter_cons_of_neg (by simpa using hy), List.filter_nil, List.append_nil]
            rfl
      rintro _ ⟨q1, q2, l1, hq2, hr2, rfl⟩
      have : q2 = [] := by cases q2 with | nil => rfl | cons _ _ => cases hr2
      subst this
      rw [List.append_nil] at hq2
      subst hq2
      obtain ⟨x, t, e, hF⟩ := first_at hwc (pl := pl) (by omega)
      rw [e]
      refine ⟨gOk_none, ?_⟩
      repeat walk_at "w"
      refine ⟨rfl, ?_⟩
      repeat walk_at "w"
      refine wp_sub_list (v := .int x) get_new (itemAt_pos (k := 0) rfl (by decide) (by decide)) ?_
      repeat walk_at "w"
      refine wp_append (get_app g) (by rw [List.length_map]; omega) ?_
      repeat walk_at "w"
      refine ⟨ds ++ [c], q, pl ++ [x], some (.int (w c)), by rw [List.append_assoc]; exact hq, rfl, rfl, (F.pushN _).setN (Nat.le_refl _) _, ?_, get_put (get_app gs) (by omega), by rw [List.length_append, List.length_append, hl]; rfl, hP.step ?_⟩
      · rw [List.map_append]; exact at_set (get_app g)
      · rw [hl, ← hc]; exact hF
  rintro ⟨_, σ2⟩ ⟨ds, q, pl, l2, hq, hr, (rfl : _ = th _), F, g, gs, hl, hP⟩
  have : q = [] := by cases q with | nil => rfl | cons _ _ => cases hr
  subst this
  rw [List.append_nil] at hq
  subst hq
  refine ⟨gOk_of gs, ?_⟩
  repeat walk_at "w"
  exact ⟨_, pl, rfl, g, F, hl, hP⟩
end
end Mine
set_option Elab.async false
set_option maxRecDepth 100000
namespace Mine
open PySem PyProof.Rows PySem.W PySem.SeqAt

section
variable {α : Type}
theorem split_at {l : List α} {i : Nat} {a : α} (h : l[i]? = some a) : ∃ p q, l = p ++ a :: q ∧ p.length = i := by
  obtain ⟨hi, rfl⟩ := List.getElem?_eq_some_iff.mp h
  refine ⟨l.take i, l.drop (i + 1), ?_, by rw [List.length_take]; omega⟩
  rw [List.getElem_cons_drop, List.take_append_drop]
theorem at_split {p q : List α} {a : α} : (p ++ a :: q)[p.length]? = some a := by simp
theorem nd_at {l : List α} {i j : Nat} {a : α} (h : l.Nodup) (hi : l[i]? = some a) (hj : l[j]? = some a) : i = j := by
  obtain ⟨p, q, rfl, rfl⟩ := split_at hi
  rw [List.nodup_append] at h
  obtain ⟨h1, h2, h3⟩ := h
  rw [List.nodup_cons] at h2
  by_cases c : j < p.length
  · rw [List.getElem?_append_left c] at hj
    exact absurd rfl (h3 a (List.mem_of_getElem? hj) a (List.mem_cons_self ..))
  · by_cases c2 : j = p.length
    · exact c2.symm
    · obtain ⟨n, rfl⟩ : ∃ n, j = p.length + (n + 1) := ⟨j - p.length - 1, by omega⟩
      rw [List.getElem?_append_right (by omega), Nat.add_sub_cancel_left, List.getElem?_cons_succ] at hj
      exact absurd (List.mem_of_getElem? hj) h2.1
theorem pre_mem {l p r : List α} {i : Nat} {a : α} (h : l.Nodup) (e : l = p ++ r) (hi : l[i]? = some a) : i < p.length ↔ a ∈ p := by
  constructor
  · intro c
    rw [e, List.getElem?_append_left c] at hi
    exact List.mem_of_getElem? hi
  · intro c
    obtain ⟨j, hj⟩ := List.mem_iff_getElem?.mp c
    have hl := (List.getElem?_eq_some_iff.mp hj).1
    have : l[j]? = some a := by rw [e, List.getElem?_append_left hl]; exact hj
    rw [nd_at h hi this]; exact hl
noncomputable def posn (l : List α) (a : α) : Nat := open Classical in if h : ∃ i, l[i]? = some a then h.choose else 0
theorem posn_at {l : List α} {a : α} (h : a ∈ l) : l[posn l a]? = some a := by
  have : ∃ i, l[i]? = some a := List.mem_iff_getElem?.mp h
  unfold posn
  rw [dif_pos this]
  exact this.choose_spec
end

section
variable {ab : Int → Int} {rk : Int → Nat} {idx : Int → Nat} {xs ys hs hs' : List Int}
theorem WPops.nd (V : WPops idx ys hs) : (0 :: ys).Nodup ∧ ∀ c ∈ ys, c ∈ iv6 := by
  have h1 : (ys ++ hs).Nodup := V.perm.nodup_iff.mpr (List.Nodup.sublist List.filter_sublist (by decide))
  have h2 : ∀ c ∈ ys, c ∈ iv6 := fun c hc => (List.mem_filter.mp (V.perm.mem_iff.mp (List.mem_append_left _ hc))).1
  exact ⟨List.nodup_cons.mpr ⟨fun q => by have := h2 0 q; rw [mem6] at this; omega, (List.nodup_append.mp h1).1⟩, h2⟩
theorem WPops.full (V : WPops idx ys hs) (hy : ys.length = 6) : ∀ c ∈ iv6, c ∈ ys := fun c hc => Classical.byContradiction fun q => by
  have := nd_len (l := c :: ys) (m := iv6) (List.nodup_cons.mpr ⟨q, (List.nodup_cons.mp V.nd.1).2⟩) fun x hx => (List.mem_cons.mp hx).elim (fun e => e ▸ hc) (V.nd.2 x)
  rw [List.length_cons, hy] at this
  exact absurd this (by decide)
theorem Pops.xnd (Y : Pops ab xs hs) : xs.Nodup := (List.nodup_append.mp Y.nd).1
theorem agree {L : List Int} (Y : Pops ab xs hs) (hx : xs.length = 7) (V : WPops idx ys hs') (hy : ys.length = 6) (hL : L = xs ∨ L = 0 :: ys) (link : ∀ c ∈ iv6, L[idx c]? = some (ab c)) : xs = 0 :: ys := by
  have nd0 := V.nd.1
  have lk : ∀ (p r1 r2 : List Int), xs = p ++ r1 → 0 :: ys = p ++ r2 → ∀ c ∈ iv6, (idx c < p.length ↔ ab c ∈ p) := fun p r1 r2 h1 h2 c hc => by
    rcases hL with e | e
    · exact pre_mem (e ▸ Y.xnd) (e.trans h1) (link c hc)
    · exact pre_mem (e ▸ nd0) (e.trans h2) (link c hc)
  have key : ∀ k, k ≤ 6 → ∃ p r1 r2, p.length = k + 1 ∧ xs = p ++ r1 ∧ 0 :: ys = p ++ r2 := by
    intro k
    induction k with
    | zero =>
      intro _
      cases xs with
      | nil => simp at hx
      | cons x xs =>
        have := Y.mem [] x xs rfl
        have : x = 0 := by simpa using this
        subst this
        exact ⟨[0], xs, ys, rfl, rfl, rfl⟩
    | succ k ih =>
      intro hk
      obtain ⟨p, r1, r2, hp, h1, h2⟩ := ih (by omega)
      cases p with
      | nil => simp at hp
      | cons z p =>
        rw [List.cons_append, List.cons.injEq] at h2
        obtain ⟨rfl, h2⟩ := h2
        rw [List.length_cons] at hp
        cases r1 with
        | nil => rw [h1] at hx; simp at hx; omega
        | cons x r1 =>
          cases r2 with
          | nil => rw [h2] at hy; simp at hy; omega
          | cons y r2 =>
            have L1 := lk (0 :: p) (x :: r1) (y :: r2) h1 (by rw [h2]; rfl)
            have nx : x ∉ 0 :: p := fun q => by
              have := Y.xnd
              rw [h1, List.nodup_append] at this
              exact this.2.2 x q x (List.mem_cons_self ..) rfl
            have ny : y ∉ 0 :: p := fun q => by
              have := nd0
              rw [h2, ← List.cons_append, List.nodup_append] at this
              exact this.2.2 y q y (List.mem_cons_self ..) rfl
            have c1 : x ≤ y := by
              obtain ⟨m1, m2⟩ := V.mem p y r2 h2
              refine Y.least (0 :: p) x r1 h1 y (List.mem_cons_of_mem _ (List.mem_flatMap.mpr ⟨ab y, (L1 y m1).mp ?_, mem_kids.mpr ⟨m1, rfl⟩⟩)) ny
              rw [List.length_cons]; omega
            have c2 : y ≤ x := by
              rcases List.mem_cons.mp (Y.mem (0 :: p) x r1 h1) with e | e
              · exact absurd (e ▸ List.mem_cons_self ..) nx
              · obtain ⟨z, hz, hxz⟩ := List.mem_flatMap.mp e
                obtain ⟨m1, m2⟩ := mem_kids.mp hxz
                have := (L1 x m1).mpr (m2 ▸ hz)
                rw [List.length_cons] at this
                exact V.least p y r2 h2 x m1 (by omega) fun q => nx (List.mem_cons_of_mem _ q)
            have : x = y := by omega
            subst this
            exact ⟨0 :: p ++ [x], r1, r2, by simp; omega, by rw [h1]; simp, by rw [h2]; simp⟩
  obtain ⟨p, r1, r2, hp, h1, h2⟩ := key 6 (Nat.le_refl _)
  have e1 := congrArg List.length h1
  have e2 := congrArg List.length h2
  rw [List.length_append] at e1 e2
  rw [List.length_cons] at e2
  have z1 : r1 = [] := List.length_eq_zero_iff.mp (by omega)
  have z2 : r2 = [] := List.length_eq_zero_iff.mp (by omega)
  rw [h1, h2, z1, z2]
theorem count_of {T : List Int} (hn : T.Nodup) (hm : ∀ p x q, T = p ++ x :: q → x ∈ iv6 ∧ idx x ≤ p.length) {k : Nat} (hk : k + 1 ≤ T.length) : k + 1 ≤ (iv6.filter fun c => idx c < k + 1).length := by
  have h1 : (T.take (k + 1)).length = k + 1 := by rw [List.length_take]; omega
  refine h1 ▸ nd_len (l := T.take (k + 1)) (List.Nodup.sublist (List.take_sublist ..) hn) fun x hx => ?_
  obtain ⟨j, hj⟩ := List.mem_iff_getElem?.mp hx
  have hl := (List.getElem?_eq_some_iff.mp hj).1
  rw [h1] at hl
  rw [List.getElem?_take_of_lt hl] at hj
  obtain ⟨p, q, e, rfl⟩ := split_at hj
  obtain ⟨m1, m2⟩ := hm p x q e
  exact List.mem_filter.mpr ⟨m1, by rw [h1, decide_eq_true_eq]; omega⟩
end
end Mine
set_option Elab.async false
set_option maxRecDepth 100000
namespace Mine
open PySem PyProof.Rows PySem.W PySem.SeqAt

section
variable {ab : Int → Int} {rk : Int → Nat} {idx : Int → Nat} {xs ys hs hs' : List Int} {w : Int → Int}
theorem stp_nd : stp.Nodup := by decide
theorem six7 {c : Int} (h : c ∈ iv6) : c ∈ iv7 := by rw [mem6] at h; rw [mem7]; omega

noncomputable def tidx (ab : Int → Int) (xs : List Int) (c : Int) : Nat := posn xs (ab c)
theorem Pops.empty (Y : Pops ab xs hs) (hx : xs.length = 7) : hs = [] := List.length_eq_zero_iff.mp (by have := Y.size; omega)
theorem Pops.link (t : Tree ab rk) (Y : Pops ab xs hs) (hx : xs.length = 7) : ∀ c ∈ iv6, xs[tidx ab xs c]? = some (ab c) := fun c hc => by
  have := Y.empty hx
  subst this
  exact posn_at (Y.done t _ (t.h c hc).1)
theorem Pops.tail (t : Tree ab rk) (Y : Pops ab xs hs) (hx : xs.length = 7) {k : Nat} (hk : k ≤ 5) : k + 1 ≤ (iv6.filter fun c => tidx ab xs c < k + 1).length := by
  have lk := Y.link t hx
  have nd := Y.xnd
  cases xs with
  | nil => simp at hx
  | cons z T =>
    have z0 : z = 0 := by simpa using Y.mem [] z T rfl
    subst z0
    rw [List.length_cons] at hx
    refine count_of (T := T) (List.nodup_cons.mp nd).2 (fun p x q e => ?_) (by omega)
    rcases List.mem_cons.mp (Y.mem (0 :: p) x q (by rw [e]; rfl)) with h | h
    · exact absurd (by rw [← h, e]; simp) (List.nodup_cons.mp nd).1
    · obtain ⟨y, hy, hxy⟩ := List.mem_flatMap.mp h
      obtain ⟨m1, m2⟩ := mem_kids.mp hxy
      have := (pre_mem (p := 0 :: p) (r := x :: q) nd (by rw [e]; rfl) (lk x m1)).mpr (m2 ▸ hy)
      rw [List.length_cons] at this
      exact ⟨m1, by omega⟩
theorem filt_rows {s : Str} : ∀ (l : List (Int × Str)), (∀ p ∈ l, p.2 ∈ stp) → ((l.flatMap (row ab)).filter fun p => Txt.lower p.1 == s).map (fun x => x.2) = (l.filter fun p => p.2 == s).flatMap fun p => (kids ab p.1).map num
  | [], _ => rfl
  | p :: l, h => by
    rw [List.flatMap_cons, List.filter_append, List.map_append, filt_rows l fun q hq => h q (List.mem_cons_of_mem _ hq)]
    have hp := h p (List.mem_cons_self ..)
    have e : ∀ c, Txt.lower (ltr p.2 c) = p.2 := fun c => (ltr_ok hp c).2
    by_cases hs : p.2 = s
    · rw [List.filter_cons_of_pos (by simpa using hs), List.flatMap_cons]
      congr 1
      rw [List.filter_eq_self.mpr fun q hq => by
        obtain ⟨c, -, rfl⟩ := List.mem_map.mp hq
        show (Txt.lower (ltr p.2 c) == s) = true
        rw [e, hs]; simp]
      unfold row
      rw [List.map_map]; rfl
    · rw [List.filter_cons_of_neg (by simpa using hs)]
      rw [List.filter_eq_nil_iff.mpr fun q hq => by
        obtain ⟨c, -, rfl⟩ := List.mem_map.mp hq
        show ¬ (Txt.lower (ltr p.2 c) == s) = true
        rw [e]; simpa using hs]
      rfl
theorem filt_zip {s : Str} {i : Nat} {x : Int} (hs : stp[i]? = some s) (hx : xs[i]? = some x) : (xs.zip stp).filter (fun p => p.2 == s) = [(x, s)] := by
  obtain ⟨p, q, rfl, hp⟩ := split_at hx
  obtain ⟨d, e, he, hd⟩ := split_at hs
  have nd := stp_nd
  rw [he, List.nodup_append] at nd
  obtain ⟨n1, n2, n3⟩ := nd
  rw [he, List.zip_append (by omega), List.zip_cons_cons, List.filter_append, List.filter_cons_of_pos (by simp)]
  have f1 : (p.zip d).filter (fun p => p.2 == s) = [] := List.filter_eq_nil_iff.mpr fun y hy q => n3 y.2 (List.of_mem_zip hy).2 s (List.mem_cons_self ..) (by simpa using q)
  have f2 : (q.zip e).filter (fun p => p.2 == s) = [] := List.filter_eq_nil_iff.mpr fun y hy q => (List.nodup_cons.mp n2).1 ((show y.2 = s by simpa using q) ▸ (List.of_mem_zip hy).2)
  rw [f1, f2]
  rfl
theorem told_says {H : HdD} (t : Tree ab rk) (Y : Pops ab xs hs) (hx : xs.length = 7) (hH : H.ps = rows ab xs) : Says H (tidx ab xs) := by
  refine ⟨fun i s hs hi => ?_, fun p hp => ?_, by rw [hH]; have := rows_len (ab := ab) (xs := xs) (by omega); omega⟩
  · obtain ⟨x, hxi⟩ : ∃ x, xs[i]? = some x := ⟨_, List.getElem?_eq_getElem (by omega)⟩
    rw [hH]
    unfold rows
    rw [filt_rows _ fun p hp => (List.of_mem_zip hp).2, filt_zip hs hxi]
    show (kids ab x).map num ++ [] = _
    rw [List.append_nil]
    congr 1
    refine List.filter_congr fun c hc => ?_
    have hl := Y.link t hx c hc
    by_cases h : ab c = x
    · rw [decide_eq_true h, decide_eq_true]
      exact nd_at Y.xnd hl (h ▸ hxi)
    · rw [decide_eq_false h, decide_eq_false]
      intro e
      rw [e, hxi] at hl
      exact h (Option.some.inj hl).symm
  · rw [hH] at hp
    obtain ⟨q, hq, hpq⟩ := List.mem_flatMap.mp hp
    obtain ⟨c, -, rfl⟩ := List.mem_map.mp hpq
    have hs := (List.of_mem_zip hq).2
    obtain ⟨h1, h2⟩ := ltr_ok hs c
    refine ⟨h1, ?_⟩
    show PyData.strOk (Txt.lower (ltr q.2 c)) = true
    rw [h2]
    have := (ltr_ok hs 0).1.o
    unfold ltr at this
    rwa [if_pos (by decide)] at this
theorem told_len (Y : Pops ab xs hs) (hx : xs.length = 7) : (rows ab xs).length = 6 := by
  have h1 := Y.perm.length_eq
  rw [Y.empty hx, List.append_nil, List.length_cons, List.length_flatMap, hx] at h1
  have h2 : ∀ (a : List Int) (b : List Str), a.length = b.length → ((a.zip b).flatMap (row ab)).length = (a.map fun x => (kids ab x).length).sum := by
    intro a
    induction a with
    | nil => intro b _; rfl
    | cons x a ih =>
      intro b hb
      cases b with
      | nil => simp at hb
      | cons s b =>
        rw [List.zip_cons_cons, List.flatMap_cons, List.length_append, ih b (by simpa using hb), List.map_cons, List.sum_cons]
        congr 1
        exact List.length_map ..
  unfold rows
  rw [h2 xs stp hx]
  omega

noncomputable def widx (w : Int → Int) (c : Int) : Nat := (w c).toNat
theorem spread_says {H : HdD} (hw : Wish w) (hH : H.ps = iv6.map (wrow w)) : Says H (widx w) := by
  refine ⟨fun i s hs hi => ?_, fun p hp => ?_, by rw [hH, List.length_map]; decide⟩
  · rw [hH, List.filter_map, List.map_map]
    show (iv6.filter fun c => Txt.lower (ltw w c) == s).map num = _
    congr 1
    refine List.filter_congr fun c hc => ?_
    have hl := (ltw_ok hw c).2
    by_cases h : Txt.lower (ltw w c) = s
    · rw [show (Txt.lower (ltw w c) == s) = true by simpa using h, eq_comm, decide_eq_true_eq]
      exact nd_at stp_nd hl (h ▸ hs)
    · rw [show (Txt.lower (ltw w c) == s) = false by simpa using h, eq_comm, decide_eq_false_iff_not]
      intro e
      have e' : (w c).toNat = i := e
      rw [e', hs] at hl
      exact h (Option.some.inj hl).symm
  · rw [hH] at hp
    obtain ⟨c, -, rfl⟩ := List.mem_map.mp hp
    obtain ⟨h1, h2⟩ := ltw_ok hw c
    refine ⟨h1, ?_⟩
    have hs := List.mem_of_getElem? h2
    have := (ltr_ok hs 0).1.o
    unfold ltr at this
    rwa [if_pos (by decide)] at this
noncomputable def few (w : Int → Int) : List Int := iv6.filter fun k => decide ((((iv6.map w).filter fun v => decide (v < k)).length : Int) < k)
theorem few_len (hw : Wish w) {k : Nat} : ((iv6.map w).filter fun v => decide (v < ((k : Int) + 1))).length = (iv6.filter fun c => widx w c < k + 1).length := by
  rw [List.filter_map, List.length_map]
  congr 1
  refine List.filter_congr fun c hc => ?_
  have := hw.2 c
  show decide (w c < _) = decide ((w c).toNat < k + 1)
  by_cases h : w c < (k : Int) + 1
  · rw [decide_eq_true h, decide_eq_true (by omega)]
  · rw [decide_eq_false h, decide_eq_false (by omega)]
theorem few_none (hw : Wish w) (h : ∃ k, k ≤ 5 ∧ (iv6.filter fun c => widx w c < k + 1).length ≤ k) : few w ≠ [] := fun e => by
  obtain ⟨k, hk, hl⟩ := h
  have := List.filter_eq_nil_iff.mp e ((k : Int) + 1) (mem6.mpr (by omega))
  rw [few_len hw, decide_eq_true_eq] at this
  omega
theorem few_some (hw : Wish w) (V : WPops (widx w) ys hs) (hy : ys.length = 6) : few w = [] := by
  refine List.filter_eq_nil_iff.mpr fun c hc => ?_
  rw [mem6] at hc
  obtain ⟨k, rfl⟩ : ∃ k : Nat, c = (k : Int) + 1 := ⟨(c - 1).toNat, by omega⟩
  rw [few_len hw, decide_eq_true_eq]
  have := count_of (List.nodup_cons.mp V.nd.1).2 V.mem (k := k) (by omega)
  omega
end
end Mine
set_option Elab.async false
set_option maxRecDepth 100000
namespace Mine
open PySem PyProof.Rows PySem.W PySem.SeqAt

section
variable {ab : Int → Int} {xs ys hs pl : List Int} {w : Int → Int}
theorem places_at (hw : Wish w) (V : WPops (widx w) ys hs) (hy : ys.length = 6) (hP : Plc w pl) (hl : pl.length = 6) : ∀ (n j : Nat), j < n → j < 6 → ∃ i : Nat, pl[j]? = some (i : Int) ∧ ys[i]? = some ((j : Int) + 1) := by
  have nd := (List.nodup_cons.mp V.nd.1).2
  intro n
  induction n with
  | zero => intro j h; omega
  | succ n ih =>
    intro j hj hj6
    obtain ⟨x, hx⟩ : ∃ x, pl[j]? = some x := ⟨_, List.getElem?_eq_getElem (by omega)⟩
    obtain ⟨p, q, e, rfl⟩ := split_at hx
    have F := hP p x q e
    have hc6 : ((p.length : Int) + 1) ∈ iv6 := mem6.mpr (by omega)
    generalize hc : (p.length : Int) + 1 = c at F hc6
    obtain ⟨i, hi⟩ := List.mem_iff_getElem?.mp (V.full hy c hc6)
    have hil := (List.getElem?_eq_some_iff.mp hi).1
    obtain ⟨p', q', e', rfl⟩ := split_at hi
    have m2 : (w c).toNat ≤ p'.length := (V.mem p' c q' e').2
    have hwc := hw.2 c
    have low : ∀ y, w c ≤ y → y < (p'.length : Int) → y ∈ p := fun y h1 h2 => by
      obtain ⟨v, rfl⟩ : ∃ v : Nat, y = v := ⟨y.toNat, by omega⟩
      obtain ⟨d, hd⟩ : ∃ d, ys[v]? = some d := ⟨_, List.getElem?_eq_getElem (by omega)⟩
      obtain ⟨p2, q2, e2, rfl⟩ := split_at hd
      have hcn : c ∉ p2 := fun h => by
        have := (pre_mem nd e2 hi).mpr h
        omega
      have h3 := V.least p2 d q2 e2 c hc6 (show (w c).toNat ≤ _ by omega) hcn
      have hdc : d ≠ c := fun h => by
        have := nd_at nd hd (h ▸ hi)
        omega
      have hd6 := V.nd.2 d (List.mem_of_getElem? hd)
      rw [mem6] at hd6
      obtain ⟨j', hj'⟩ : ∃ j' : Nat, d = (j' : Int) + 1 := ⟨(d - 1).toNat, by omega⟩
      obtain ⟨i', h4, h5⟩ := ih j' (by omega) (by omega)
      have : i' = p2.length := nd_at nd h5 (hj' ▸ hd)
      subst this
      rw [e, List.getElem?_append_left (by omega)] at h4
      exact List.mem_of_getElem? h4
    have nin : (p'.length : Int) ∉ p := fun h => by
      obtain ⟨j', hj'⟩ := List.mem_iff_getElem?.mp h
      have hjl := (List.getElem?_eq_some_iff.mp hj').1
      obtain ⟨i', h4, h5⟩ := ih j' (by omega) (by omega)
      rw [e, List.getElem?_append_left hjl, hj'] at h4
      have : i' = p'.length := by have := Option.some.inj h4; omega
      rw [this, hi] at h5
      have := Option.some.inj h5
      omega
    have hxe : x = (p'.length : Int) := by
      rcases Int.lt_trichotomy x p'.length with h | h | h
      · exact absurd (low x F.le h) F.nin
      · exact h
      · exact absurd (F.all _ (by omega) h) nin
    exact ⟨p'.length, by rw [hx, hxe], hi⟩
theorem place_find (hw : Wish w) (V : WPops (widx w) ys hs) (hy : ys.length = 6) (hP : Plc w pl) (hl : pl.length = 6) {v : Nat} {c : Int} (hv : ys[v]? = some c) : ∃ j : Nat, pl.findIdx? (fun x => x == (v : Int)) = some j ∧ c = (j : Int) + 1 := by
  have nd := (List.nodup_cons.mp V.nd.1).2
  have hc := V.nd.2 c (List.mem_of_getElem? hv)
  rw [mem6] at hc
  obtain ⟨i, h1, h2⟩ := places_at hw V hy hP hl 6 (c - 1).toNat (by omega) (by omega)
  have hce : (((c - 1).toNat : Nat) : Int) + 1 = c := by omega
  rw [hce] at h2
  have : i = v := nd_at nd h2 hv
  subst this
  cases hf : pl.findIdx? (fun x => x == (i : Int)) with
  | none =>
    have := List.findIdx?_eq_none_iff.mp hf _ (List.mem_of_getElem? h1)
    simp at this
  | some j =>
    obtain ⟨hj, h3, -⟩ := List.findIdx?_eq_some_iff_getElem.mp hf
    have h4 : pl[j]? = some (i : Int) := by rw [List.getElem?_eq_getElem hj]; congr 1; simpa using h3
    obtain ⟨i', h5, h6⟩ := places_at hw V hy hP hl 6 j (by omega) (by omega)
    rw [h4] at h5
    have : i' = i := by have := Option.some.inj h5; omega
    rw [this, hv] at h6
    exact ⟨j, rfl, Option.some.inj h6⟩

theorem walk_tree {idx : Int → Nat} (V : WPops idx ys hs) (hy : ys.length = 6) (A : WAb idx ys ab) (hi : ∀ c, idx c ≤ 5) : Tree ab (fun c => posn (0 :: ys) c) := by
  have nd := V.nd.1
  refine ⟨A.z, fun c hc => ?_⟩
  have h1 := A.at_ c hc (by have := hi c; omega)
  have hm := List.mem_of_getElem? h1
  refine ⟨?_, ?_⟩
  · rcases List.mem_cons.mp hm with e | e
    · rw [e]; decide
    · exact six7 (V.nd.2 _ e)
  · have h2 := nd_at nd (posn_at hm) h1
    have h3 := posn_at (List.mem_cons_of_mem 0 (V.full hy c hc))
    have hne : c ≠ 0 := by rw [mem6] at hc; omega
    cases hp : posn (0 :: ys) c with
    | zero =>
      rw [hp] at h3
      exact absurd (Option.some.inj h3).symm hne
    | succ n =>
      rw [hp, List.getElem?_cons_succ] at h3
      obtain ⟨p, q, e, rfl⟩ := split_at h3
      have := (V.mem p c q e).2
      show posn (0 :: ys) (ab c) < _
      rw [h2]
      omega
noncomputable def irow (w : Int → Int) (v : Nat) : List (Str × Str) := (iv6.filter fun c => w c = v).map fun c => (ltr (stp[v]?.getD (S "")) c, num c)
theorem walk_rows (hw : Wish w) (V : WPops (widx w) ys hs) (hy : ys.length = 6) (A : WAb (widx w) ys ab) : rows ab (0 :: ys) = (List.range 6).flatMap (irow w) := by
  have nd := V.nd.1
  have hk : ∀ (i : Nat) (x : Int), (0 :: ys)[i]? = some x → kids ab x = iv6.filter fun c => w c = i := fun i x hx => by
    refine List.filter_congr fun c hc => ?_
    have hwc := hw.2 c
    have hl := A.at_ c hc (show (w c).toNat < _ by omega)
    by_cases h : ab c = x
    · rw [decide_eq_true h, eq_comm, decide_eq_true_eq]
      have : (w c).toNat = i := nd_at nd hl (h ▸ hx)
      omega
    · rw [decide_eq_false h, eq_comm, decide_eq_false_iff_not]
      intro e
      have e' : widx w c = i := by show (w c).toNat = i; omega
      rw [e', hx] at hl
      exact h (Option.some.inj hl).symm
  obtain ⟨y0, y1, y2, y3, y4, y5, rfl⟩ : ∃ y0 y1 y2 y3 y4 y5, ys = [y0, y1, y2, y3, y4, y5] := by
    clear V A nd hk
    exact lenCons (vs := ys) (n := 5) hy fun a r h => lenCons (vs := r) (n := 4) h fun b r h => lenCons (vs := r) (n := 3) h fun c r h => lenCons (vs := r) (n := 2) h fun d r h => lenCons (vs := r) (n := 1) h fun e r h => lenCons (vs := r) (n := 0) h fun f r h => lenNil (vs := r) h ⟨a, b, c, d, e, f, rfl⟩
  have h6 : kids ab y5 = [] := by
    rw [hk 6 y5 rfl]
    exact List.filter_eq_nil_iff.mpr fun c hc => by have := hw.2 c; simp; omega
  show row ab (0, S "a") ++ (row ab (y0, S "b") ++ (row ab (y1, S "c") ++ (row ab (y2, S "d") ++ (row ab (y3, S "e") ++ (row ab (y4, S "f") ++ (row ab (y5, S "g") ++ [])))))) = irow w 0 ++ (irow w 1 ++ (irow w 2 ++ (irow w 3 ++ (irow w 4 ++ (irow w 5 ++ [])))))
  have hr : ∀ (i : Nat) (x : Int) (s : Str), (0 :: [y0, y1, y2, y3, y4, y5])[i]? = some x → stp[i]? = some s → row ab (x, s) = irow w i := fun i x s h1 h2 => by
    unfold row irow
    rw [hk i x h1, h2]
    rfl
  rw [hr 0 0 (S "a") rfl rfl, hr 1 y0 (S "b") rfl rfl, hr 2 y1 (S "c") rfl rfl, hr 3 y2 (S "d") rfl rfl, hr 4 y3 (S "e") rfl rfl, hr 5 y4 (S "f") rfl rfl]
  have : row ab (y5, S "g") = [] := by unfold row; rw [h6]; rfl
  rw [this]
  rfl
end
end Mine
set_option Elab.async false
set_option maxRecDepth 100000
namespace Mine
open PySem PyProof.Rows PySem.W PySem.SeqAt

theorem clip_nat (b n : Nat) : (max 0 (min (if (b : Int) < 0 then (b : Int) + n else b) n) : Int) = ((min b n : Nat) : Int) := by
  rw [if_neg (by omega)]
  omega
theorem pick_take {α : Type} (l : List α) (b : Nat) : pickL l none (some (b : Int)) none = l.take b := by
  have e : sliceBounds none (some (b : Int)) none l.length = (((0 : Nat) : Int), ((min b l.length : Nat) : Int), 1) := congrArg (fun x : Int => ((0 : Int), x, (1 : Int))) (clip_nat b l.length)
  rw [pickL_of l e, List.drop_zero, Nat.sub_zero]
  by_cases h : b ≤ l.length
  · rw [Nat.min_eq_left h]
  · rw [Nat.min_eq_right (Nat.le_of_not_le h), List.take_length, List.take_of_length_le (Nat.le_of_not_le h)]
theorem pick_drop {α : Type} (l : List α) (a : Nat) : pickL l (some (a : Int)) none none = l.drop a := by
  have e : sliceBounds (some (a : Int)) none none l.length = (((min a l.length : Nat) : Int), ((l.length : Nat) : Int), 1) := congrArg (fun x : Int => (x, (l.length : Int), (1 : Int))) (clip_nat a l.length)
  rw [pickL_of l e]
  by_cases h : a ≤ l.length
  · rw [Nat.min_eq_left h, List.take_of_length_le (by rw [List.length_drop]; exact Nat.le_refl _)]
  · rw [Nat.min_eq_right (Nat.le_of_not_le h), List.drop_eq_nil_of_le (Nat.le_refl _), List.drop_eq_nil_of_le (Nat.le_of_not_le h), List.take_nil]
noncomputable def fill : List Int := [3, 8, 15, 1, 9, 20, 2, 0, 0, 4, 1, 1]
noncomputable def draws (L : List Int) : List Int := L.take 12 ++ fill.drop L.length
theorem draws_len (L : List Int) : (draws L).length = 12 := by
  unfold draws
  rw [List.length_append, List.length_take, List.length_drop]
  have : fill.length = 12 := rfl
  omega
noncomputable def wishOf (D : List Int) (c : Int) : Int := if 1 ≤ c ∧ c ≤ 6 then ((D.drop 6)[(c - 1).toNat]?.getD 0).fmod 6 else 0
theorem wishOf_ok (D : List Int) : Wish (wishOf D) := by
  refine ⟨by unfold wishOf; rw [if_neg (by omega)], fun c => ?_⟩
  unfold wishOf
  split
  · have b1 := Int.fmod_nonneg_of_pos ((D.drop 6)[(c - 1).toNat]?.getD 0) (b := 6) (by decide)
    have b2 := Int.fmod_lt_of_pos ((D.drop 6)[(c - 1).toNat]?.getD 0) (b := 6) (by decide)
    omega
  · omega
theorem wishOf_tl {D : List Int} (h : D.length = 12) : [AV.int 0] ++ ((D.drop 6).map fun y => .int (y.fmod 6)) = tl (wishOf D) := by
  have h6 : (D.drop 6).length = 6 := by rw [List.length_drop, h]
  unfold tl wishOf
  generalize D.drop 6 = E at h6
  exact lenCons (vs := E) (n := 5) h6 fun a r h => lenCons (vs := r) (n := 4) h fun b r h => lenCons (vs := r) (n := 3) h fun c r h => lenCons (vs := r) (n := 2) h fun d r h => lenCons (vs := r) (n := 1) h fun e r h => lenCons (vs := r) (n := 0) h fun f r h => lenNil (vs := r) h rfl
section
variable {σ : List AO} {θ : Nat → Option AV} {Q : AV → St → Prop}
theorem wp_addL {a b : Nat} {xs ys : List AV} (ha : σ[a]? = some (.list xs)) (hb : σ[b]? = some (.list ys)) (hl : (xs ++ ys).length < 2 ^ 20) (hq : Q (.obj σ.length) ⟨θ, σ ++ [.list (xs ++ ys)]⟩) : wp (binA .Add (.obj a) (.obj b)) ⟨θ, σ⟩ Q :=
  wp_of (orK_snd (f := binK .Add (.obj a) (.obj b)) (g := binL .Add (.obj a) (.obj b)) rfl (by show (lstAt σ a).bind _ = _; exact bind_of (lstAt_of ha) (bind_of (lstAt_of hb) (newL_of hl)))) hq
theorem inst_of {i d : Nat} {Cl : Addr} {fs : List (Str × AV)} (h : σ[i]? = some (.inst Cl d)) (hd : σ[d]? = some (.attrs fs)) : instAt σ Cl i = some fs := by
  unfold instAt
  rw [h]
  exact (if_pos rfl).trans (attrsAt_of hd)
theorem wp_lenHd {H : HdD} (R : HdR σ H) (hn : H.ps.length < 2 ^ 20) (hq : Q (.int H.ps.length) ⟨θ, σ⟩) : wp (lenI aHD (fun args σ => F_Hd_len args [] σ) lenK [.obj H.t]) ⟨θ, σ⟩ Q := by
  obtain ⟨r, σ', e, rfl, rfl⟩ := len_spec (Q := fun r σ' => r = .int H.ps.length ∧ σ' = σ) R hn ⟨rfl, rfl⟩
  refine wp_of ?_ hq
  show (match instAt σ' aHD H.t with | some _ => lenJ H.t _ _ | none => _) = _
  rw [inst_of R.ht R.hd]
  exact bind_of e (bind_of rfl (if_pos ⟨by omega, by omega⟩))
theorem wp_lenIL {Cl : Addr} {F : List AV → List AO → Option (AV × List AO)} {o : Nat} {vs : List AV} (h : σ[o]? = some (.list vs)) (hl : vs.length < 2 ^ 62) (hq : Q (.int vs.length) ⟨θ, σ⟩) : wp (lenI Cl F lenK [.obj o]) ⟨θ, σ⟩ Q := by
  obtain ⟨a, st, e, hq'⟩ := wp_len (θ := θ) h hl hq
  refine wp_of (a := a) (st' := st) ?_ hq'
  show (match instAt σ Cl o with | some _ => lenJ o _ _ | none => _) = _
  have : instAt σ Cl o = none := by unfold instAt; rw [h]
  rw [this]
  exact e
theorem wp_index {o : Nat} {xs : List Int} {k : Int} {j : Nat} (h : σ[o]? = some (.list (xs.map .int))) (hl : xs.length < 2 ^ 20) (hj : xs.findIdx? (fun x => x == k) = some j) (hq : Q (.int j) ⟨θ, σ⟩) : wp (indexK [.obj o, .int k]) ⟨θ, σ⟩ Q := by
  refine wp_of (a := .int j) ?_ hq
  show (lstAt σ o).bind _ = _
  refine bind_of (lstAt_of h) (bind_of (dataAll_map fun a u1 => dat_int a) (bind_of (dat_int k) ((if_pos (by rw [List.length_map]; exact hl)).trans (map_of ?_))))
  rw [List.findIdx?_map]
  have : (fun x => PyData.eqv x (.int k)) ∘ PyData.int = fun x => x == k := by
    funext x; show PyData.eqv (.int x) (.int k) = _; simp only [PyData.eqv]
  rw [this, hj]
theorem isNone_ne {o : Nat} : isNone (.obj o) = some false := rfl
end
end Mine
set_option Elab.async false
set_option maxRecDepth 100000
namespace Mine
open PySem PyProof.Rows PySem.W PySem.SeqAt
local macro_rules | `(tactic| walk_at "w") => `(tactic| first
  | with_reducible refine wp_bind ?_ | ((with_reducible refine wp_getv (a := ?a) ?h ?hq); (case h => rfl)) | ((with_reducible refine wp_setv ?_ ?_); · rfl) | with_reducible refine wp_ret ?_ | with_reducible refine thenQ_next ?_ | with_reducible refine wp_then ?_
  | with_reducible refine thenQ_brk ?_ | with_reducible refine thenQ_cont ?_ | with_reducible refine thenQ_ret ?_ | with_reducible refine whileQ_next ?_ | with_reducible refine whileQ_cont ?_ | with_reducible refine whileQ_brk ?_ | with_reducible refine whileQ_ret ?_
  | with_reducible refine forQ_next ?_ | with_reducible refine forQ_cont ?_ | with_reducible refine forQ_brk ?_ | with_reducible refine forQ_ret ?_)
theorem tidx_lt {ab : Int → Int} {rk : Int → Nat} {xs hs : List Int} (t : Tree ab rk) (Y : Pops ab xs hs) (hx : xs.length = 7) : ∀ c ∈ iv6, tidx ab xs c ≤ 5 := fun c hc => by
  have he := Y.empty hx
  subst he
  obtain ⟨j, hj⟩ := List.mem_iff_getElem?.mp (Y.done t c (six7 hc))
  obtain ⟨p, q, e, rfl⟩ := split_at hj
  have hl := congrArg List.length e
  rw [List.length_append, List.length_cons] at hl
  rcases List.mem_cons.mp (Y.mem p c q e) with h | h
  · rw [mem6] at hc; omega
  · obtain ⟨z, hz, hcz⟩ := List.mem_flatMap.mp h
    have := (pre_mem Y.xnd e (Y.link t hx c hc)).mpr ((mem_kids.mp hcz).2 ▸ hz)
    omega
theorem wp_untup {θ : Nat → Option AV} {σ : List AO} {f : List AV → K Unit} {vs : List AV} {Q : Unit → St → Prop} (hq : wp (f vs) ⟨θ, σ⟩ Q) : wp (untupK f (.tup vs)) ⟨θ, σ⟩ Q := hq
theorem range_at {n : Nat} {p q : List Nat} {v : Nat} (h : p ++ v :: q = List.range n) : v = p.length ∧ v < n := by
  have h1 : (List.range n)[p.length]? = some v := by rw [← h]; simp
  have h2 := (List.getElem?_eq_some_iff.mp h1).1
  rw [List.length_range] at h2
  rw [List.getElem?_range h2] at h1
  have := Option.some.inj h1
  omega
theorem eqvAll_self {α : Type} {g : α → PyData} (h : ∀ a, PyData.eqv (g a) (g a) = true) : ∀ l : List α, PyData.eqvAll (l.map g) (l.map g) = true
  | [] => by simp only [List.map_nil, PyData.eqvAll]
  | a :: l => by simp only [List.map_cons, PyData.eqvAll, h a, eqvAll_self h l, Bool.and_self]
noncomputable def hdG (p : Str × Str) : PyData := .tuple [.str p.1, .str p.2]
theorem dat_hd {σ : List AO} {o : Nat} {ps : List (Str × Str)} (h : σ[o]? = some (.list (ps.map hdV))) (hs : ∀ p ∈ ps, PyData.strOk p.1 = true ∧ PyData.strOk p.2 = true) : dat σ (.obj o) = some (.list (ps.map hdG)) :=
  dat_list h (fun p u1 => by rfl) fun p hp => ⟨by simp only [hdG, PyData.canLay0, PyData.canLayAll0, (hs p hp).1, (hs p hp).2, Bool.and_self], by simp [hdG, PyData.depth, PyData.depthAll]⟩
theorem eqv_hd (ps : List (Str × Str)) : PyData.eqv (.list (ps.map hdG)) (.list (ps.map hdG)) = true := by
  simp only [PyData.eqv]
  exact eqvAll_self (fun p => by simp [hdG, PyData.eqv, PyData.eqvAll]) ps
noncomputable def fewB (w : Int → Int) (k : Int) : Bool := decide ((((iv6.map w).filter fun v => decide (v < k)).length : Int) < k)
section
variable {L : List Int} {σ : List AO}
inductive LaA (D : List Int) (σ10 : List AO) (d0 r : List AV) (st : St) : Prop
  | mk (q1 q2 : List Int) (l1 : Option AV) (e1 : q1 ++ q2 = D.drop 6) (e2 : r = q2.map .int) (e3 : st = ⟨th [none, l1], σ10 ++ [.list (q1.map fun y => .int (y.fmod 6))]⟩) : LaA D σ10 d0 r st
inductive LaB (σ13 : List AO) (w : Int → Int) (ow : Nat) (d0 r : List AV) (st : St) : Prop
  | mk (q1 q2 : List Int) (l1 : Option AV) (e1 : q1 ++ q2 = iv6) (e2 : r = q2.map .int) (e3 : st.θ = th [none, l1, none, some (.obj ow)]) (e4 : Frm σ13 st.σ []) (e5 : st.σ[σ13.length]? = some (.list ((q1.filter (fewB w)).map .int))) : LaB σ13 w ow d0 r st
inductive LaC (k : Int) (σ15 : List AO) (w : Int → Int) (d0 r : List AV) (st : St) : Prop
  | mk (p1 p2 : List Int) (l1 : Option AV) (e1 : p1 ++ p2 = iv6) (e2 : r = p2.map (fun c => .int (w c))) (e3 : st = ⟨th [none, l1, some (.int k)], σ15 ++ [.list (((p1.map w).filter fun v => decide (v < k)).map .int)]⟩) : LaC k σ15 w d0 r st
inductive LaD (σ17 : List AO) (ys : List Int) (rp : Nat) (d0 r : List AV) (st : St) : Prop
  | mk (q1 q2 : List Nat) (l1 : Option AV) (e1 : q1 ++ q2 = List.range 6) (e2 : r = q2.map (fun v : Nat => .int (v : Int))) (e3 : st = ⟨th [none, l1, some (.obj rp)], σ17 ++ [.list ((ys.take q1.length).map .int)]⟩) : LaD σ17 ys rp d0 r st
inductive LaE (σ20 : List AO) (w : Int → Int) (ow : Nat) (d0 r : List AV) (st : St) : Prop
  | mk (q1 q2 : List Nat) (l1 l2 : Option AV) (e1 : q1 ++ q2 = List.range 6) (e2 : r = q2.map (fun v : Nat => .int (v : Int))) (e3 : st = ⟨th [none, l1, l2, none, none, some (.obj ow)], σ20 ++ [.list ((q1.flatMap (irow w)).map hdV)]⟩) : LaE σ20 w ow d0 r st
inductive LaF (σ20 : List AO) (w : Int → Int) (ow v : Nat) (s : Str) (q1 : List Nat) (d0 r : List AV) (st : St) : Prop
  | mk (p1 p2 : List Int) (l2 : Option AV) (e1 : p1 ++ p2 = iv6) (e2 : r = p2.map .int) (e3 : st = ⟨th [none, some (.int (v : Int)), l2, none, none, some (.obj ow)], σ20 ++ [.list ((q1.flatMap (irow w) ++ (p1.filter fun c => w c = v).map fun c => (ltr s c, num c)).map hdV)]⟩) : LaF σ20 w ow v s q1 d0 r st
set_option maxHeartbeats 4000000 in
theorem law_spec (hL : L.length < 2 ^ 20) : wpF (F_law [.lst (L.map .int)] [] σ) fun v u1 => v = .bool true := by
  refine wpF_of (l := [some (.lst (L.map .int)), none, none, none, none, none, none, none, none, none, none, none, none, none, none, none, none, none]) 18 (by rfl) (by rfl) (by rfl) (by rfl) ?_
  unfold D_law
  repeat walk_at "w"
  refine wp_part ?_
  repeat walk_at "w"
  refine wp_sliceLst (ws := (L.take 12).map .int) (by rw [List.length_map]; exact hL) (by rw [List.map_take]; exact pick_take _ 12) (by rw [List.length_map, List.length_take]; omega) ?_
  have a1 : (σ ++ [AO.list ((L.take 12).map .int)])[σ.length]? = some (.list ((L.take 12).map .int)) := get_new
  have f1 : Frm σ (σ ++ [AO.list ((L.take 12).map .int)]) [] := .push _ _
  generalize σ ++ [AO.list ((L.take 12).map .int)] = σ1 at *
  repeat walk_at "w"
  refine wp_newL (vs := fill.map .int) (by decide) ?_
  have a2 := get_app (o := AO.list (fill.map .int)) a1
  have b2 : (σ1 ++ [AO.list (fill.map .int)])[σ1.length]? = some (.list (fill.map .int)) := get_new
  generalize hn1 : σ1.length = n1 at *
  generalize σ1 ++ [AO.list (fill.map .int)] = σ2 at *
  repeat walk_at "w"
  refine wp_of (a := .int L.length) (st' := ⟨_, σ2⟩) (by show (if (L.map AV.int).length < 2 ^ 62 then some (AV.int ((L.map AV.int).length : Int), _) else none) = _; rw [if_pos (by rw [List.length_map]; omega), List.length_map]) ?_
  repeat walk_at "w"
  refine wp_part ?_
  repeat walk_at "w"
  refine wp_slice (ws := (fill.drop L.length).map .int) b2 (by decide) (by rw [List.map_drop]; exact pick_drop _ _) (by rw [List.length_map, List.length_drop]; have : fill.length = 12 := rfl; omega) ?_
  have a3 := get_app (o := AO.list ((fill.drop L.length).map .int)) a2
  have b3 : (σ2 ++ [AO.list ((fill.drop L.length).map .int)])[σ2.length]? = some (.list ((fill.drop L.length).map .int)) := get_new
  generalize hn2 : σ2.length = n2 at *
  generalize σ2 ++ [AO.list ((fill.drop L.length).map .int)] = σ3 at *
  repeat walk_at "w"
  have hD := draws_len L
  have eD : (L.take 12).map AV.int ++ (fill.drop L.length).map .int = (draws L).map .int := by unfold draws; rw [List.map_append]
  refine wp_addL a3 b3 (by rw [eD, List.length_map]; omega) ?_
  rw [eD]
  have a4 : (σ3 ++ [AO.list ((draws L).map .int)])[σ3.length]? = some (.list ((draws L).map .int)) := get_new
  generalize hn3 : σ3.length = nd at *
  generalize σ3 ++ [AO.list ((draws L).map .int)] = σ4 at *
  generalize draws L = D at *
  clear a1 a2 a3 b2 b3 f1 eD hn1 hn2 hn3
  repeat walk_at "w"
  refine wp_part ?_
  repeat walk_at "w"
  refine wp_slice (ws := (D.take 6).map .int) a4 (by rw [List.length_map]; omega) (by rw [List.map_take]; exact pick_take _ 6) (by rw [List.length_map, List.length_take]; omega) ?_
  have a5 := get_app (o := AO.list ((D.take 6).map .int)) a4
  have b5 : (σ4 ++ [AO.list ((D.take 6).map .int)])[σ4.length]? = some (.list ((D.take 6).map .int)) := get_new
  generalize σ4.length = n4 at *
  generalize σ4 ++ [AO.list ((D.take 6).map .int)] = σ5 at *
  repeat walk_at "w"
  refine wp_liftF (wpF_mono (law_tree_spec b5 (by rw [List.length_take]; omega)) ?_)
  rintro _ σ6 ⟨ab, rk, t, F6, nt, rfl, -, gt⟩
  have a6 := F6.same _ _ (by simp) a5
  repeat walk_at "w"
  refine wp_liftF (wpF_mono (law_told_spec t gt) ?_)
  rintro _ σ7 ⟨H, xs, hs, rfl, R7, F7, -, hps, hx, Y⟩
  repeat walk_at "w"
  have hlen : H.ps.length = 6 := by rw [hps]; exact told_len Y hx
  refine wp_liftF (wpF_mono (law_walk_spec R7 (told_says t Y hx hps)) ?_)
  rintro v σ8 ⟨F8, hv⟩
  have R8 : HdR σ8 H := R7.keep fun i o u1 e => F8.same i o (by simp) e
  have gt8 := F8.same _ _ (by simp) (F7.same _ _ (by simp) gt)
  have a8 := F8.same _ _ (by simp) (F7.same _ _ (by simp) a6)
  rcases hv with ⟨-, k, hk, hc⟩ | ⟨ab2, ys, hs2, rfl, g1, g2, hy, V, A⟩
  · have := Y.tail t hx hk
    omega
  have hag := agree Y hx V hy (.inl rfl) (Y.link t hx)
  have hab : ∀ c ∈ iv7, ab2 c = ab c := fun c hc => by
    by_cases h0 : c = 0
    · rw [h0, A.z, t.z]
    · have h6 : c ∈ iv6 := by rw [mem7] at hc; rw [mem6]; omega
      have h1 := Y.link t hx c h6
      have h2 := A.at_ c h6 (by have := tidx_lt t Y hx c h6; omega)
      rw [← hag, h1] at h2
      exact (Option.some.inj h2).symm
  rw [tl_congr hab] at g1
  repeat walk_at "w"
  refine wp_is (b := false) rfl (wp_truth ?_)
  rw [if_neg (by decide)]
  repeat walk_at "w"
  refine wp_sub_tup rfl ?_
  repeat walk_at "w"
  refine wp_neL (xs := iv7.map ab) (ys := iv7.map ab) g1 gt8 (wp_truth ?_)
  rw [if_neg (by simp)]
  repeat walk_at "w"
  refine wp_lenHd R8 (by omega) ?_
  rw [hlen]
  repeat walk_at "w"
  refine wp_ne (wp_truth ?_)
  rw [if_neg (by decide)]
  repeat walk_at "w"
  rw [if_neg (by decide)]
  repeat walk_at "w"
  clear F6 F7 F8 gt gt8 g1 g2 a6 a5 b5 R7 R8 hab A V Y hag hps hlen
  refine wp_newL (vs := [.int 0]) (by decide) ?_
  have a9 := get_app (o := AO.list [.int 0]) a8
  have b9 : (σ8 ++ [AO.list [.int 0]])[σ8.length]? = some (.list [.int 0]) := get_new
  generalize σ8.length = n8 at *
  generalize σ8 ++ [AO.list [.int 0]] = σ9 at *
  repeat walk_at "w"
  refine wp_comp ?_
  repeat walk_at "w"
  refine wp_part ?_
  repeat walk_at "w"
  refine wp_slice (ws := (D.drop 6).map .int) a9 (by rw [List.length_map]; omega) (by rw [List.map_drop]; exact pick_drop _ 6) (by rw [List.length_map, List.length_drop]; omega) ?_
  have a10 := get_app (o := AO.list ((D.drop 6).map .int)) a9
  have b10 := get_app (o := AO.list ((D.drop 6).map .int)) b9
  have c10 : (σ9 ++ [AO.list ((D.drop 6).map .int)])[σ9.length]? = some (.list ((D.drop 6).map .int)) := get_new
  generalize σ9.length = n9 at *
  generalize σ9 ++ [AO.list ((D.drop 6).map .int)] = σ10 at *
  refine wp_srcL c10 ?_
  dsimp only
  rw [cap_th (m := [none, none]) 2 (by rfl) (by rfl)]
  refine wp_forL (LaA D σ10)
    ⟨[], D.drop 6, none, rfl, rfl, rfl⟩ ?_ ?_
  · rintro _ a r _ - ⟨q1, q2, l1, hq, hr, rfl⟩
    cases q2 with
    | nil => cases hr
    | cons y q2 =>
      rw [List.map_cons, List.cons.injEq] at hr
      obtain ⟨rfl, rfl⟩ := hr
      have hql := congrArg List.length hq
      rw [List.length_append, List.length_drop] at hql
      refine ⟨gOk_of (get_app c10), ?_⟩
      repeat walk_at "w"
      rw [if_pos rfl]
      repeat walk_at "w"
      refine wp_mod (by decide) ?_
      refine wp_appD get_new (by rw [List.length_map]; omega) ?_
      repeat walk_at "w"
      refine ⟨q1 ++ [y], q2, some (.int y), by rw [List.append_assoc]; exact hq, rfl, ?_⟩
      rw [List.set_append_right _ _ (Nat.le_refl _), Nat.sub_self, List.map_append]
      rfl
  rintro _ ⟨q1, q2, l1, hq, hr, rfl⟩
  have : q2 = [] := by cases q2 with | nil => rfl | cons _ _ => cases hr
  subst this
  rw [List.append_nil] at hq
  subst hq
  refine ⟨gOk_of (get_app c10), ?_⟩
  repeat walk_at "w"
  refine ⟨rfl, ?_⟩
  repeat walk_at "w"
  refine wp_addL (get_app b10) get_new (by rw [wishOf_tl hD]; show 7 < 2 ^ 20; decide) ?_
  rw [wishOf_tl hD]
  have hw := wishOf_ok D
  generalize wishOf D = w at hw
  have gw : (σ10 ++ [AO.list ((D.drop 6).map fun y => .int (y.fmod 6))] ++ [AO.list (tl w)])[(σ10 ++ [AO.list ((D.drop 6).map fun y => .int (y.fmod 6))]).length]? = some (.list (tl w)) := get_new
  generalize (σ10 ++ [AO.list ((D.drop 6).map fun y => AV.int (y.fmod 6))]).length = ow at *
  generalize σ10 ++ [AO.list ((D.drop 6).map fun y => AV.int (y.fmod 6))] ++ [AO.list (tl w)] = σ11 at *
  clear a8 a9 a10 b9 b10 c10
  repeat walk_at "w"
  refine wp_liftF (wpF_mono (law_spread_spec gw hw) ?_)
  rintro _ σ12 ⟨H2, rfl, R12, F12, hps2⟩
  repeat walk_at "w"
  refine wp_liftF (wpF_mono (law_walk_spec R12 (spread_says hw hps2)) ?_)
  rintro v σ13 ⟨F13, hv⟩
  have gw13 := F13.same _ _ (by simp) (F12.same _ _ (by simp) gw)
  generalize hn12 : σ12.length = n12 at hv
  have f12 : n12 ≤ σ13.length := hn12 ▸ F13.len
  clear F12 F13 R12 gw hps2
  repeat walk_at "w"
  refine wp_comp ?_
  repeat walk_at "w"
  refine wp_of (a := .rng 1 1 6) rfl ?_
  refine wp_src (vs := iv6.map .int) (g := none) rfl ?_
  dsimp only
  rw [cap_th (m := [none, none, none, some (.obj ow)]) 4 (by rfl) (by rfl)]
  refine wp_forL (LaB σ13 w ow)
    ⟨[], iv6, none, rfl, rfl, rfl, .push _ _, get_new⟩ ?_ ?_
  · rintro _ a r ⟨_, σ14⟩ - ⟨q1, q2, l1, hq, hr, (rfl : _ = th _), F, gd⟩
    cases q2 with
    | nil => cases hr
    | cons k q2 =>
      rw [List.map_cons, List.cons.injEq] at hr
      obtain ⟨rfl, rfl⟩ := hr
      have hql : q1.length ≤ 6 := by have := congrArg List.length hq; rw [List.length_append] at this; have : iv6.length = 6 := rfl; omega
      have gd' : σ14[σ13.length]? = _ := gd
      refine ⟨gOk_none, ?_⟩
      repeat walk_at "w"
      refine wp_comp ?_
      repeat walk_at "w"
      refine wp_part ?_
      repeat walk_at "w"
      refine wp_slice (ws := iv6.map fun c => .int (w c)) (F.same _ _ (by simp) gw13) (show 7 < 2 ^ 20 by decide) (pickL_of (a := 1) (b := 7) _ (show sliceBounds (some 1) none none 7 = (1, 7, 1) by decide)) (show 6 < 2 ^ 20 by decide) ?_
      have gs : (σ14 ++ [AO.list (iv6.map fun c => .int (w c))])[σ14.length]? = some (.list (iv6.map fun c => .int (w c))) := get_new
      have gd2 := get_app (o := AO.list (iv6.map fun c => .int (w c))) gd'
      have F2 := F.pushN (AO.list (iv6.map fun c => .int (w c)))
      dsimp only at F2
      generalize σ14.length = n14 at *
      generalize σ14 ++ [AO.list (iv6.map fun c => .int (w c))] = σ15 at *
      refine wp_srcL gs ?_
      dsimp only
      rw [cap_th (m := [none, none, some (.int k)]) 3 (by rfl) (by rfl)]
      refine wp_forL (LaC k σ15 w)
        ⟨[], iv6, none, rfl, rfl, rfl⟩ ?_ ?_
      · rintro _ a r _ - ⟨p1, p2, l1, hp, hr2, rfl⟩
        cases p2 with
        | nil => cases hr2
        | cons c p2 =>
          rw [List.map_cons, List.cons.injEq] at hr2
          obtain ⟨rfl, rfl⟩ := hr2
          have hpl : p1.length ≤ 6 := by have := congrArg List.length hp; rw [List.length_append] at this; have : iv6.length = 6 := rfl; omega
          refine ⟨gOk_of (get_app gs), ?_⟩
          repeat walk_at "w"
          refine wp_lt ?_
          refine wp_truth ?_
          by_cases h : w c < k
          · rw [if_pos (by simpa using h)]
            repeat walk_at "w"
            rw [if_pos rfl]
            repeat walk_at "w"
            refine wp_appD get_new (by rw [List.length_map]; refine Nat.lt_of_le_of_lt (List.length_filter_le ..) ?_; rw [List.length_map]; omega) ?_
            repeat walk_at "w"
            refine ⟨p1 ++ [c], p2, some (.int (w c)), by rw [List.append_assoc]; exact hp, rfl, ?_⟩
            rw [List.set_append_right _ _ (Nat.le_refl _), Nat.sub_self, List.map_append, List.filter_append, show List.map w [c] = [w c] from rfl, List.filter_cons_of_pos (by simpa using h), List.map_append]
            rfl
          · rw [if_neg (by simpa using h)]
            repeat walk_at "w"
            rw [if_neg (by decide)]
            repeat walk_at "w"
            refine ⟨p1 ++ [c], p2, some (.int (w c)), by rw [List.append_assoc]; exact hp, rfl, ?_⟩
            rw [List.map_append, List.filter_append, show List.map w [c] = [w c] from rfl, List.filter_cons_of_neg (by simpa using h), List.filter_nil, List.append_nil]
            rfl
      rintro _ ⟨p1, p2, l2, hp, hr2, rfl⟩
      have : p2 = [] := by cases p2 with | nil => rfl | cons _ _ => cases hr2
      subst this
      rw [List.append_nil] at hp
      subst hp
      refine ⟨gOk_of (get_app gs), ?_⟩
      repeat walk_at "w"
      refine ⟨rfl, ?_⟩
      repeat walk_at "w"
      have hfl : ((iv6.map w).filter fun v => decide (v < k)).length ≤ 6 := List.length_filter_le ..
      refine wp_lenIL get_new (by rw [List.length_map]; omega) ?_
      rw [List.length_map]
      repeat walk_at "w"
      refine wp_lt ?_
      refine wp_truth ?_
      have gd3 := get_app (o := AO.list (((iv6.map w).filter fun v => decide (v < k)).map .int)) gd2
      have F3 := F2.pushN (AO.list (((iv6.map w).filter fun v => decide (v < k)).map .int))
      generalize σ15 ++ [AO.list (((iv6.map w).filter fun v => decide (v < k)).map AV.int)] = σ16 at *
      rw [show decide ((((iv6.map w).filter fun v => decide (v < k)).length : Int) < k) = fewB w k from rfl]
      by_cases h : fewB w k = true
      · rw [if_pos h]
        repeat walk_at "w"
        rw [if_pos rfl]
        repeat walk_at "w"
        refine wp_appD gd3 (by rw [List.length_map]; exact Nat.lt_of_le_of_lt (List.length_filter_le ..) (by omega)) ?_
        repeat walk_at "w"
        refine ⟨q1 ++ [k], q2, some (.int k), by rw [List.append_assoc]; exact hq, rfl, rfl, F3.setN (Nat.le_refl _) _, ?_⟩
        rw [List.filter_append, List.filter_cons_of_pos h, List.map_append]
        exact at_set gd3
      · rw [if_neg h]
        repeat walk_at "w"
        rw [if_neg (by decide)]
        repeat walk_at "w"
        refine ⟨q1 ++ [k], q2, some (.int k), by rw [List.append_assoc]; exact hq, rfl, rfl, F3, ?_⟩
        rw [List.filter_append, List.filter_cons_of_neg h, List.filter_nil, List.append_nil]
        exact gd3
  rintro ⟨_, σ14⟩ ⟨q1, q2, l1, hq, hr, (rfl : _ = th _), F, gd⟩
  have : q2 = [] := by cases q2 with | nil => rfl | cons _ _ => cases hr
  subst this
  rw [List.append_nil] at hq
  subst hq
  refine ⟨gOk_none, ?_⟩
  repeat walk_at "w"
  refine ⟨rfl, ?_⟩
  have gw14 := F.same _ _ (by simp) gw13
  dsimp only at gw14 gd
  repeat walk_at "w"
  refine wp_newL (vs := []) (by decide) ?_
  have gd15 := get_app (o := AO.list []) gd
  have gw15 := get_app (o := AO.list []) gw14
  have F15 := F.pushN (AO.list [])
  have ge : (σ14 ++ [AO.list []])[σ14.length]? = some (.list []) := get_new
  dsimp only at F15
  generalize σ14.length = n14 at *
  generalize σ14 ++ [AO.list []] = σ15 at *
  repeat walk_at "w"
  refine wp_neL (xs := few w) (ys := []) gd15 ge ?_
  refine wp_truth ?_
  rcases hv with ⟨rfl, hk⟩ | ⟨ab2, ys, hs2, rfl, g1, g2, hy, V, A⟩
  · rw [decide_eq_false (few_none hw hk), if_pos (by decide)]
    repeat walk_at "w"
    refine wp_is (b := true) rfl ?_
    repeat walk_at "w"
    rfl
  rw [few_some hw V hy, if_neg (by decide)]
  repeat walk_at "w"
  refine wp_is (b := false) rfl (wp_truth ?_)
  rw [if_neg (by decide)]
  repeat walk_at "w"
  refine wp_untup ?_
  dsimp only [ass1, ass0]
  repeat walk_at "w"
  have g1' := F15.same _ _ (by simp) g1
  have g2' := F15.same _ _ (by simp) g2
  clear gd gd15 ge F gw13 gw14 F15 g1 g2
  refine wp_liftF (wpF_mono (law_places_spec gw15 hw) ?_)
  rintro _ σ16 ⟨rp, pl, rfl, gp, F16, hpl, hP⟩
  have g1 := F16.same _ _ (by simp) g1'
  have g2 := F16.same _ _ (by simp) g2'
  have gw := F16.same _ _ (by simp) gw15
  clear g1' g2' gw15 F16
  repeat walk_at "w"
  refine wp_newL (vs := [.int 0]) (by decide) ?_
  have gp1 := get_app (o := AO.list [.int 0]) gp
  have g11 := get_app (o := AO.list [.int 0]) g1
  have g21 := get_app (o := AO.list [.int 0]) g2
  have gw1 := get_app (o := AO.list [.int 0]) gw
  have gz : (σ16 ++ [AO.list [.int 0]])[σ16.length]? = some (.list [.int 0]) := get_new
  generalize σ16.length = n16 at *
  generalize σ16 ++ [AO.list [.int 0]] = σ17 at *
  repeat walk_at "w"
  refine wp_comp ?_
  repeat walk_at "w"
  refine wp_of (a := .rng 0 1 6) rfl ?_
  refine wp_src (vs := (List.range 6).map fun v : Nat => .int (v : Int)) (g := none) rfl ?_
  dsimp only
  rw [cap_th (m := [none, none, some (.obj rp)]) 3 (by rfl) (by rfl)]
  refine wp_forL (LaD σ17 ys rp)
    ⟨[], List.range 6, none, rfl, rfl, rfl⟩ ?_ ?_
  · rintro _ a r _ - ⟨q1, q2, l1, hq, hr, rfl⟩
    cases q2 with
    | nil => cases hr
    | cons v q2 =>
      rw [List.map_cons, List.cons.injEq] at hr
      obtain ⟨rfl, rfl⟩ := hr
      obtain ⟨rfl, hv6⟩ := range_at hq
      obtain ⟨c, hc⟩ : ∃ c, ys[q1.length]? = some c := ⟨_, List.getElem?_eq_getElem (by omega)⟩
      obtain ⟨j, hj, hcj⟩ := place_find hw V hy hP hpl hc
      refine ⟨gOk_none, ?_⟩
      repeat walk_at "w"
      rw [if_pos rfl]
      repeat walk_at "w"
      refine wp_guard (isLst_of (get_app gp1)) ?_
      repeat walk_at "w"
      refine wp_index (get_app gp1) (by omega) hj ?_
      repeat walk_at "w"
      refine wp_add ?_
      rw [← hcj]
      refine wp_appD get_new (by rw [List.length_map, List.length_take]; omega) ?_
      repeat walk_at "w"
      refine ⟨q1 ++ [q1.length], q2, some (.int (q1.length : Int)), by rw [List.append_assoc]; exact hq, rfl, ?_⟩
      rw [List.set_append_right _ _ (Nat.le_refl _), Nat.sub_self, List.length_append, List.length_singleton, List.take_succ, hc, List.map_append]
      rfl
  rintro _ ⟨q1, q2, l1, hq, hr, rfl⟩
  have : q2 = [] := by cases q2 with | nil => rfl | cons _ _ => cases hr
  subst this
  rw [List.append_nil] at hq
  have hql : q1.length = 6 := by rw [hq]; rfl
  rw [hql, List.take_of_length_le (by omega)]
  refine ⟨gOk_none, ?_⟩
  repeat walk_at "w"
  refine ⟨rfl, ?_⟩
  repeat walk_at "w"
  refine wp_addL (get_app gz) get_new (by rw [List.length_append, List.length_map, hy]; decide) ?_
  repeat walk_at "w"
  refine wp_neL (xs := 0 :: ys) (ys := 0 :: ys) (get_app (get_app g21)) get_new ?_
  refine wp_truth ?_
  rw [if_neg (by simp)]
  repeat walk_at "w"
  have g12 := get_app (o := AO.list ([.int 0] ++ ys.map .int)) (get_app (o := AO.list (ys.map .int)) g11)
  have gw2 := get_app (o := AO.list ([.int 0] ++ ys.map .int)) (get_app (o := AO.list (ys.map .int)) gw1)
  generalize σ17 ++ [AO.list (ys.map AV.int)] ++ [AO.list ([AV.int 0] ++ ys.map AV.int)] = σ18 at *
  clear gp gp1 g11 g21 gw1 gz g1 g2 gw hq hql
  have hA : ∀ c ∈ iv6, (0 :: ys)[widx w c]? = some (ab2 c) := fun c hc => A.at_ c hc (by have := hw.2 c; show (w c).toNat < _; omega)
  have t2 := walk_tree V hy A (fun c => by have := hw.2 c; show (w c).toNat ≤ 5; omega)
  refine wp_liftF (wpF_mono (law_told_spec t2 g12) ?_)
  rintro _ σ19 ⟨H3, xs3, hs3, rfl, R19, F19, -, hps3, hx3, Y3⟩
  have hag3 := agree Y3 hx3 V hy (.inr rfl) hA
  rw [hag3, walk_rows hw V hy A] at hps3
  have hl3 : H3.ps.length = 6 := by rw [hps3, ← walk_rows hw V hy A, ← hag3]; exact told_len Y3 hx3
  have gw3 := F19.same _ _ (by simp) gw2
  repeat walk_at "w"
  refine wp_guard (isInst_of R19.ht R19.hd hdA_items) ?_
  repeat walk_at "w"
  refine wp_liftF (items_spec R19 (by omega) ?_)
  rw [hps3]
  have gi : (σ19 ++ [AO.list (((List.range 6).flatMap (irow w)).map hdV)])[σ19.length]? = some (.list (((List.range 6).flatMap (irow w)).map hdV)) := get_new
  have gw4 := get_app (o := AO.list (((List.range 6).flatMap (irow w)).map hdV)) gw3
  generalize σ19.length = n19 at *
  generalize σ19 ++ [AO.list (((List.range 6).flatMap (irow w)).map hdV)] = σ20 at *
  repeat walk_at "w"
  refine wp_comp ?_
  repeat walk_at "w"
  refine wp_of (a := .rng 0 1 6) rfl ?_
  refine wp_src (vs := (List.range 6).map fun v : Nat => .int (v : Int)) (g := none) rfl ?_
  dsimp only
  rw [cap_th (m := [none, none, none, none, none, some (.obj ow)]) 6 (by rfl) (by rfl)]
  have big : ((List.range 6).flatMap (irow w)).length = 6 := by rw [← hps3]; exact hl3
  refine wp_forL (LaE σ20 w ow)
    ⟨[], List.range 6, none, none, rfl, rfl, rfl⟩ ?_ ?_
  · rintro _ a r _ - ⟨q1, q2, l1, l2, hq, hr, rfl⟩
    cases q2 with
    | nil => cases hr
    | cons v q2 =>
      rw [List.map_cons, List.cons.injEq] at hr
      obtain ⟨rfl, rfl⟩ := hr
      have hv6 := (range_at hq).2
      obtain ⟨s, hs⟩ : ∃ s, stp[v]? = some s := ⟨_, List.getElem?_eq_getElem (by show v < 7; omega)⟩
      have hql : (q1.flatMap (irow w)).length ≤ 6 := by
        rw [← hq, List.flatMap_append, List.length_append] at big
        omega
      refine ⟨gOk_none, ?_⟩
      repeat walk_at "w"
      rw [if_pos rfl]
      repeat walk_at "w"
      refine wp_of (a := .rng 1 1 6) rfl ?_
      refine wp_src (vs := iv6.map .int) (g := none) rfl ?_
      repeat walk_at "w"
      refine wp_forL (LaF σ20 w ow v s q1)
        ⟨[], iv6, l2, rfl, rfl, by rw [List.filter_nil, List.map_nil, List.append_nil]; rfl⟩ ?_ ?_
      · rintro _ a r _ - ⟨p1, p2, l2, hp, hr2, rfl⟩
        cases p2 with
        | nil => cases hr2
        | cons c p2 =>
          rw [List.map_cons, List.cons.injEq] at hr2
          obtain ⟨rfl, rfl⟩ := hr2
          have h6 : c ∈ iv6 := by rw [← hp]; simp
          have hpl6 : p1.length ≤ 6 := by have := congrArg List.length hp; rw [List.length_append] at this; have : iv6.length = 6 := rfl; omega
          refine ⟨gOk_none, ?_⟩
          repeat walk_at "w"
          refine wp_sub_list (get_app gw4) (tl_get (six7 h6)) ?_
          repeat walk_at "w"
          refine wp_eq ?_
          refine wp_truth ?_
          by_cases h : w c = (v : Int)
          · rw [if_pos (by simpa using h)]
            repeat walk_at "w"
            rw [if_pos rfl]
            repeat walk_at "w"
            refine wp_tup (show 2 < 2 ^ 20 by decide) ?_
            repeat walk_at "w"
            refine wp_mod (by decide) ?_
            refine wp_sub_tup (v := .str (if c.fmod 2 = 0 then S "abcdef" else S "ABCDEF")) ?_ ?_
            · have b1 := Int.fmod_nonneg_of_pos c (b := 2) (by decide)
              have b2 := Int.fmod_lt_of_pos c (b := 2) (by decide)
              by_cases e : c.fmod 2 = 0
              · rw [if_pos e, e]; rfl
              · rw [if_neg e, show c.fmod 2 = 1 by omega]; rfl
            repeat walk_at "w"
            refine wp_sub_str (v := ltr s c) ?_ ?_
            · have hall : ∀ n : Nat, n < 6 → strAt (S "abcdef") n = stp[n]? ∧ strAt (S "ABCDEF") n = (stp[n]?).map Txt.upper := by
                intro n hn
                have := sixN hn
                rcases this with rfl | rfl | rfl | rfl | rfl | rfl <;> exact ⟨by kernel_rfl, by kernel_rfl⟩
              obtain ⟨e1, e2⟩ := hall v hv6
              unfold ltr
              by_cases e : c.fmod 2 = 0
              · rw [if_pos e, if_pos e, e1, hs]
              · rw [if_neg e, if_neg e, e2, hs]; rfl
            repeat walk_at "w"
            refine wp_strNum (num_at h6).2.2 ?_
            repeat walk_at "w"
            refine wp_tup (show 2 < 2 ^ 20 by decide) ?_
            refine wp_appD get_new (by
              rw [List.length_map, List.length_append, List.length_map]
              have := List.length_filter_le (fun c => decide (w c = (v : Int))) p1
              omega) ?_
            repeat walk_at "w"
            refine ⟨p1 ++ [c], p2, some (.int c), by rw [List.append_assoc]; exact hp, rfl, ?_⟩
            rw [List.set_append_right _ _ (Nat.le_refl _), Nat.sub_self, List.filter_append, List.filter_cons_of_pos (by simpa using h), List.map_append, List.map_append, List.map_append, List.map_append, ← List.append_assoc]
            rfl
          · rw [if_neg (by simpa using h)]
            repeat walk_at "w"
            rw [if_neg (by decide)]
            repeat walk_at "w"
            refine ⟨p1 ++ [c], p2, some (.int c), by rw [List.append_assoc]; exact hp, rfl, ?_⟩
            rw [List.filter_append, List.filter_cons_of_neg (by simpa using h), List.filter_nil, List.append_nil]
            rfl
      rintro _ ⟨p1, p2, l2, hp, hr2, rfl⟩
      have : p2 = [] := by cases p2 with | nil => rfl | cons _ _ => cases hr2
      subst this
      rw [List.append_nil] at hp
      subst hp
      refine ⟨gOk_none, ?_⟩
      repeat walk_at "w"
      refine ⟨q1 ++ [v], q2, some (.int (v : Int)), l2, by rw [List.append_assoc]; exact hq, rfl, ?_⟩
      rw [List.flatMap_append, List.flatMap_singleton]
      have : irow w v = (iv6.filter fun c => w c = v).map fun c => (ltr s c, num c) := by unfold irow; rw [hs]; rfl
      rw [this]
  rintro _ ⟨q1, q2, l1, l2, hq, hr, rfl⟩
  have : q2 = [] := by cases q2 with | nil => rfl | cons _ _ => cases hr
  subst this
  rw [List.append_nil] at hq
  subst hq
  refine ⟨gOk_none, ?_⟩
  repeat walk_at "w"
  refine ⟨rfl, ?_⟩
  repeat walk_at "w"
  have hso : ∀ p ∈ (List.range 6).flatMap (irow w), PyData.strOk p.1 = true ∧ PyData.strOk p.2 = true := fun p hp => by
    obtain ⟨v, hv, hpv⟩ := List.mem_flatMap.mp hp
    obtain ⟨c, hc, rfl⟩ := List.mem_map.mp hpv
    have hv6 := List.mem_range.mp hv
    have hst : stp[v]?.getD (S "") ∈ stp := by
      rw [List.getElem?_eq_getElem (show v < stp.length by show v < 7; omega)]
      exact List.getElem_mem _
    exact ⟨(ltr_ok hst c).1.o, (num_at (List.mem_filter.mp hc).1).1.o⟩
  refine wp_eqO (dat_hd (get_app gi) hso) (dat_hd get_new hso) ?_
  rw [eqv_hd]
  repeat walk_at "w"
  rfl
end
end Mine
set_option Elab.async false
set_option maxRecDepth 100000
namespace Mine
open PySem PyProof.Rows PySem.W PySem.SeqAt
theorem VRs.ints {W : Wd} {vs : List Value} {ns : List Int} (h : IntsAre vs ns) : VRs W (ns.map .int) vs := by
  induction h with
  | nil => exact .nil
  | cons _ _ _ ih => exact .cons (.int _ _) ih
theorem law_ok {ns : List Int} (h : ns.length < 2 ^ 20) : ∃ σ', F_law [.lst (ns.map .int)] [] [] = some (.bool true, σ') :=
  Exists.elim (law_spec (σ := []) h) fun r h => Exists.elim h fun σ' h => ⟨σ', h.2 ▸ h.1⟩
theorem walk05 (w : World) (s₁ : Shared) (mg mb : Str → Option Value) (ns : List Int) (vs : List Value) (a : Addr)
    (h1 : s₁.heap.Ns mainGlobals mg) (h2 : s₁.heap.Ns builtinsNs mb) (h3 : s₁.heap.NoLimit) (h4 : ∀ x : Str, x ≠ "__name__" → mb x = bootBuiltins x) (h5 : (heapK PySem.Challenge.pw_op0268_05 w.params).In s₁.heap)
    (h6 : s₁.heap.get? a = some { cls := .type "list", data := .seq vs.toArray }) (h7 : IntsAre vs ns) (h8 : ns.length < 2 ^ 20) (_h9 : s₁.gens = #[])
    (Q E : Value → Shared → Prop) (hq : ∀ h' tk, (∀ b o, s₁.heap.get? b = some o → h'.get? b = some o) → Q (.bool true) { s₁ with heap := h', toks := tk }) :
    wpAny (model PySem.Challenge.pw_op0268_05 w) callerA (call (.ref 372) [.ref a]) Q E s₁ := by
  let C : Cx := ⟨⟨PP, w, s₁.heap, mg, mb, heapK PP w.params⟩, [], true⟩
  have ok : Cx.Ok C.toBx := ⟨h1, h2, h3, h5, h4⟩
  have g : Good w.params C := ⟨rfl, ok, rfl⟩
  have R : Rel C ⟨[], [(a, { cls := .type "list", data := .seq vs.toArray })]⟩ [] s₁.heap :=
    ⟨ok, fun u1 u2 h => h, fun p hp => by rw [List.mem_singleton.mp hp]; exact h6, rfl, List.nodup_nil, fun p u1 => List.not_mem_nil, fun u1 h => absurd h List.not_mem_nil, fun u1 h => absurd h List.not_mem_nil, fun i o b h => absurd h (fun q => nomatch q), fun u1 h => absurd h List.not_mem_nil⟩
  have ho : AOk C 6 callerA := ⟨fun u1 => rfl, rfl, by decide +kernel, by decide +kernel⟩
  refine Exists.elim (law_ok h8) fun σ' e => ?_
  refine (fnk_law g).fn callerA ⟨[], [(a, { cls := .type "list", data := .seq vs.toArray })]⟩ [] s₁ [.lst (ns.map .int)] [.ref a] ho R (.cons (.lst (List.mem_singleton.mpr rfl) (VRs.ints h7)) .nil) (.bool true) σ' e Q E fun v W' h' tk R' u1 hv => ?_
  cases hv
  exact hq h' tk R'.old
theorem all05 : PySem.Challenge.rw_op0268_05.Holds := head05 walk05
end Mine
theorem PySem.Challenge.cw_op0268_05_holds : PySem.Challenge.rw_op0268_05.Holds :=
  Mine.all05
